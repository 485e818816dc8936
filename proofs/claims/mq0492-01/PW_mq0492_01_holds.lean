import PyProof.Rows.All
import Wide.All
import OpenK.AllK
import Wide.FinOn
import PySem.Challenge.RW_mq0492_01
set_option Elab.async false
set_option maxRecDepth 100000
set_option linter.unusedVariables false
namespace Mine
open PySem PyProof.Rows PySem.Calls PySem.Spec

/-! ### data in the heap -/
def Hard (o : Obj) : Prop := (∃ xs n, o.data = .seq xs n) ∨ (∃ vs, o.data = .fields vs)
def SeqO (o : Obj) : Prop := ∃ xs n, o.data = .seq xs n
theorem SeqO.hard {o : Obj} (h : SeqO o) : Hard o := .inl h
/-- no record of fields (an iterator is one) -/
def NoFields (o : Obj) : Prop := ∀ vs, o.data ≠ .fields vs
theorem SeqO.noFields {o : Obj} (h : SeqO o) : NoFields o := fun vs e => by obtain ⟨xs, n, d⟩ := h; rw [d] at e; cases e
/-- every object stands as it stood -/
def XExt (h h' : Heap) : Prop := ∀ b o, h.get? b = some o → h'.get? b = some o
def DictO (o : Obj) : Prop := ∃ es n, o.data = .dict es n
/-- the same, but for a frame's notes -/
def SameO (o o' : Obj) : Prop := o' = o ∨ (DictO o ∧ ∃ sl, o' = { o with slots := sl })
theorem SameO.trans {a b c : Obj} (x : SameO a b) (y : SameO b c) : SameO a c := by
  rcases x with rfl | ⟨d, sl, rfl⟩
  · exact y
  · rcases y with rfl | ⟨d', sl', rfl⟩
    · exact .inr ⟨d, sl, rfl⟩
    · exact .inr ⟨d, sl', rfl⟩
/-- the heap grows; what H holds stands to the sign -/
structure Ext (H h h' : Heap) : Prop where
  to : ∀ b o, h.get? b = some o → ∃ o', h'.get? b = some o' ∧ SameO o o'
  base : XExt H h → XExt H h'
theorem Ext.of {H h h' : Heap} (k : XExt h h') : Ext H h h' := ⟨fun b o e => ⟨o, k b o e, .inl rfl⟩, fun x b o e => k b o (x b o e)⟩
theorem Ext.refl {H : Heap} (h : Heap) : Ext H h h := Ext.of fun _ _ e => e
theorem Ext.trans {H a b c : Heap} (x : Ext H a b) (y : Ext H b c) : Ext H a c :=
  ⟨fun i o e => let ⟨o1, e1, s1⟩ := x.to i o e; let ⟨o2, e2, s2⟩ := y.to i o1 e1; ⟨o2, e2, s1.trans s2⟩, fun q => y.base (x.base q)⟩
theorem XExt.push (h : Heap) (o : Obj) : XExt h (h.push o) := fun _ _ e => Heap.get?_push_of_some o e
theorem Ext.push {H : Heap} (h : Heap) (o : Obj) : Ext H h (h.push o) := Ext.of (XExt.push h o)
theorem Ext.exact {H h h' : Heap} (k : Ext H h h') {b : Addr} {o : Obj} (e : h.get? b = some o) (hn : ¬ DictO o) : h'.get? b = some o := by
  obtain ⟨o', e', s⟩ := k.to b o e
  rcases s with rfl | ⟨d, _⟩
  · exact e'
  · exact absurd d hn
theorem Hard.noDict {o : Obj} (h : Hard o) : ¬ DictO o := by
  rintro ⟨es, n, d⟩
  rcases h with ⟨xs, m, d'⟩ | ⟨vs, d'⟩ <;> rw [d] at d' <;> cases d'
theorem Ext.hard {H h h' : Heap} (k : Ext H h h') {b : Addr} {o : Obj} (ho : Hard o) (e : h.get? b = some o) : h'.get? b = some o := k.exact e ho.noDict
theorem Ext.seq {H h h' : Heap} (k : Ext H h h') {b : Addr} {o : Obj} (ho : SeqO o) (e : h.get? b = some o) : h'.get? b = some o := k.exact e ho.hard.noDict
theorem Ext.lt {H h h' : Heap} (k : Ext H h h') {b : Addr} {o : Obj} (e : h.get? b = some o) : b < h'.objs.size := by obtain ⟨o', e', _⟩ := k.to b o e; exact Heap.lt_size e'
theorem SameO.data {o o' : Obj} (h : SameO o o') : o'.data = o.data := by rcases h with rfl | ⟨_, sl, rfl⟩ <;> rfl
theorem Ext.ns {H h h' : Heap} (k : Ext H h h') {a : Addr} {m : Str → Option Value} (n : h.Ns a m) : h'.Ns a m := by
  obtain ⟨o, es, ep, e, d, r⟩ := n
  obtain ⟨o', e', s⟩ := k.to _ _ e
  exact ⟨o', es, ep, e', s.data.trans d, r⟩
theorem Ext.cell {H h h' : Heap} (k : Ext H h h') {c : Addr} {v : Option Value} (n : h.IsCell c v) : h'.IsCell c v := by
  obtain ⟨o, e, d⟩ := n
  exact ⟨o, k.exact e (by rintro ⟨es, n, q⟩; rw [d] at q; cases q), d⟩
theorem Ext.list {H h h' : Heap} (k : Ext H h h') {c : Addr} {v : Array Value} (n : h.IsList c v) : h'.IsList c v := by
  obtain ⟨o, e, c, m, d⟩ := n; exact ⟨o, k.seq ⟨_, _, d⟩ e, c, m, d⟩
theorem Ext.plain {H h h' : Heap} (k : Ext H h h') {c : Addr} {v : Array Value} (n : h.PlainList c v) : h'.PlainList c v := by
  obtain ⟨m, e⟩ := n; exact ⟨m, k.seq ⟨_, _, rfl⟩ e⟩

/-- `Rep X h v d`: in h the value v stands for d, and none of its objects lies in X -/
inductive RepW (X : Addr → Prop) (h : Heap) : Bool → List Value → List PyData → Prop
  | bool (b) : RepW X h true [.bool b] [.bool b]
  | int (i t) : RepW X h true [.int i t] [.int i]
  | list {a o vs n xs} : ¬ X a → h.get? a = some o → o.cls = .type "list" → o.data = .seq vs n → RepW X h false vs.toList xs → RepW X h true [.ref a] [.list xs]
  | tuple {a o vs n xs} : ¬ X a → h.get? a = some o → o.cls = .type "tuple" → o.data = .seq vs n → RepW X h false vs.toList xs → RepW X h true [.ref a] [.tuple xs]
  | nil : RepW X h false [] []
  | cons {v vs d ds} : RepW X h true [v] [d] → RepW X h false vs ds → RepW X h false (v :: vs) (d :: ds)

def Rep (X : Addr → Prop) (h : Heap) (v : Value) (d : PyData) : Prop := RepW X h true [v] [d]
def RepAll (X : Addr → Prop) (h : Heap) (vs : List Value) (ds : List PyData) : Prop := RepW X h false vs ds

theorem RepW.mono {X X' : Addr → Prop} {h h' : Heap} {b : Bool} {vs : List Value} {ds : List PyData} (r : RepW X h b vs ds)
    (hX : ∀ a, X' a → X a) (k : ∀ b o, ¬ X b → SeqO o → h.get? b = some o → h'.get? b = some o) : RepW X' h' b vs ds := by
  induction r with
  | bool b => exact .bool b
  | int i t => exact .int i t
  | list x e c d _ ih => exact .list (fun q => x (hX _ q)) (k _ _ x ⟨_, _, d⟩ e) c d ih
  | tuple x e c d _ ih => exact .tuple (fun q => x (hX _ q)) (k _ _ x ⟨_, _, d⟩ e) c d ih
  | nil => exact .nil
  | cons _ _ i1 i2 => exact .cons i1 i2

theorem Rep.mono {X X' : Addr → Prop} {h h' : Heap} {v : Value} {d : PyData} (r : Rep X h v d) (hX : ∀ a, X' a → X a)
    (k : ∀ b o, ¬ X b → SeqO o → h.get? b = some o → h'.get? b = some o) : Rep X' h' v d := RepW.mono r hX k
theorem RepAll.mono {X X' : Addr → Prop} {h h' : Heap} {v : List Value} {d : List PyData} (r : RepAll X h v d) (hX : ∀ a, X' a → X a)
    (k : ∀ b o, ¬ X b → SeqO o → h.get? b = some o → h'.get? b = some o) : RepAll X' h' v d := RepW.mono r hX k
theorem Rep.ext {X : Addr → Prop} {H h h' : Heap} {v : Value} {d : PyData} (r : Rep X h v d) (k : Ext H h h') : Rep X h' v d := r.mono (fun _ x => x) fun b o _ ho e => k.seq ho e
theorem RepAll.ext {X : Addr → Prop} {H h h' : Heap} {v : List Value} {d : List PyData} (r : RepAll X h v d) (k : Ext H h h') : RepAll X h' v d := r.mono (fun _ x => x) fun b o _ ho e => k.seq ho e

theorem Rep.xext {X : Addr → Prop} {h h' : Heap} {v : Value} {d : PyData} (r : Rep X h v d) (k : XExt h h') : Rep X h' v d := r.mono (fun _ x => x) fun b o _ _ e => k b o e
theorem RepAll.xext {X : Addr → Prop} {h h' : Heap} {v : List Value} {d : List PyData} (r : RepAll X h v d) (k : XExt h h') : RepAll X h' v d := r.mono (fun _ x => x) fun b o _ _ e => k b o e

theorem RepW.reads {X : Addr → Prop} {h : Heap} {b : Bool} {vs : List Value} {ds : List PyData} (r : RepW X h b vs ds) :
    match b with | true => ∀ v d, vs = [v] → ds = [d] → ∃ as, Reads h v d as | false => ∃ as, ReadsAll h vs ds as := by
  induction r with
  | bool b => rintro v d ⟨⟩ ⟨⟩; exact ⟨_, .bool b⟩
  | int i t => rintro v d ⟨⟩ ⟨⟩; exact ⟨_, .int i t⟩
  | list x e c d _ ih => rintro v' d' ⟨⟩ ⟨⟩; obtain ⟨as, h⟩ := ih; exact ⟨_, .list e c d h⟩
  | tuple x e c d _ ih => rintro v' d' ⟨⟩ ⟨⟩; obtain ⟨as, h⟩ := ih; exact ⟨_, .tuple e c d h⟩
  | nil => exact ⟨_, .nil⟩
  | cons _ _ i1 i2 => obtain ⟨as, h1⟩ := i1 _ _ rfl rfl; obtain ⟨bs, h2⟩ := i2; exact ⟨_, .cons h1 h2⟩
theorem Rep.reads {X : Addr → Prop} {h : Heap} {v : Value} {d : PyData} (r : Rep X h v d) : ∃ as, Reads h v d as := RepW.reads (b := true) r v d rfl rfl
theorem RepAll.reads {X : Addr → Prop} {h : Heap} {vs : List Value} {ds : List PyData} (r : RepAll X h vs ds) : ∃ as, ReadsAll h vs ds as := RepW.reads (b := false) r

theorem Rep.int_inv {X : Addr → Prop} {h : Heap} {v : Value} {i : Int} (r : Rep X h v (.int i)) : ∃ t, v = .int i t := by cases r; exact ⟨_, rfl⟩
theorem Rep.bool_inv {X : Addr → Prop} {h : Heap} {v : Value} {i : Bool} (r : Rep X h v (.bool i)) : v = .bool i := by cases r; rfl
theorem Rep.list_inv {X : Addr → Prop} {h : Heap} {v : Value} {ds : List PyData} (r : Rep X h v (.list ds)) :
    ∃ a vs, v = .ref a ∧ ¬ X a ∧ h.IsList a vs ∧ RepAll X h vs.toList ds := by
  cases r with
  | list x e c d r => exact ⟨_, _, rfl, x, ⟨_, e, c, _, d⟩, r⟩
theorem Rep.tuple_inv {X : Addr → Prop} {h : Heap} {v : Value} {ds : List PyData} (r : Rep X h v (.tuple ds)) :
    ∃ a vs, v = .ref a ∧ ¬ X a ∧ h.IsTuple a vs ∧ RepAll X h vs.toList ds := by
  cases r with
  | tuple x e c d r => exact ⟨_, _, rfl, x, ⟨_, e, c, _, d⟩, r⟩
theorem Rep.of_list {X : Addr → Prop} {h : Heap} {a : Addr} {vs : Array Value} {ds : List PyData} (x : ¬ X a) (l : h.IsList a vs) (r : RepAll X h vs.toList ds) : Rep X h (.ref a) (.list ds) := by
  obtain ⟨o, e, c, n, d⟩ := l; exact .list x e c d r
theorem Rep.of_tuple {X : Addr → Prop} {h : Heap} {a : Addr} {vs : Array Value} {ds : List PyData} (x : ¬ X a) (l : h.IsTuple a vs) (r : RepAll X h vs.toList ds) : Rep X h (.ref a) (.tuple ds) := by
  obtain ⟨o, e, c, n, d⟩ := l; exact .tuple x e c d r

theorem RepAll.length {X : Addr → Prop} {h : Heap} : ∀ {vs : List Value} {ds : List PyData}, RepAll X h vs ds → vs.length = ds.length
  | [], _, r => by cases r; rfl
  | v :: vs, _, r => by cases r with | cons _ r => rw [List.length_cons, List.length_cons, RepAll.length r]
theorem RepAll.get {X : Addr → Prop} {h : Heap} : ∀ {vs : List Value} {ds : List PyData}, RepAll X h vs ds → ∀ {i : Nat} {d : PyData}, ds[i]? = some d → ∃ v, vs[i]? = some v ∧ Rep X h v d
  | [], _, r, i, d, e => by cases r; simp at e
  | v :: vs, _, r, i, d, e => by
    cases r with
    | cons a r =>
      cases i with
      | zero => simp at e; subst e; exact ⟨v, rfl, a⟩
      | succ i => simp at e; simpa using RepAll.get r e
theorem RepAll.get' {X : Addr → Prop} {h : Heap} : ∀ {vs : List Value} {ds : List PyData}, RepAll X h vs ds → ∀ {i : Nat} {v : Value}, vs[i]? = some v → ∃ d, ds[i]? = some d ∧ Rep X h v d
  | [], _, r, i, d, e => by simp at e
  | v :: vs, _, r, i, d, e => by
    cases r with
    | cons a r =>
      cases i with
      | zero => simp at e; subst e; exact ⟨_, rfl, a⟩
      | succ i => simp at e; simpa using RepAll.get' r e
theorem RepAll.append {X : Addr → Prop} {h : Heap} : ∀ {vs ws : List Value} {ds es : List PyData}, RepAll X h vs ds → RepAll X h ws es → RepAll X h (vs ++ ws) (ds ++ es)
  | [], _, _, _, r, q => by cases r; exact q
  | v :: vs, _, _, _, r, q => by cases r with | cons a r => exact .cons a (RepAll.append r q)
theorem RepAll.one {X : Addr → Prop} {h : Heap} {v : Value} {d : PyData} (r : Rep X h v d) : RepAll X h [v] [d] := .cons r .nil
theorem RepAll.two {X : Addr → Prop} {h : Heap} {v w : Value} {d e : PyData} (r : Rep X h v d) (q : Rep X h w e) : RepAll X h [v, w] [d, e] := .cons r (.cons q .nil)
theorem RepAll.two_inv {X : Addr → Prop} {h : Heap} {vs : List Value} {d e : PyData} (r : RepAll X h vs [d, e]) : ∃ v w, vs = [v, w] ∧ Rep X h v d ∧ Rep X h w e := by
  cases r with | cons a r => cases r with | cons b r => cases r; exact ⟨_, _, rfl, a, b⟩
theorem RepAll.three_inv {X : Addr → Prop} {h : Heap} {vs : List Value} {d e f : PyData} (r : RepAll X h vs [d, e, f]) : ∃ v w u, vs = [v, w, u] ∧ Rep X h v d ∧ Rep X h w e ∧ Rep X h u f := by
  cases r with | cons a r => cases r with | cons b r => cases r with | cons c r => cases r; exact ⟨_, _, _, rfl, a, b, c⟩
theorem RepAll.ints {X : Addr → Prop} {h : Heap} : ∀ {vs : List Value} {ns : List Int}, RepAll X h vs (ns.map .int) → IntsAre vs ns
  | [], [], _ => .nil
  | [], _ :: _, r => by cases r
  | v :: vs, [], r => by cases r
  | v :: vs, n :: ns, r => by
    cases r with
    | cons a r => obtain ⟨t, rfl⟩ := Rep.int_inv a; exact .cons _ _ (RepAll.ints r)

theorem Rep.not_in {X : Addr → Prop} {h : Heap} {a : Addr} {d : PyData} (r : Rep X h (.ref a) d) : ¬ X a ∧ a < h.objs.size := by
  cases r with
  | list x e _ _ _ => exact ⟨x, Heap.lt_size e⟩
  | tuple x e _ _ _ => exact ⟨x, Heap.lt_size e⟩

/-- what lies in the heap lies below its size -/
theorem RepW.low {X : Addr → Prop} {h : Heap} {b : Bool} {vs : List Value} {ds : List PyData} (r : RepW X h b vs ds) {hi : Nat} (hh : h.objs.size ≤ hi) : RepW (fun a => X a ∨ hi ≤ a) h b vs ds := by
  induction r with
  | bool b => exact .bool b
  | int i t => exact .int i t
  | list x e c d _ ih => exact .list (fun q => q.elim x fun q => absurd (Heap.lt_size e) (Nat.not_lt.mpr (Nat.le_trans hh q))) e c d ih
  | tuple x e c d _ ih => exact .tuple (fun q => q.elim x fun q => absurd (Heap.lt_size e) (Nat.not_lt.mpr (Nat.le_trans hh q))) e c d ih
  | nil => exact .nil
  | cons _ _ i1 i2 => exact .cons i1 i2
end Mine
namespace Mine
open PySem PyProof.Rows PySem.Calls PySem.Spec

structure G where
  prog : Program
  w : World
  vw : Program
  loose : List Str
  mean : ExcName → Option Value
  mg : Str → Option Value
  mb : Str → Option Value
  H : Heap
  top : Top vw loose mean mg mb H
abbrev G.M (g : G) : Model := model g.prog g.w

structure AOk (n : Nat) (A : Around) : Prop where
  handled : A.handled = none
  depth : A.depth + n < recursionLimit
  units : A.units + 3 * n + 100 < cLine

abbrev Sig := List (Str × PyData)

structure EnvOK (X : Addr → Prop) (sc : Scope) (env : Env) (h : Heap) (σ : Sig) : Prop where
  scope : env.scope = sc
  kind : sc.kind = .function
  globals : env.globals = mainGlobals
  builtins : env.builtins = builtinsNs
  loc : ∃ m, h.Ns env.locals m ∧ ∀ x d, σ.lookup x = some d → sc.names.lookup x = some .local → ∃ v, m x = some v ∧ Rep X h v d
  cell : ∀ x d, σ.lookup x = some d → (sc.names.lookup x = some .cell ∨ sc.names.lookup x = some .free) → ∃ c v, env.cells.lookup x = some c ∧ h.IsCell c (some v) ∧ Rep X h v d
  apart : ∀ x y c, env.cells.lookup x = some c → env.cells.lookup y = some c → x = y

theorem EnvOK.ext {X : Addr → Prop} {sc : Scope} {env : Env} {h h' : Heap} {σ : Sig} {H : Heap} (e : EnvOK X sc env h σ) (k : Ext H h h') : EnvOK X sc env h' σ where
  scope := e.scope
  kind := e.kind
  globals := e.globals
  builtins := e.builtins
  loc := let ⟨m, a, b⟩ := e.loc; ⟨m, k.ns a, fun x d h1 h2 => let ⟨v, p, q⟩ := b x d h1 h2; ⟨v, p, q.ext k⟩⟩
  cell := fun x d h1 h2 => let ⟨c, v, p, q, r⟩ := e.cell x d h1 h2; ⟨c, v, p, k.cell q, r.ext k⟩
  apart := e.apart

def DictAt (h : Heap) (L : Addr) : Prop := ∃ o, h.get? L = some o ∧ DictO o
/-- the frames that stand on the stack -/
def Stk (H : Heap) (A : Around) (h : Heap) : Prop := ∃ l, A.frames = some l ∧ ∀ env ∈ l, env.scope.kind ≠ .module ∧ ∃ L, env.frame = some L ∧ H.get? L = none ∧ DictAt h L
theorem Ext.dictAt {H h h' : Heap} (k : Ext H h h') {L : Addr} (d : DictAt h L) : DictAt h' L := by
  obtain ⟨o, e, es, n, hd⟩ := d
  obtain ⟨o', e', s⟩ := k.to _ _ e
  exact ⟨o', e', es, n, s.data.trans hd⟩
theorem Stk.mono {H h h' : Heap} {A : Around} (s : Stk H A h) (k : ∀ L, DictAt h L → DictAt h' L) : Stk H A h' :=
  let ⟨l, a, b⟩ := s; ⟨l, a, fun env he => let ⟨h1, L, h2, h3, h4⟩ := b env he; ⟨h1, L, h2, h3, k L h4⟩⟩
structure Ok (g : G) (n : Nat) (X : Addr → Prop) (A : Around) (s : Shared) : Prop where
  a : AOk n A
  base : XExt g.H s.heap
  xb : ∀ a, X a → ∃ o, s.heap.get? a = some o ∧ SeqO o
  stk : Stk g.H A s.heap

/-- one step: the heap grows -/
def Kp (H : Heap) (s s' : Shared) : Prop := ∃ h' tk, s' = { s with heap := h', toks := tk } ∧ Ext H s.heap h'
theorem keeps_refl {H : Heap} (s : Shared) : Kp H s s := ⟨s.heap, s.toks, rfl, Ext.refl _⟩
theorem keeps_trans {H : Heap} {a b c : Shared} (x : Kp H a b) (y : Kp H b c) : Kp H a c := by
  obtain ⟨h, t, rfl, p⟩ := x
  obtain ⟨h', t', rfl, q⟩ := y
  exact ⟨h', t', rfl, p.trans q⟩
theorem keeps_ext {H : Heap} {a b : Shared} (x : Kp H a b) : Ext H a.heap b.heap := by obtain ⟨h, t, rfl, p⟩ := x; exact p
theorem keeps_toks {H : Heap} (s : Shared) (t : Nat) : Kp H s { s with toks := t } := ⟨s.heap, t, rfl, Ext.refl _⟩
theorem keeps_heap {H : Heap} {s : Shared} {h : Heap} (k : Ext H s.heap h) : Kp H s { s with heap := h } := ⟨h, s.toks, rfl, k⟩
theorem keeps_both {H : Heap} {s : Shared} {h : Heap} {t : Nat} (k : Ext H s.heap h) : Kp H s { s with heap := h, toks := t } := ⟨h, t, rfl, k⟩

theorem Ok.keeps {g : G} {n : Nat} {X : Addr → Prop} {A : Around} {s s' : Shared} (o : Ok g n X A s) (k : Kp g.H s s') : Ok g n X A s' :=
  ⟨o.a, (keeps_ext k).base o.base, fun a x => let ⟨q, e, h⟩ := o.xb a x; ⟨q, (keeps_ext k).seq h e, h⟩, o.stk.mono fun _ d => (keeps_ext k).dictAt d⟩
theorem Ok.fresh {g : G} {n : Nat} {X : Addr → Prop} {A : Around} {s : Shared} (o : Ok g n X A s) {a : Addr} (h : s.heap.objs.size ≤ a) : ¬ X a := fun x => by
  obtain ⟨q, e, _⟩ := o.xb a x
  exact absurd (Heap.lt_size e) (Nat.not_lt.mpr h)
theorem Ok.size {g : G} {n : Nat} {X : Addr → Prop} {A : Around} {s : Shared} (o : Ok g n X A s) : ¬ X s.heap.objs.size := o.fresh (Nat.le_refl _)

/-- e evaluates to d, and the heap only grows -/
def Ev (g : G) (n : Nat) (sc : Scope) (σ : Sig) (e : Expr) (d : PyData) : Prop :=
  ∀ (X : Addr → Prop) (A : Around) (env : Env) (s : Shared) (E : Value → Shared → Prop) (Q : Value → Shared → Prop), Ok g n X A s → EnvOK X sc env s.heap σ →
    (∀ v s', Kp g.H s s' → Rep X s'.heap v d → Q v s') → wpAny (model g.prog g.w) A (eval e env) Q E s

/-- as a test -/
def Tst (g : G) (n : Nat) (sc : Scope) (σ : Sig) (e : Expr) (b : Bool) : Prop :=
  ∀ (X : Addr → Prop) (A : Around) (env : Env) (s : Shared) (E : Value → Shared → Prop) (Q : Bool → Shared → Prop), Ok g n X A s → EnvOK X sc env s.heap σ →
    (∀ s', Kp g.H s s' → Q b s') → wpAny (model g.prog g.w) A (isTrue e env (eval e env)) Q E s

/-- a list of expressions -/
def EvL (g : G) (n : Nat) (sc : Scope) (σ : Sig) (es : List Expr) (ds : List PyData) : Prop :=
  ∀ (pos : Pos) (X : Addr → Prop) (A : Around) (env : Env) (s : Shared) (E : Value → Shared → Prop) (Q : List Value → Shared → Prop), Ok g n X A s → EnvOK X sc env s.heap σ →
    (∀ vs s', Kp g.H s s' → RepAll X s'.heap vs ds → Q vs s') → wpAny (model g.prog g.w) A (spliced (backTo pos (starEach es env))) Q E s

/-- calling the value f on data ds gives d -/
def Fun (g : G) (n : Nat) (f : Value) (ds : List PyData) (d : PyData) : Prop :=
  ∀ (X : Addr → Prop) (A : Around) (s : Shared) (E : Value → Shared → Prop) (Q : Value → Shared → Prop) (vs : List Value), Ok g n X A s → RepAll X s.heap vs ds →
    (∀ v s', Kp g.H s s' → Rep X s'.heap v d → Q v s') → wpAny (model g.prog g.w) A (call f vs) Q E s

section
variable {g : G} {n : Nat} {sc : Scope} {σ : Sig}

theorem Ev.cast {e : Expr} {d d' : PyData} (h : Ev g n sc σ e d) (e' : d = d') : Ev g n sc σ e d' := e' ▸ h
theorem Tst.cast {e : Expr} {d d' : Bool} (h : Tst g n sc σ e d) (e' : d = d') : Tst g n sc σ e d' := e' ▸ h

theorem ev_local {x : Str} {pos : Pos} {d : PyData} (hk : sc.names.lookup x = some .local) (hs : σ.lookup x = some d) (hd : (x == ("__debug__" : Str)) = false) : Ev g n sc σ (.Name x pos) d := by
  intro X A env s E Q o e q
  obtain ⟨m, hm, hl⟩ := e.loc
  obtain ⟨v, hv, r⟩ := hl x d hs hk
  exact wpAny_Name (wpAny_loadName_local (by rw [e.scope]; exact e.kind) (by rw [Env.kindOf, e.scope]; exact hk) hm hv (q v s (keeps_refl s) r)) hd
theorem ev_cell {x : Str} {pos : Pos} {d : PyData} (hk : sc.names.lookup x = some .cell) (hs : σ.lookup x = some d) (hd : (x == ("__debug__" : Str)) = false) : Ev g n sc σ (.Name x pos) d := by
  intro X A env s E Q o e q
  obtain ⟨c, v, hc, hv, r⟩ := e.cell x d hs (.inl hk)
  exact wpAny_Name (wpAny_loadName_cell (by rw [e.scope]; exact e.kind) (by rw [Env.kindOf, e.scope]; exact hk) hc hv (q v s (keeps_refl s) r)) hd
theorem ev_free {x : Str} {pos : Pos} {d : PyData} (hk : sc.names.lookup x = some .free) (hs : σ.lookup x = some d) (hd : (x == ("__debug__" : Str)) = false) (hc : (x == ("__classdict__" : Str)) = false) : Ev g n sc σ (.Name x pos) d := by
  intro X A env s E Q o e q
  obtain ⟨c, v, hc', hv, r⟩ := e.cell x d hs (.inr hk)
  exact wpAny_Name (wpAny_loadName_free (by rw [e.scope]; exact e.kind) (by rw [Env.kindOf, e.scope]; exact hk) hc' hv (q v s (keeps_refl s) r) hc) hd

/-- any name of the frame -/
def nameOk (sc : Scope) (x : Str) : Bool := (match sc.names.lookup x with | some .local => true | some .cell => true | some .free => !(x == ("__classdict__" : Str)) | _ => false) && !(x == ("__debug__" : Str))
theorem ev_name {x : Str} {pos : Pos} {d : PyData} (hk : nameOk sc x = true) (hs : σ.lookup x = some d) : Ev g n sc σ (.Name x pos) d := by
  unfold nameOk at hk
  rw [Bool.and_eq_true, Bool.not_eq_true'] at hk
  obtain ⟨h1, h2⟩ := hk
  split at h1
  · exact ev_local (by assumption) hs h2
  · exact ev_cell (by assumption) hs h2
  · exact ev_free (by assumption) hs h2 (by simpa using h1)
  · cases h1

theorem ev_int {i : Int} {k : Nat} {pos : Pos} : Ev g n sc σ (.Constant (.int i) k pos) (.int i) := by
  intro X A env s E Q o e q
  exact wpAny_mkInt (q _ _ (keeps_toks s _) (.int i _))
theorem ev_bool {b : Bool} {k : Nat} {pos : Pos} : Ev g n sc σ (.Constant (.bool b) k pos) (.bool b) := by
  intro X A env s E Q o e q
  exact wpAny_pure (q _ _ (keeps_refl s) (.bool b))

theorem evl_nil : EvL g n sc σ [] [] := fun pos X A env s E Q o e q => args_nil (q _ _ (keeps_refl s) .nil)
theorem evl_cons {e : Expr} {es : List Expr} {d : PyData} {ds : List PyData} (h1 : Ev g n sc σ e d) (h2 : EvL g n sc σ es ds)
    (he : ∀ env, starEach (e :: es) env = (false, eval e env) :: starEach es env := by intro _; rfl) : EvL g n sc σ (e :: es) (d :: ds) := by
  intro pos X A env s E Q o ev q
  refine args_cons (h1 X A env s E _ o ev fun v s₁ k₁ r₁ => ?_) (he env)
  refine h2 pos X A env s₁ E _ (o.keeps k₁) (ev.ext (keeps_ext k₁)) fun vs s₂ k₂ r₂ => ?_
  exact q _ _ (keeps_trans k₁ k₂) (.cons (r₁.ext (keeps_ext k₂)) r₂)

theorem ev_list {es : List Expr} {pos : Pos} {ds : List PyData} (h : EvL g n sc σ es ds) (hsz : ds.length ≤ sizeLine := by decide) : Ev g n sc σ (.List es pos) (.list ds) := by
  intro X A env s E Q o e q
  refine List_ (h pos X A env s E _ o e fun vs s₁ k₁ r₁ => ?_)
  refine wpAny_newObj_type ?_ (by show vs.toArray.size ≤ sizeLine; rw [List.size_toArray, r₁.length]; exact hsz)
  refine q _ _ (keeps_trans k₁ (keeps_heap (Ext.push _ _))) ?_
  exact Rep.of_list (vs := vs.toArray) (o.keeps k₁).size ⟨_, Heap.get?_push_size _ rfl, rfl, 0, rfl⟩ (r₁.xext (XExt.push _ _))
theorem ev_tuple {es : List Expr} {k : Nat} {pos : Pos} {ds : List PyData} (h : EvL g n sc σ es ds) (hsz : ds.length ≤ sizeLine := by decide) : Ev g n sc σ (.Tuple es k pos) (.tuple ds) := by
  intro X A env s E Q o e q
  refine Tuple_ (h pos X A env s E _ o e fun vs s₁ k₁ r₁ => ?_)
  refine wpAny_newObj_type ?_ (by show vs.toArray.size ≤ sizeLine; rw [List.size_toArray, r₁.length]; exact hsz)
  refine q _ _ (keeps_trans k₁ (keeps_heap (Ext.push _ _))) ?_
  exact Rep.of_tuple (vs := vs.toArray) (o.keeps k₁).size ⟨_, Heap.get?_push_size _ rfl, rfl, 0, rfl⟩ (r₁.xext (XExt.push _ _))

/-- an operation of two values -/
def Op2 (g : G) (n : Nat) (f : Value → Value → Sem Value) (a b d : PyData) : Prop :=
  ∀ (X : Addr → Prop) (A : Around) (s : Shared) (E : Value → Shared → Prop) (Q : Value → Shared → Prop) (v u : Value), Ok g n X A s → Rep X s.heap v a → Rep X s.heap u b →
    (∀ v s', Kp g.H s s' → Rep X s'.heap v d → Q v s') → wpAny (model g.prog g.w) A (f v u) Q E s

theorem ev_binop {l r : Expr} {op : Operator} {pos : Pos} {a b d : PyData} (h1 : Ev g n sc σ l a) (h2 : Ev g n sc σ r b) (h : Op2 g n (binaryOp op) a b d) : Ev g n sc σ (.BinOp l op r pos) d := by
  intro X A env s E Q o e q
  rw [arm_eval_BinOp]
  refine wpAny_bind (h1 X A env s E _ o e fun v s₁ k₁ r₁ => ?_)
  refine wpAny_bind (wpAny_holding (h2 X A env s₁ E _ (o.keeps k₁) (e.ext (keeps_ext k₁)) fun u s₂ k₂ r₂ => ?_))
  refine wpAny_bind (wpAny_standAt (wpAny_operate' ?_))
  have k := keeps_trans k₁ k₂
  exact h X A s₂ E Q v u (o.keeps k) (r₁.ext (keeps_ext k₂)) r₂ fun v s' k' r' => q v s' (keeps_trans k k') r'

theorem op_add {a b : Int} : Op2 g n (binaryOp .Add) (.int a) (.int b) (.int (a + b)) := by
  intro X A s E Q v u o r1 r2 q
  obtain ⟨t, rfl⟩ := r1.int_inv; obtain ⟨t', rfl⟩ := r2.int_inv
  exact PyProof.Rows.add_int (q _ _ (keeps_toks s _) (.int _ _))
theorem op_sub {a b : Int} : Op2 g n (binaryOp .Sub) (.int a) (.int b) (.int (a - b)) := by
  intro X A s E Q v u o r1 r2 q
  obtain ⟨t, rfl⟩ := r1.int_inv; obtain ⟨t', rfl⟩ := r2.int_inv
  exact PyProof.Rows.sub_int (q _ _ (keeps_toks s _) (.int _ _))
theorem op_mod {a b : Int} (hb : b ≠ 0) : Op2 g n (binaryOp .Mod) (.int a) (.int b) (.int (a.fmod b)) := by
  intro X A s E Q v u o r1 r2 q
  obtain ⟨t, rfl⟩ := r1.int_inv; obtain ⟨t', rfl⟩ := r2.int_inv
  exact PyProof.Rows.mod_int hb (q _ _ (keeps_toks s _) (.int _ _))
end
end Mine
namespace Mine
open PySem PyProof.Rows PySem.Calls PySem.Spec

/-! ### encoders -/
def eL {α : Type} (f : α → PyData) (xs : List α) : PyData := .list (xs.map f)
def eP {α β : Type} (f : α → PyData) (k : β → PyData) (p : α × β) : PyData := .tuple [f p.1, k p.2]

structure Enc {α : Type} [DecidableEq α] (f : α → PyData) (k : Nat) : Prop where
  eq : ∀ a b, PyData.eqv (f a) (f b) = decide (a = b)
  lay : ∀ a, (f a).canLay0 = true
  dep : ∀ a, (f a).depth ≤ k

theorem encI : Enc PyData.int 0 := ⟨fun a b => by simp only [PyData.eqv]; by_cases h : a = b <;> simp [h], fun _ => by simp [PyData.canLay0], fun _ => by simp [PyData.depth]⟩
theorem encB : Enc PyData.bool 0 := ⟨fun a b => by simp only [PyData.eqv]; by_cases h : a = b <;> simp [h], fun _ => by simp [PyData.canLay0], fun _ => by simp [PyData.depth]⟩

theorem eqvAll_map {α : Type} [DecidableEq α] {f : α → PyData} (h : ∀ a b, PyData.eqv (f a) (f b) = decide (a = b)) : ∀ xs ys : List α, PyData.eqvAll (xs.map f) (ys.map f) = decide (xs = ys)
  | [], [] => by simp [PyData.eqvAll]
  | [], _ :: _ => by simp [PyData.eqvAll]
  | _ :: _, [] => by simp [PyData.eqvAll]
  | x :: xs, y :: ys => by
    simp only [List.map_cons, PyData.eqvAll, h, eqvAll_map h xs ys, List.cons.injEq, Bool.decide_and]
theorem canLayAll_map {α : Type} {f : α → PyData} (h : ∀ a, (f a).canLay0 = true) : ∀ xs : List α, PyData.canLayAll0 (xs.map f) = true
  | [] => by simp [PyData.canLayAll0]
  | x :: xs => by simp only [List.map_cons, PyData.canLayAll0, h, canLayAll_map h xs]; rfl
theorem depthAll_map {α : Type} {f : α → PyData} {k : Nat} (h : ∀ a, (f a).depth ≤ k) : ∀ xs : List α, PyData.depthAll (xs.map f) ≤ k
  | [] => by simp [PyData.depthAll]
  | x :: xs => by have h1 := h x; have h2 := depthAll_map h xs; simp only [List.map_cons, PyData.depthAll]; omega
theorem encL {α : Type} [DecidableEq α] {f : α → PyData} {k : Nat} (h : Enc f k) : Enc (eL f) (k + 1) :=
  ⟨fun a b => by simp only [eL, PyData.eqv]; exact eqvAll_map h.eq a b, fun a => by simp only [eL, PyData.canLay0]; exact canLayAll_map h.lay a,
    fun a => by simp only [eL, PyData.depth]; have := depthAll_map h.dep a; omega⟩
theorem encP {α β : Type} [DecidableEq α] [DecidableEq β] {f : α → PyData} {e : β → PyData} {k m : Nat} (h : Enc f k) (h' : Enc e m) : Enc (eP f e) (max k m + 1) :=
  ⟨fun a b => by
      obtain ⟨a1, a2⟩ := a; obtain ⟨b1, b2⟩ := b
      simp only [eP, PyData.eqv, PyData.eqvAll, h.eq, h'.eq, Prod.mk.injEq, Bool.decide_and, Bool.and_true],
    fun a => by simp only [eP, PyData.canLay0, PyData.canLayAll0, h.lay, h'.lay]; rfl,
    fun a => by simp only [eP, PyData.depth, PyData.depthAll]; have := h.dep a.1; have := h'.dep a.2; omega⟩

section
variable {g : G} {n : Nat} {sc : Scope} {σ : Sig}

theorem op_eq {α : Type} [DecidableEq α] {f : α → PyData} {k : Nat} (h : Enc f k) (hk : k ≤ 64) {a b : α} : Op2 g n (compareOp .Eq) (f a) (f b) (.bool (decide (a = b))) := by
  intro X A s E Q v u o r1 r2 q
  obtain ⟨as, r1⟩ := r1.reads; obtain ⟨bs, r2⟩ := r2.reads
  refine SeqAt.compareEq_reads r1 r2 (h.lay a) (h.lay b) ?_ (by rw [h.eq]; exact q _ _ (keeps_refl s) (.bool _))
  have := h.dep a; have := o.a.units; omega
theorem op_ne {α : Type} [DecidableEq α] {f : α → PyData} {k : Nat} (h : Enc f k) (hk : k ≤ 64) {a b : α} : Op2 g n (compareOp .NotEq) (f a) (f b) (.bool (!decide (a = b))) := by
  intro X A s E Q v u o r1 r2 q
  obtain ⟨as, r1⟩ := r1.reads; obtain ⟨bs, r2⟩ := r2.reads
  refine SeqAt.compareNe_reads r1 r2 (h.lay a) (h.lay b) ?_ (by rw [h.eq]; exact q _ _ (keeps_refl s) (.bool _))
  have := h.dep a; have := o.a.units; omega

theorem RepW.det {X : Addr → Prop} {h : Heap} {b : Bool} {vs : List Value} {ds : List PyData} (r : RepW X h b vs ds) : ∀ {es : List PyData}, RepW X h b vs es → ds = es := by
  induction r with
  | bool b => intro es q; cases q; rfl
  | int i t => intro es q; cases q; rfl
  | list x e c d _ ih =>
    intro es q
    cases q with
    | list x' e' c' d' r' => rw [e] at e'; cases e'; rw [d] at d'; cases d'; rw [ih r']
    | tuple x' e' c' d' r' => rw [e] at e'; cases e'; exact absurd (c.symm.trans c') (by decide)
  | tuple x e c d _ ih =>
    intro es q
    cases q with
    | list x' e' c' d' r' => rw [e] at e'; cases e'; exact absurd (c.symm.trans c') (by decide)
    | tuple x' e' c' d' r' => rw [e] at e'; cases e'; rw [d] at d'; cases d'; rw [ih r']
  | nil => intro es q; cases q; rfl
  | cons _ _ i1 i2 => intro es q; cases q with | cons a b => have := i1 a; have := i2 b; simp_all
theorem Rep.det {X : Addr → Prop} {h : Heap} {v : Value} {d e : PyData} (r : Rep X h v d) (q : Rep X h v e) : d = e := by have := RepW.det r q; simpa using this
theorem Enc.inj {α : Type} [DecidableEq α] {f : α → PyData} {k : Nat} (e : Enc f k) {a b : α} (h : f a = f b) : a = b := by
  have e1 := e.eq a b
  rw [h, e.eq b b] at e1
  simpa using e1.symm

theorem any_of_rep {X : Addr → Prop} {α : Type} [DecidableEq α] {f : α → PyData} {k : Nat} (e : Enc f k) {A : Around} {s : Shared} (hu : A.units + 70 < cLine) (hk : k ≤ 64) {x : α} {v : Value} (rv : Rep X s.heap v (f x)) :
    ∀ {vs : List Value} {ys : List α}, RepAll X s.heap vs (ys.map f) → ∃ t : Value → Bool, (∀ y, y ∈ vs → SeqAt.EqAt A.in1 s y v (t y)) ∧ vs.map t = ys.map fun y => decide (y = x) := by
  intro vs ys r
  classical
  have tt : ∀ {y : Value} {a : α}, Rep X s.heap y (f a) → decide (Rep X s.heap y (f x)) = decide (a = x) := by
    intro y a ra
    by_cases hax : a = x
    · subst hax; simp [ra]
    · simp only [hax, decide_false, decide_eq_false_iff_not]
      exact fun q => hax (e.inj (ra.det q))
  refine ⟨fun y => decide (Rep X s.heap y (f x)), ?_, ?_⟩
  · intro y hy
    obtain ⟨i, hi⟩ := List.getElem?_of_mem hy
    obtain ⟨d, hd, ry⟩ := r.get' hi
    rw [List.getElem?_map, Option.map_eq_some_iff] at hd
    obtain ⟨a, _, rfl⟩ := hd
    obtain ⟨as, q1⟩ := ry.reads; obtain ⟨bs, q2⟩ := rv.reads
    have key := SeqAt.eqAt_reads (f a) (f x) A.in1 s y v as bs q1 q2 (e.lay a) (e.lay x) (by have := e.dep a; have : A.in1.units = A.units + 1 := rfl; omega)
    rw [e.eq] at key
    show SeqAt.EqAt A.in1 s y v (decide (Rep X s.heap y (f x)))
    rw [tt ry]; exact key
  · induction vs generalizing ys with
    | nil => cases ys with
      | nil => rfl
      | cons y ys => cases r
    | cons v' vs ih => cases ys with
      | nil => cases r
      | cons y ys => cases r with | cons a r => simp only [List.map_cons, ih r]; congr 1; exact tt a

theorem any_contains {α : Type} [DecidableEq α] {vs : Array Value} {ys : List α} {t : Value → Bool} {x : α} (h : vs.toList.map t = ys.map fun y => decide (y = x)) : vs.any t = ys.contains x := by
  have e1 : vs.any t = (vs.toList.map t).any id := by rw [List.any_map, ← Array.any_toList]; rfl
  have e2 : ys.contains x = (ys.map fun y => decide (y = x)).any id := by
    rw [List.any_map, List.contains_eq_any_beq]
    congr 1; funext y; simp only [Function.comp, id]
    by_cases hy : y = x
    · subst hy; simp
    · have h2 : ¬ x = y := fun h => hy h.symm
      simp [hy, h2]
  rw [e1, h, e2]

theorem op_in {α : Type} [DecidableEq α] {f : α → PyData} {k : Nat} (h : Enc f k) (hk : k ≤ 60) {x : α} {ys : List α} : Op2 g n (compareOp .In) (f x) (eL f ys) (.bool (ys.contains x)) := by
  intro X A s E Q v u o r1 r2 q
  obtain ⟨a, vs, rfl, hx, hl, ra⟩ := Rep.list_inv r2
  obtain ⟨t, h1, h2⟩ := any_of_rep h (A := A) (by have := o.a.units; omega) (by omega) r1 ra
  refine SeqAt.in_listAt t hl (fun y hy => h1 y (by simpa using hy)) ?_
  rw [any_contains h2]; exact q _ _ (keeps_refl s) (.bool _)
theorem op_notIn {α : Type} [DecidableEq α] {f : α → PyData} {k : Nat} (h : Enc f k) (hk : k ≤ 60) {x : α} {ys : List α} : Op2 g n (compareOp .NotIn) (f x) (eL f ys) (.bool (!ys.contains x)) := by
  intro X A s E Q v u o r1 r2 q
  obtain ⟨a, vs, rfl, hx, hl, ra⟩ := Rep.list_inv r2
  obtain ⟨t, h1, h2⟩ := any_of_rep h (A := A) (by have := o.a.units; omega) (by omega) r1 ra
  refine SeqAt.notIn_listAt t hl (fun y hy => h1 y (by simpa using hy)) ?_
  rw [any_contains h2]; exact q _ _ (keeps_refl s) (.bool _)

/-! comparisons in expressions and tests -/
theorem ev_cmp {l r : Expr} {op : CmpOp} {pos : Pos} {a b d : PyData} (h1 : Ev g n sc σ l a) (h2 : Ev g n sc σ r b) (h : Op2 g n (compareOp op) a b d) (hm : behindInMarks op r = false := by with_unfolding_all rfl) :
    Ev g n sc σ (.Compare l [op] [r] pos) d := by
  intro X A env s E Q o e q
  refine wpAny_Compare1 (h1 X A env s E _ o e fun v s₁ k₁ r₁ => h2 X A env s₁ E _ (o.keeps k₁) (e.ext (keeps_ext k₁)) fun u s₂ k₂ r₂ => ?_) hm
  have k := keeps_trans k₁ k₂
  exact h X A s₂ E Q v u (o.keeps k) (r₁.ext (keeps_ext k₂)) r₂ fun v s' k' r' => q v s' (keeps_trans k k') r'
theorem tst_cmp {l r : Expr} {op : CmpOp} {pos : Pos} {a b : PyData} {c : Bool} (h1 : Ev g n sc σ l a) (h2 : Ev g n sc σ r b) (h : Op2 g n (compareOp op) a b (.bool c)) (hm : behindInMarks op r = false := by with_unfolding_all rfl) :
    Tst g n sc σ (.Compare l [op] [r] pos) c := by
  intro X A env s E Q o e q
  refine wpAny_isTrue_Compare1 (h1 X A env s E _ o e fun v s₁ k₁ r₁ => h2 X A env s₁ E _ (o.keeps k₁) (e.ext (keeps_ext k₁)) fun u s₂ k₂ r₂ => ?_) hm
  have k := keeps_trans k₁ k₂
  refine h X A s₂ E _ v u (o.keeps k) (r₁.ext (keeps_ext k₂)) r₂ fun v s' k' r' => ?_
  rw [r'.bool_inv]
  exact fun _ _ _ => q s' (keeps_trans k k')
theorem op_lt {a b : Int} : Op2 g n (compareOp .Lt) (.int a) (.int b) (.bool (decide (a < b))) := by
  intro X A s E Q v u o r1 r2 q
  obtain ⟨t, rfl⟩ := r1.int_inv; obtain ⟨t', rfl⟩ := r2.int_inv
  exact PyProof.Rows.lt_int (q _ _ (keeps_refl s) (.bool _))
theorem op_gt {a b : Int} : Op2 g n (compareOp .Gt) (.int a) (.int b) (.bool (decide (b < a))) := by
  intro X A s E Q v u o r1 r2 q
  obtain ⟨t, rfl⟩ := r1.int_inv; obtain ⟨t', rfl⟩ := r2.int_inv
  exact PyProof.Rows.gt_int (q _ _ (keeps_refl s) (.bool _))
theorem op_ge {a b : Int} : Op2 g n (compareOp .GtE) (.int a) (.int b) (.bool (decide (b ≤ a))) := by
  intro X A s E Q v u o r1 r2 q
  obtain ⟨t, rfl⟩ := r1.int_inv; obtain ⟨t', rfl⟩ := r2.int_inv
  exact PySem.P.ge_int (q _ _ (keeps_refl s) (.bool _))
theorem op_mul {a b : Int} (h : IntMulOk a b) : Op2 g n (binaryOp .Mult) (.int a) (.int b) (.int (a * b)) := by
  intro X A s E Q v u o r1 r2 q
  obtain ⟨t, rfl⟩ := r1.int_inv; obtain ⟨t', rfl⟩ := r2.int_inv
  exact PySem.P.mul_int (q _ _ (keeps_toks s _) (.int _ _)) h
theorem op_div {a b : Int} (hb : b ≠ 0) (hs : b.natAbs < 1073741824) : Op2 g n (binaryOp .FloorDiv) (.int a) (.int b) (.int (a.fdiv b)) := by
  intro X A s E Q v u o r1 r2 q
  obtain ⟨t, rfl⟩ := r1.int_inv; obtain ⟨t', rfl⟩ := r2.int_inv
  exact floordiv_int hb (q _ _ (keeps_toks s _) (.int _ _)) (.inl (PyProof.noPylong_small hs))
theorem op_pow {a b : Int} (hn : 0 ≤ b) (hn2 : b ≤ 1000000) (ha : a.natAbs < 2 ^ 64) : Op2 g n (binaryOp .Pow) (.int a) (.int b) (.int (a ^ b.toNat)) := by
  intro X A s E Q v u o r1 r2 q
  obtain ⟨t, rfl⟩ := r1.int_inv; obtain ⟨t', rfl⟩ := r2.int_inv
  exact pow_int_small hn hn2 ha (q _ _ (keeps_toks s _) (.int _ _))
theorem op_subb {a b : Bool} : Op2 g n (binaryOp .Sub) (.bool a) (.bool b) (.int (b2i a - b2i b)) := by
  intro X A s E Q v u o r1 r2 q
  rw [r1.bool_inv, r2.bool_inv]
  exact sub_bool (q _ _ (keeps_toks s _) (.int _ _))
theorem op_addl {α : Type} {f : α → PyData} {xs ys : List α} (hsz : xs.length + ys.length ≤ sizeLine) : Op2 g n (binaryOp .Add) (eL f xs) (eL f ys) (eL f (xs ++ ys)) := by
  intro X A s E Q v u o r1 r2 q
  obtain ⟨a, vs, rfl, hx, hl, ra⟩ := Rep.list_inv r1
  obtain ⟨b, ws, rfl, hx2, hl2, rb⟩ := Rep.list_inv r2
  have e1 := ra.length; have e2 := rb.length
  simp only [List.length_map, Array.length_toList] at e1 e2
  obtain ⟨⟨cls, dd, data, sl⟩, ho, hc, m1, hd⟩ := id hl
  obtain ⟨⟨cls2, dd2, data2, sl2⟩, ho2, hc2, m2, hd2⟩ := id hl2
  simp only at hc hd hc2 hd2
  subst hc hd hc2 hd2
  refine concat_meets ⟨_, ho, rfl⟩ ⟨_, ho2, rfl⟩ noFill_list_add seq_list_add PySem.F.slot_list_add PySem.F.entry_list_add (PySem.F.args_list_add_2 _ _) (list_addW a b vs ws m1 m2 dd dd2 sl sl2 (by omega)) ⟨ho, ho2, ?_⟩
  refine q _ _ (keeps_heap (Ext.push _ _)) ?_
  refine Rep.of_list (vs := vs ++ ws) o.size ⟨_, Heap.get?_push_size _ rfl, rfl, _, rfl⟩ ?_
  rw [Array.toList_append, List.map_append]
  exact (ra.xext (XExt.push _ _)).append (rb.xext (XExt.push _ _))
end
end Mine
namespace Mine
open PySem PyProof.Rows PySem.Calls PySem.Spec

/-- what stands in a heap -/
def Old (h : Heap) (b : Addr) : Prop := ∃ o, h.get? b = some o
/-- an iterator over ds, made behind the heap hb, below hi -/
structure Itr (g : G) (n : Nat) (X : Addr → Prop) (hb : Heap) (hi : Nat) (tgt : Expr) (it : Value) (ds : List PyData) (St : Nat → Heap → Prop) : Prop where
  frame : ∀ i h h', St i h → (∀ b o, b < hi → ¬ X b → Hard o → h.get? b = some o → h'.get? b = some o) → St i h'
  live : ∀ i h, St i h → hi ≤ h.objs.size
  item : ∀ i d (A : Around) (s : Shared) (E : Value → Shared → Prop) (Q : Value → Shared → Prop), AOk n A → ds[i]? = some d → St i s.heap →
    (∀ v h' tk, Rep (fun b => X b ∨ (hi ≤ b ∧ b < s.heap.objs.size)) h' v d → St (i + 1) h' →
      (∀ b o, (NoFields o ∨ Old hb b ∨ (hi ≤ b ∧ b < s.heap.objs.size)) → s.heap.get? b = some o → h'.get? b = some o) → Q v { s with heap := h', toks := tk }) →
    wpAny (model g.prog g.w) A (pyNext it) (fun r s₁ => ∃ v, r = some v ∧ wpAny (model g.prog g.w) A (letOwnedTupleGo tgt it v) (fun _ s₂ => Q v s₂) E s₁) E s
  done : ∀ (A : Around) (s : Shared) (E : Value → Shared → Prop) (Q : Option Value → Shared → Prop), AOk n A → St ds.length s.heap →
    (∀ h' tk, (∀ b o, (NoFields o ∨ Old hb b ∨ hi ≤ b) → s.heap.get? b = some o → h'.get? b = some o) → Q none { s with heap := h', toks := tk }) → wpAny (model g.prog g.w) A (pyNext it) Q E s
  self : ∀ i (A : Around) (s : Shared) (E : Value → Shared → Prop) (Q : Value → Shared → Prop), St i s.heap → Q it s → wpAny (model g.prog g.w) A (pyIter it) Q E s

def EvIt (g : G) (n : Nat) (sc : Scope) (σ : Sig) (tgt e : Expr) (ds : List PyData) : Prop :=
  ∀ (X : Addr → Prop) (A : Around) (env : Env) (s : Shared) (E : Value → Shared → Prop) (Q : Value → Shared → Prop), Ok g n X A s → EnvOK X sc env s.heap σ →
    (∀ it s' St, Kp g.H s s' → Itr g n X s.heap s'.heap.objs.size tgt it ds St → St 0 s'.heap → Q it s') →
    wpAny (model g.prog g.w) A (eval e env) (fun x s₁ => wpAny (model g.prog g.w) A (pyIter x) Q E s₁) E s

theorem size_ext {H h h' : Heap} {b : Addr} {o : Obj} (k : Ext H h h') (e : h.get? b = some o) : b < h'.objs.size := k.lt e

theorem letOwned_list {prog : Program} {w : World} {A : Around} {E : Value → Shared → Prop} {s : Shared} {tgt : Expr} {I l : Addr} {i : Nat} {v : Value} {Q : Unit → Shared → Prop} (hi : s.heap.IsListIter I l i) (h : Q () s) :
    wpAny (model prog w) A (letOwnedTupleGo tgt (.ref I) v) Q E s := by
  obtain ⟨o, ho, hc, hd⟩ := hi
  unfold letOwnedTupleGo
  have key : wpAny (model prog w) A (do
      let (.ref r, .ref a) := ((Value.ref I, v) : Value × Value) | return
      let o ← load r
      match o.cls, o.data with
      | .type n, .fields vs =>
        if ["enumerate", "zip", "dict_itemiterator", "dict_reverseitemiterator", "odict_iterator", "itertools.zip_longest", "itertools.pairwise"].contains n && vs[0]? == some (rawInt a) then
          rule "for.unpacks-the-owned-tuple"
          updateField r 0 .none
      | _, _ => pure ()) Q E s := by
    cases v with
    | ref a =>
      dsimp only
      refine wpAny_bind (wpAny_load ho ?_)
      rw [hc, hd]
      dsimp only
      rw [if_neg (by simp)]
      exact wpAny_pure h
    | _ => exact wpAny_pure h
  split
  · exact key
  · exact key
  · exact wpAny_pure h

theorem ne_of_noFields {h : Heap} {I b : Addr} {o oI : Obj} {vs : Array Value} (hI : h.get? I = some oI) (hd : oI.data = .fields vs) (e : h.get? b = some o) (k : NoFields o) : b ≠ I := by
  rintro rfl; rw [hI] at e; cases e; exact k _ hd

section
variable {g : G} {n : Nat} {sc : Scope} {σ : Sig}

theorem old_ne {H : Heap} {s s₁ : Shared} (k : Kp H s s₁) {b : Addr} (h : Old s.heap b) : b ≠ s₁.heap.objs.size := by
  obtain ⟨o, e⟩ := h
  exact Nat.ne_of_lt (size_ext (keeps_ext k) e)

theorem evit_list {tgt e : Expr} {ds : List PyData} (h : Ev g n sc σ e (.list ds)) : EvIt g n sc σ tgt e ds := by
  intro X A env s E Q o ev q
  refine h X A env s E _ o ev fun v s₁ k₁ r₁ => ?_
  obtain ⟨l, items, rfl, hx, hl, ra⟩ := Rep.list_inv r₁
  refine wpAny_pyIter_list hl ?_
  have o₁ := o.keeps k₁
  have hpush := XExt.push s₁.heap { cls := .type "list_iterator", data := .fields #[.ref l, .int 0 0] }
  have hlI : l < s₁.heap.objs.size := by obtain ⟨_, e, _⟩ := hl; exact Heap.lt_size e
  have hsz : (s₁.heap.push { cls := .type "list_iterator", data := .fields #[.ref l, .int 0 0] }).objs.size = s₁.heap.objs.size + 1 := Heap.size_push ..
  refine q _ _ (fun i h => h.IsListIter s₁.heap.objs.size l i ∧ h.IsList l items ∧ RepAll (fun a => X a ∨ s₁.heap.objs.size + 1 ≤ a) h items.toList ds) (keeps_trans k₁ (keeps_heap (Ext.of hpush))) ?_ ?_
  · dsimp only
    rw [hsz]
    refine ⟨?_, ?_, ?_, ?_, ?_⟩
    · rintro i h h' ⟨a1, a2, a3⟩ hk
      refine ⟨a1.at fun oo e => ?_, a2.at fun oo e => ?_, a3.mono (fun _ x => x) fun b oo hb ho e => ?_⟩
      · obtain ⟨o1, e1, _, d1⟩ := a1; rw [e] at e1; cases e1
        exact hk _ _ (Nat.lt_succ_self _) o₁.size (.inr ⟨_, d1⟩) e
      · obtain ⟨o1, e1, _, n1, d1⟩ := a2; rw [e] at e1; cases e1
        exact hk _ _ (Nat.lt_succ_of_lt hlI) hx (.inl ⟨_, _, d1⟩) e
      · exact hk b oo (Nat.not_le.mp fun q => hb (.inr q)) (fun q => hb (.inl q)) (.inl ho) e
    · rintro i h ⟨⟨_, e, _⟩, _, _⟩; exact Heap.lt_size e
    · rintro i d A s₃ E Q' aok hd ⟨a1, a2, a3⟩ hQ
      obtain ⟨x, hx', rx⟩ := a3.get hd
      obtain ⟨oI, eI, _, dI⟩ := id a1
      refine wpAny_pyNext_list_item a1 a2 (x := x) (by simpa using hx') fun h' hit' hs' => ⟨x, rfl, letOwned_list hit' ?_⟩
      have kp : ∀ b oo, NoFields oo → s₃.heap.get? b = some oo → h'.get? b = some oo := fun b oo hn e => hs'.extBut b oo (ne_of_noFields eI dI e hn) e
      refine hQ x h' _ (Rep.mono rx (fun a ha => ha.elim .inl fun ha => .inr ha.1) fun b oo _ ho e => kp b oo ho.noFields e) ⟨hit', a2.extBut hs'.extBut (Nat.ne_of_lt hlI), a3.mono (fun _ x => x) fun b oo _ ho e => kp b oo ho.noFields e⟩ ?_
      rintro b oo (hn | hn | hn) e
      · exact kp b oo hn e
      · exact hs'.extBut b oo (old_ne k₁ hn) e
      · exact hs'.extBut b oo (Nat.ne_of_gt hn.1) e
    · rintro A s₃ E Q' aok ⟨a1, a2, a3⟩ hQ
      obtain ⟨oI, eI, _, dI⟩ := id a1
      have hlen := a3.length
      refine wpAny_pyNext_list_end aok.handled a1 a2 (by simp at hlen; simp [← hlen]) fun h' he' => hQ h' _ ?_
      rintro b oo (hn | hn | hn) e
      · exact he' b oo (ne_of_noFields eI dI e hn) e
      · exact he' b oo (old_ne k₁ hn) e
      · exact he' b oo (Nat.ne_of_gt hn) e
    · rintro i A s₃ E Q' ⟨a1, _, _⟩ hQ
      exact wpAny_pyIter_listiter a1 hQ
  · exact ⟨⟨_, Heap.get?_push_size _ rfl, rfl, rfl⟩, hl.push _, (show RepAll _ _ _ _ from RepW.low (ra.xext hpush) (by rw [hsz]; exact Nat.le_refl _))⟩
end
end Mine
namespace Mine
open PySem PyProof.Rows PySem.Calls PySem.Spec

def Glb (g : G) (x : Str) (v : Value) : Prop := g.mg x = some v ∨ (g.mg x = none ∧ x ≠ "__name__" ∧ bootBuiltins x = some v)

theorem letOwned_of {prog : Program} {w : World} {A : Around} {E : Value → Shared → Prop} {s : Shared} {tgt : Expr} {I : Addr} {o : Obj} {nm : String} {v : Value} {Q : Unit → Shared → Prop} (ho : s.heap.get? I = some o) (hc : o.cls = .type nm)
    (hn : ["enumerate", "zip", "dict_itemiterator", "dict_reverseitemiterator", "odict_iterator", "itertools.zip_longest", "itertools.pairwise"].contains nm = false) (h : Q () s) :
    wpAny (model prog w) A (letOwnedTupleGo tgt (.ref I) v) Q E s := by
  unfold letOwnedTupleGo
  have key : wpAny (model prog w) A (do
      let (.ref r, .ref a) := ((Value.ref I, v) : Value × Value) | return
      let o ← load r
      match o.cls, o.data with
      | .type n, .fields vs =>
        if ["enumerate", "zip", "dict_itemiterator", "dict_reverseitemiterator", "odict_iterator", "itertools.zip_longest", "itertools.pairwise"].contains n && vs[0]? == some (rawInt a) then
          rule "for.unpacks-the-owned-tuple"
          updateField r 0 .none
      | _, _ => pure ()) Q E s := by
    cases v with
    | ref a =>
      dsimp only
      refine wpAny_bind (wpAny_load ho ?_)
      rw [hc]
      cases hd : o.data <;> dsimp only
      case fields vs => rw [hn]; exact wpAny_pure h
      all_goals exact wpAny_pure h
    | _ => exact wpAny_pure h
  split
  · exact key
  · exact key
  · exact wpAny_pure h

section
variable {g : G} {n : Nat} {sc : Scope} {σ : Sig}

theorem load_glb {x : Str} {pos : Pos} {v : Value} {X : Addr → Prop} {A : Around} {env : Env} {s : Shared} {E : Value → Shared → Prop} {Q : Value → Shared → Prop} (hk : sc.names.lookup x = some .globalImplicit) (hg : Glb g x v)
    (hd : (x == ("__debug__" : Str)) = false) (o : Ok g n X A s) (e : EnvOK X sc env s.heap σ) (q : Q v s) : wpAny (model g.prog g.w) A (eval (.Name x pos) env) Q E s := by
  have T := g.top.keeps o.base
  refine Name_function_global (by rw [e.scope]; exact e.kind) (by rw [Env.kindOf, e.scope]; exact hk) ?_ hd
  rcases hg with hg | ⟨h1, h2, h3⟩
  · exact loadGlobal_global (mg := g.mg) (by rw [e.globals]; exact T.g) hg q
  · exact loadGlobal_builtin (mg := g.mg) (mb := g.mb) (by rw [e.globals]; exact T.g) h1 (by rw [e.builtins]; exact T.b) ((T.builtins x h2).trans h3) q

theorem evit_tuple {tgt e : Expr} {ds : List PyData} (h : Ev g n sc σ e (.tuple ds)) : EvIt g n sc σ tgt e ds := by
  intro X A env s E Q o ev q
  refine h X A env s E _ o ev fun v s₁ k₁ r₁ => ?_
  obtain ⟨l, items, rfl, hx, hl, ra⟩ := Rep.tuple_inv r₁
  refine wpAny_pyIter_tuple hl ?_
  have o₁ := o.keeps k₁
  have hpush := XExt.push s₁.heap { cls := .type "tuple_iterator", data := .fields #[.ref l, .int 0 0] }
  have hlI : l < s₁.heap.objs.size := by obtain ⟨_, e, _⟩ := hl; exact Heap.lt_size e
  have hsz : (s₁.heap.push { cls := .type "tuple_iterator", data := .fields #[.ref l, .int 0 0] }).objs.size = s₁.heap.objs.size + 1 := Heap.size_push ..
  refine q _ _ (fun i h => h.IsTupleIter s₁.heap.objs.size l i ∧ h.IsTuple l items ∧ RepAll (fun a => X a ∨ s₁.heap.objs.size + 1 ≤ a) h items.toList ds) (keeps_trans k₁ (keeps_heap (Ext.of hpush))) ?_ ?_
  · dsimp only
    rw [hsz]
    refine ⟨?_, ?_, ?_, ?_, ?_⟩
    · rintro i h h' ⟨a1, a2, a3⟩ hk
      refine ⟨a1.at fun oo e => ?_, a2.at fun oo e => ?_, a3.mono (fun _ x => x) fun b oo hb ho e => ?_⟩
      · obtain ⟨o1, e1, _, d1⟩ := a1; rw [e] at e1; cases e1
        exact hk _ _ (Nat.lt_succ_self _) o₁.size (.inr ⟨_, d1⟩) e
      · obtain ⟨o1, e1, _, n1, d1⟩ := a2; rw [e] at e1; cases e1
        exact hk _ _ (Nat.lt_succ_of_lt hlI) hx (.inl ⟨_, _, d1⟩) e
      · exact hk b oo (Nat.not_le.mp fun q => hb (.inr q)) (fun q => hb (.inl q)) (.inl ho) e
    · rintro i h ⟨⟨_, e, _⟩, _, _⟩; exact Heap.lt_size e
    · rintro i d A s₃ E Q' aok hd ⟨a1, a2, a3⟩ hQ
      obtain ⟨x, hx', rx⟩ := a3.get hd
      obtain ⟨oI, eI, _, dI⟩ := id a1
      refine wpAny_pyNext_tuple_item a1 a2 (x := x) (by simpa using hx') fun h' hit' hs' => ⟨x, rfl, ?_⟩
      obtain ⟨oI', eI', cI', _⟩ := id hit'
      refine letOwned_of eI' cI' (by decide) ?_
      have kp : ∀ b oo, NoFields oo → s₃.heap.get? b = some oo → h'.get? b = some oo := fun b oo hn e => hs'.extBut b oo (ne_of_noFields eI dI e hn) e
      refine hQ x h' _ (Rep.mono rx (fun a ha => ha.elim .inl fun ha => .inr ha.1) fun b oo _ ho e => kp b oo ho.noFields e) ⟨hit', a2.extBut hs'.extBut (Nat.ne_of_lt hlI), a3.mono (fun _ x => x) fun b oo _ ho e => kp b oo ho.noFields e⟩ ?_
      rintro b oo (hn | hn | hn) e
      · exact kp b oo hn e
      · exact hs'.extBut b oo (old_ne k₁ hn) e
      · exact hs'.extBut b oo (Nat.ne_of_gt hn.1) e
    · rintro A s₃ E Q' aok ⟨a1, a2, a3⟩ hQ
      obtain ⟨oI, eI, _, dI⟩ := id a1
      have hlen := a3.length
      refine wpAny_pyNext_tuple_end aok.handled a1 a2 (by simp at hlen; simp [← hlen]) fun h' he' => hQ h' _ ?_
      rintro b oo (hn | hn | hn) e
      · exact he' b oo (ne_of_noFields eI dI e hn) e
      · exact he' b oo (old_ne k₁ hn) e
      · exact he' b oo (Nat.ne_of_gt hn) e
    · rintro i A s₃ E Q' ⟨a1, _, _⟩ hQ
      exact wpAny_pyIter_tupleiter a1 hQ
  · exact ⟨⟨_, Heap.get?_push_size _ rfl, rfl, rfl⟩, hl.push _, (show RepAll _ _ _ _ from RepW.low (ra.xext hpush) (by rw [hsz]; exact Nat.le_refl _))⟩

def rangeL (a b c : Int) : List Int := (List.range (Builtin.Range.rangeSize a b c).toNat).map fun i : Nat => a + (i : Int) * c

theorem rangeSize_nonneg (a b c : Int) : 0 ≤ Builtin.Range.rangeSize a b c := by
  unfold Builtin.Range.rangeSize
  split
  · split
    · have : 0 ≤ (b - a - 1) / c := Int.ediv_nonneg (by omega) (by omega)
      omega
    · exact Int.le_refl _
  · split
    · have : 0 ≤ (a - b - 1) / (-c) := Int.ediv_nonneg (by omega) (by omega)
      omega
    · exact Int.le_refl _

/-- the range object is made: its iterator -/
theorem it_range {tgt : Expr} {X : Addr → Prop} {A : Around} {s s₁ : Shared} {E : Value → Shared → Prop} {Q : Value → Shared → Prop} {r : Addr} {a b c : Int} {t u v : Tok}
    (o : Ok g n X A s) (k₁ : Kp g.H s s₁) (hr : IsRange s₁.heap r a b c t u v) (hsm : Builtin.Range.small a b c = true)
    (q : ∀ it s' St, Kp g.H s s' → Itr g n X s.heap s'.heap.objs.size tgt it ((rangeL a b c).map .int) St → St 0 s'.heap → Q it s') : wpAny (model g.prog g.w) A (pyIter (.ref r)) Q E s₁ := by
  refine wpAny_pyIter_range hr hsm ?_
  have o₁ := o.keeps k₁
  have hnn := rangeSize_nonneg a b c
  have hpush := XExt.push s₁.heap { cls := .type "range_iterator", data := .fields #[rawInt a, rawInt (Builtin.Range.rangeSize a b c), rawInt c] }
  have hsz : (s₁.heap.push { cls := .type "range_iterator", data := .fields #[rawInt a, rawInt (Builtin.Range.rangeSize a b c), rawInt c] }).objs.size = s₁.heap.objs.size + 1 := Heap.size_push ..
  refine q _ _ (fun i h => IsRangeIter h s₁.heap.objs.size (a + (i : Int) * c) (Builtin.Range.rangeSize a b c - (i : Int)) c) (keeps_trans k₁ (keeps_heap (Ext.of hpush))) ?_ ?_
  · dsimp only
    rw [hsz]
    refine ⟨?_, ?_, ?_, ?_, ?_⟩
    · intro i h h' st hk
      exact hk _ _ (Nat.lt_succ_self _) o₁.size (.inr ⟨_, rfl⟩) st
    · intro i h st; exact Heap.lt_size st
    · intro i d A s₃ E Q' aok hd st hQ
      have hd' : i < (Builtin.Range.rangeSize a b c).toNat ∧ d = .int (a + (i : Int) * c) := by
        rw [List.getElem?_map, rangeL, List.getElem?_map] at hd
        by_cases hlt : i < (Builtin.Range.rangeSize a b c).toNat
        · simp [hlt] at hd; exact ⟨hlt, hd.symm⟩
        · simp [hlt] at hd
      obtain ⟨hlt, rfl⟩ := hd'
      refine wpAny_pyNext_range_item st (by omega) fun h' hit' hs' => ⟨_, rfl, letOwned_of hit' rfl (by decide) ?_⟩
      have e1 : a + ((i + 1 : Nat) : Int) * c = a + (i : Int) * c + c := by push_cast; rw [Int.add_mul, Int.one_mul, Int.add_assoc]
      have e2 : Builtin.Range.rangeSize a b c - ((i + 1 : Nat) : Int) = Builtin.Range.rangeSize a b c - (i : Int) - 1 := by push_cast; omega
      refine hQ _ h' _ (.int _ _) (by rw [e1, e2]; exact hit') ?_
      rintro b' oo (hn | hn | hn) e
      · exact hs'.extBut b' oo (ne_of_noFields st rfl e hn) e
      · exact hs'.extBut b' oo (old_ne k₁ hn) e
      · exact hs'.extBut b' oo (Nat.ne_of_gt hn.1) e
    · intro A s₃ E Q' aok st hQ
      have hlen : (((rangeL a b c).map PyData.int).length : Int) = Builtin.Range.rangeSize a b c := by simp [rangeL]; omega
      refine wpAny_pyNext_range_end aok.handled st (by omega) fun h' he' => hQ h' _ ?_
      rintro b' oo (hn | hn | hn) e
      · exact he' b' oo (ne_of_noFields st rfl e hn) e
      · exact he' b' oo (old_ne k₁ hn) e
      · exact he' b' oo (Nat.ne_of_gt hn) e
    · intro i A s₃ E Q' st hQ
      exact wpAny_pyIter_rangeiter st hQ
  · have := Heap.get?_push_size s₁.heap (o := { cls := .type "range_iterator", data := .fields #[rawInt a, rawInt (Builtin.Range.rangeSize a b c), rawInt c] }) rfl
    simpa using this

theorem evit_range1 {tgt e : Expr} {p pos : Pos} {b : Int} (hk : sc.names.lookup (Str.ofString "range") = some .globalImplicit) (hg : Glb g (Str.ofString "range") (.type "range")) (h1 : Ev g n sc σ e (.int b))
    (hs : ∀ env, starEach [e] env = [(false, eval e env)] := by intro _; rfl) (hsm : Builtin.Range.small 0 b 1 = true) :
    EvIt g n sc σ tgt (.Call (.Name (Str.ofString "range") p) [e] [] pos) ((rangeL 0 b 1).map .int) := by
  intro X A env s E Q o ev q
  refine Call_ (load_glb hk hg (by decide) o ev ?_) (by rfl)
  refine PyProof.Rows.callWith_type1 (evl_cons h1 evl_nil (fun env => hs env) pos X A env s E _ o ev fun vs s₁ k₁ r₁ => ?_) (hs env) rfl
  cases r₁ with
  | cons r1 r2 =>
    cases r2
    obtain ⟨t, rfl⟩ := Rep.int_inv r1
    exact call_range_1 (it_range o (keeps_trans k₁ (keeps_both (Ext.push _ _))) (IsRange.new ..) hsm q)

theorem evit_range2 {tgt e e' : Expr} {p pos : Pos} {a b : Int} (hk : sc.names.lookup (Str.ofString "range") = some .globalImplicit) (hg : Glb g (Str.ofString "range") (.type "range")) (h1 : Ev g n sc σ e (.int a)) (h2 : Ev g n sc σ e' (.int b))
    (hs : ∀ env, starEach [e, e'] env = [(false, eval e env), (false, eval e' env)] := by intro _; rfl) (hs' : ∀ env, starEach [e'] env = [(false, eval e' env)] := by intro _; rfl) (hsm : Builtin.Range.small a b 1 = true) :
    EvIt g n sc σ tgt (.Call (.Name (Str.ofString "range") p) [e, e'] [] pos) ((rangeL a b 1).map .int) := by
  intro X A env s E Q o ev q
  refine Call_ (load_glb hk hg (by decide) o ev ?_) (by rfl)
  refine PyProof.Rows.callWith_type1 (evl_cons h1 (evl_cons h2 evl_nil (fun env => hs' env)) (fun env => by rw [hs, hs']) pos X A env s E _ o ev fun vs s₁ k₁ r₁ => ?_) (by rw [hs, hs']) (by rw [hs']; rfl)
  obtain ⟨v1, v2, rfl, r1, r2⟩ := RepAll.two_inv r₁
  obtain ⟨t, rfl⟩ := r1.int_inv
  obtain ⟨t', rfl⟩ := r2.int_inv
  exact call_range_2 (it_range o (keeps_trans k₁ (keeps_both (Ext.push _ _))) (IsRange.new ..) hsm q)

theorem evit_range3 {tgt e e' e'' : Expr} {p pos : Pos} {a b c : Int} (hk : sc.names.lookup (Str.ofString "range") = some .globalImplicit) (hg : Glb g (Str.ofString "range") (.type "range")) (h1 : Ev g n sc σ e (.int a)) (h2 : Ev g n sc σ e' (.int b)) (h3 : Ev g n sc σ e'' (.int c))
    (hs : ∀ env, starEach [e, e', e''] env = [(false, eval e env), (false, eval e' env), (false, eval e'' env)] := by intro _; rfl) (hs' : ∀ env, starEach [e', e''] env = [(false, eval e' env), (false, eval e'' env)] := by intro _; rfl)
    (hs'' : ∀ env, starEach [e''] env = [(false, eval e'' env)] := by intro _; rfl) (hc : c ≠ 0) (hc2 : c.natAbs < 1073741824) (hsm : Builtin.Range.small a b c = true) :
    EvIt g n sc σ tgt (.Call (.Name (Str.ofString "range") p) [e, e', e''] [] pos) ((rangeL a b c).map .int) := by
  intro X A env s E Q o ev q
  refine Call_ (load_glb hk hg (by decide) o ev ?_) (by rfl)
  refine PyProof.Rows.callWith_type1 (evl_cons h1 (evl_cons h2 (evl_cons h3 evl_nil (fun env => hs'' env)) (fun env => by rw [hs', hs''])) (fun env => by rw [hs, hs']) pos X A env s E _ o ev fun vs s₁ k₁ r₁ => ?_) (by rw [hs, hs']) (by rw [hs']; rfl)
  obtain ⟨v1, v2, v3, rfl, r1, r2, r3⟩ := RepAll.three_inv r₁
  obtain ⟨t, rfl⟩ := r1.int_inv
  obtain ⟨t', rfl⟩ := r2.int_inv
  obtain ⟨t'', rfl⟩ := r3.int_inv
  exact call_range_3 hc (it_range o (keeps_trans k₁ (keeps_both (Ext.push _ _))) (IsRange.new ..) hsm q) (.inl (PyProof.noPylong_small hc2))

def enumL (ds : List PyData) : List PyData := ds.mapIdx fun i d => .tuple [.int i, d]

theorem evit_enum {elts : List Expr} {kk : Nat} {tp : Pos} {e : Expr} {p pos : Pos} {ds : List PyData} (hk : sc.names.lookup (Str.ofString "enumerate") = some .globalImplicit) (hg : Glb g (Str.ofString "enumerate") (.type "enumerate")) (h1 : Ev g n sc σ e (.list ds))
    (hs : ∀ env, starEach [e] env = [(false, eval e env)] := by intro _; rfl) :
    EvIt g n sc σ (.Tuple elts kk tp) (.Call (.Name (Str.ofString "enumerate") p) [e] [] pos) (enumL ds) := by
  intro X A env s E Q o ev q
  refine Call_ (load_glb hk hg (by decide) o ev ?_) (by rfl)
  refine PyProof.Rows.callWith_type1 (evl_cons h1 evl_nil (fun env => hs env) pos X A env s E _ o ev fun vs s₁ k₁ r₁ => ?_) (hs env) rfl
  cases r₁ with
  | cons r1 r2 =>
  cases r2
  obtain ⟨l, items, rfl, hx, hl, ra⟩ := Rep.list_inv r1
  refine call_enumerate_list hl fun h' he hit hsz hk => wpAny_pyIter_enum he ?_
  have o₁ := o.keeps k₁
  have hlI : l < s₁.heap.objs.size := by obtain ⟨_, e, _⟩ := hl; exact Heap.lt_size e
  refine q _ _ (fun i h => (∃ old, IsEnum h (s₁.heap.objs.size + 1) s₁.heap.objs.size i old) ∧ h.IsListIter s₁.heap.objs.size l i ∧ h.IsList l items ∧ RepAll (fun a => X a ∨ s₁.heap.objs.size + 2 ≤ a) h items.toList ds) (keeps_trans k₁ (keeps_heap (Ext.of hk))) ?_ ?_
  · dsimp only
    rw [hsz]
    refine ⟨?_, ?_, ?_, ?_, ?_⟩
    · rintro i h h' ⟨⟨old, a0⟩, a1, a2, a3⟩ hk
      refine ⟨⟨old, hk _ _ (Nat.lt_succ_self _) (o₁.fresh (Nat.le_succ _)) (.inr ⟨_, rfl⟩) a0⟩, a1.at fun oo e => ?_, a2.at fun oo e => ?_, a3.mono (fun _ x => x) fun b oo hb ho e => ?_⟩
      · obtain ⟨o1, e1, _, d1⟩ := a1; rw [e] at e1; cases e1
        exact hk _ _ (by omega) o₁.size (.inr ⟨_, d1⟩) e
      · obtain ⟨o1, e1, _, n1, d1⟩ := a2; rw [e] at e1; cases e1
        exact hk _ _ (Nat.lt_succ_of_lt (Nat.lt_succ_of_lt hlI)) hx (.inl ⟨_, _, d1⟩) e
      · exact hk b oo (Nat.not_le.mp fun q => hb (.inr q)) (fun q => hb (.inl q)) (.inl ho) e
    · rintro i h ⟨⟨_, e⟩, _, _⟩; exact Heap.lt_size e
    · rintro i d A s₃ E Q' aok hd ⟨⟨old, a0⟩, a1, a2, a3⟩ hQ
      obtain ⟨d', hd', rfl⟩ : ∃ d', ds[i]? = some d' ∧ d = .tuple [.int i, d'] := by
        rw [enumL, List.getElem?_mapIdx, Option.map_eq_some_iff] at hd
        obtain ⟨d', e1, e2⟩ := hd; exact ⟨d', e1, e2.symm⟩
      obtain ⟨x, hx', rx⟩ := a3.get hd'
      obtain ⟨oI, eI, _, dI⟩ := id a1
      have helt : s₁.heap.objs.size + 1 < s₃.heap.objs.size := Heap.lt_size a0
      refine wpAny_pyNext_enum_item a0 a1 a2 (x := x) (by simpa using hx') (Nat.succ_ne_self _) fun h1 ho1 hit1 hT1 hsz1 hk1 => ⟨_, rfl, ?_⟩
      refine wpAny_letOwnedTupleGo_enum ho1 fun h2 he2 hs2 => ?_
      have kp : ∀ b oo, b ≠ s₁.heap.objs.size + 1 → b ≠ s₁.heap.objs.size → s₃.heap.get? b = some oo → h2.get? b = some oo := fun b oo q1 q2 e => (hs2.2 b q1).trans (hk1 b oo q1 q2 e)
      have kn : ∀ b oo, NoFields oo → s₃.heap.get? b = some oo → h2.get? b = some oo := fun b oo hn e => kp b oo (ne_of_noFields a0 rfl e hn) (ne_of_noFields eI dI e hn) e
      have hTne : s₃.heap.objs.size ≠ s₁.heap.objs.size + 1 := Nat.ne_of_gt helt
      refine hQ _ h2 _ ?_ ⟨⟨_, by simpa using he2⟩, hit1.at fun oo y => (hs2.2 _ (Nat.ne_of_lt (Nat.lt_succ_self _))).trans y, a2.at fun oo y => ?_, a3.mono (fun _ x => x) fun b oo _ ho e => kn b oo ho.noFields e⟩ ?_
      · refine Rep.of_tuple (vs := #[.int i s₃.toks, x]) ?_ ⟨_, (hs2.2 _ hTne).trans hT1, rfl, _, rfl⟩ (.cons (.int _ _) (.cons (Rep.mono rx (fun a ha => ha.elim .inl fun ha => .inr ha.1) fun b oo _ ho e => kn b oo ho.noFields e) .nil))
        rintro (q1 | q1)
        · obtain ⟨oo, e, _⟩ := o₁.xb _ q1
          exact absurd (Nat.lt_trans (Nat.lt_of_succ_lt helt) (Heap.lt_size e)) (Nat.lt_irrefl _)
        · exact absurd q1.2 (Nat.lt_irrefl _)
      · exact kp l oo (Nat.ne_of_lt (Nat.lt_succ_of_lt hlI)) (Nat.ne_of_lt hlI) y
      · rintro b oo (hn | hn | hn) e
        · exact kn b oo hn e
        · obtain ⟨ob, eb⟩ := hn
          have := size_ext (keeps_ext k₁) eb
          exact kp b oo (Nat.ne_of_lt (Nat.lt_succ_of_lt this)) (Nat.ne_of_lt this) e
        · exact kp b oo (by omega) (by omega) e
    · rintro A s₃ E Q' aok ⟨⟨old, a0⟩, a1, a2, a3⟩ hQ
      obtain ⟨oI, eI, _, dI⟩ := id a1
      have hlen := a3.length
      rw [show (enumL ds).length = ds.length by simp [enumL]] at a0 a1
      refine wpAny_pyNext_enum_end aok.handled a0 a1 a2 (by simp at hlen; simp [← hlen]) fun h' he' => hQ h' _ ?_
      rintro b oo (hn | hn | hn) e
      · exact he' b oo (ne_of_noFields eI dI e hn) e
      · exact he' b oo (old_ne k₁ hn) e
      · exact he' b oo (Nat.ne_of_gt (Nat.lt_of_lt_of_le (Nat.lt_succ_of_lt (Nat.lt_succ_self _)) hn)) e
    · rintro i A s₃ E Q' ⟨⟨old, a0⟩, _, _⟩ hQ
      exact wpAny_pyIter_enum a0 hQ
  · refine ⟨⟨_, by simpa using he⟩, hit, hl.at fun oo e => hk _ _ e, (show RepAll _ _ _ _ from RepW.low (ra.xext hk) (by rw [hsz]; exact Nat.le_refl _))⟩
end
end Mine
namespace Mine
open PySem PyProof.Rows PySem.Calls PySem.Spec

/-! ### scopes of comprehensions -/
def relabelS (scope sc : Scope) : Scope :=
  { scope with names := scope.names.map fun (n, k) => if (k == .free && sc.kind == .function && sc.names.lookup n == some .cell) then (n, .cell) else (n, k) }
theorem relabel_eq {scope sc : Scope} {env : Env} (h : env.scope = sc) : relabel scope env = relabelS scope sc := by subst h; rfl

theorem lookup_map_keeps {α β : Type} (f : Str × α → Str × β) (hf : ∀ p, (f p).1 = p.1) (x : Str) : ∀ l : List (Str × α), (l.map f).lookup x = (l.lookup x).map fun k => (f (x, k)).2
  | [] => rfl
  | p :: r => by
    obtain ⟨n, k⟩ := p
    rw [List.map_cons, List.lookup_cons, List.lookup_cons, hf]
    by_cases hx : x = n
    · subst hx; simp
    · have hb : (x == n) = false := by simpa using hx
      dsimp only
      rw [hb]
      exact lookup_map_keeps f hf x r
theorem relabelS_lookup (scope sc : Scope) (x : Str) : (relabelS scope sc).names.lookup x =
    (scope.names.lookup x).map fun k => if (k == .free && sc.kind == .function && sc.names.lookup x == some .cell) then .cell else k := by
  unfold relabelS
  dsimp only
  rw [lookup_map_keeps _ (fun p => by (try dsimp only); split <;> rfl)]
  congr 1
  funext k
  dsimp only
  split <;> rfl

def scopeOk (s : Scope) : Bool := s.kind == .function && s.names.all fun p => s.names.lookup p.1 == some p.2
def freeOk (scope sc : Scope) (σ : Sig) : Bool := scope.names.all fun p => p.2 != .free || ((σ.lookup p.1).isSome && (sc.names.lookup p.1 == some .cell || sc.names.lookup p.1 == some .free))
/-- the names of σ are not the comprehension's own -/
def apartOk (scope : Scope) (σ : Sig) : Bool := (σ.map (·.1)).all fun x => scope.names.lookup x != some .local && scope.names.lookup x != some .cell

def closL (env : Env) : List (Str × NameKind) → List (Str × Addr) → List (Str × Addr)
  | [], acc => acc
  | (n, k) :: r, acc => if k == .free then closL env r ((n, (env.cells.lookup n).getD 0) :: acc) else closL env r acc

theorem closureFor_eq {scope : Scope} {env : Env} (h : ∀ p ∈ scope.names, p.2 = .free → (env.cells.lookup p.1).isSome = true) : closureFor scope env = pure (closL env scope.names []) := by
  unfold closureFor
  have key : ∀ (l : List (Str × NameKind)) (acc : List (Str × Addr)), (∀ p ∈ l, p.2 = .free → (env.cells.lookup p.1).isSome = true) →
      (forIn l acc fun (x : Str × NameKind) (cs : List (Str × Addr)) => (if (x.2 == NameKind.free) = true then (do let a ← cellOf env x.1; pure (ForInStep.yield ((x.1, a) :: cs)) : Sem _) else pure (ForInStep.yield cs))) = pure (closL env l acc) := by
    intro l
    induction l with
    | nil => intro acc _; rfl
    | cons p r ih =>
      intro acc hp
      obtain ⟨n, k⟩ := p
      rw [List.forIn_cons]
      by_cases hk : k = .free
      · subst hk
        obtain ⟨c, hc⟩ := Option.isSome_iff_exists.mp (hp (n, .free) List.mem_cons_self rfl)
        have hcell : cellOf env n = pure c := by unfold cellOf; rw [hc]
        show ((if (NameKind.free == NameKind.free) = true then (do let a ← cellOf env n; pure (ForInStep.yield ((n, a) :: acc)) : Sem _) else pure (ForInStep.yield acc)) >>= _) = _
        rw [if_pos (by rfl : (NameKind.free == NameKind.free) = true), hcell]
        show (forIn r ((n, c) :: acc) _ : Sem _) = _
        rw [ih _ fun q hq => hp q (List.mem_cons_of_mem _ hq)]
        simp [closL, hc]
      · have hb : (k == NameKind.free) = false := by simpa using hk
        show ((if (k == NameKind.free) = true then (do let a ← cellOf env n; pure (ForInStep.yield ((n, a) :: acc)) : Sem _) else pure (ForInStep.yield acc)) >>= _) = _
        rw [if_neg (by rw [hb]; exact Bool.false_ne_true)]
        show (forIn r acc _ : Sem _) = _
        rw [ih _ fun q hq => hp q (List.mem_cons_of_mem _ hq)]
        simp [closL, hb]
  exact (congrArg (fun t : Sem (List (Str × Addr)) => t >>= fun cs => pure cs) (key scope.names [] h))

theorem closL_mem {env : Env} : ∀ (l : List (Str × NameKind)) (acc : List (Str × Addr)) (x : Str) (c : Addr), (x, c) ∈ closL env l acc → (x, c) ∈ acc ∨ ((x, NameKind.free) ∈ l ∧ c = (env.cells.lookup x).getD 0)
  | [], _, _, _, h => .inl h
  | (n, k) :: r, acc, x, c, h => by
    unfold closL at h
    split at h
    · rename_i hk
      rcases closL_mem r _ x c h with h | ⟨h, e⟩
      · rcases List.mem_cons.mp h with h | h
        · cases h; exact .inr ⟨by simp at hk; subst hk; exact List.mem_cons_self, rfl⟩
        · exact .inl h
      · exact .inr ⟨List.mem_cons_of_mem _ h, e⟩
    · rcases closL_mem r _ x c h with h | ⟨h, e⟩
      · exact .inl h
      · exact .inr ⟨List.mem_cons_of_mem _ h, e⟩
theorem closL_has {env : Env} : ∀ (l : List (Str × NameKind)) (acc : List (Str × Addr)) (x : Str), (x, NameKind.free) ∈ l ∨ (∃ c, (x, c) ∈ acc) → ∃ c, (x, c) ∈ closL env l acc
  | [], _, _, h => by rcases h with h | h; cases h; exact h
  | (n, k) :: r, acc, x, h => by
    unfold closL
    split
    · refine closL_has r _ x ?_
      rcases h with h | ⟨c, h⟩
      · rcases List.mem_cons.mp h with h | h
        · cases h; exact .inr ⟨_, List.mem_cons_self⟩
        · exact .inl h
      · exact .inr ⟨c, List.mem_cons_of_mem _ h⟩
    · rename_i hk
      refine closL_has r _ x ?_
      rcases h with h | h
      · rcases List.mem_cons.mp h with h | h
        · cases h; exact absurd rfl hk
        · exact .inl h
      · exact .inr h
theorem lookup_of_mem {α : Type} : ∀ {l : List (Str × α)} {x : Str} {c : α}, (x, c) ∈ l → ∃ c', l.lookup x = some c'
  | (n, k) :: r, x, c, h => by
    rw [List.lookup_cons]
    by_cases hx : x = n
    · subst hx; exact ⟨k, by simp⟩
    · have hb : (x == n) = false := by simpa using hx
      rw [hb]
      rcases List.mem_cons.mp h with h | h
      · cases h; exact absurd rfl hx
      · exact lookup_of_mem h
theorem closL_lookup {env : Env} {l : List (Str × NameKind)} {x : Str} (h : (x, NameKind.free) ∈ l) {c : Addr} (hc : env.cells.lookup x = some c) : (closL env l []).lookup x = some c := by
  obtain ⟨c', h'⟩ := closL_has (env := env) l [] x (.inl h)
  obtain ⟨d, hd⟩ := lookup_of_mem h'
  rcases closL_mem l [] x d (mem_of_lookup hd) with q | ⟨_, q⟩
  · cases q
  · rw [hd, q, hc]; rfl

theorem cellsFrom_append : ∀ (names : List (Str × NameKind)) (n : Nat) (acc : List (Str × Addr)), cellsFrom n names acc = cellsFrom n names [] ++ acc
  | [], _, _ => rfl
  | (x, k) :: r, n, acc => by
    unfold cellsFrom
    split
    · rw [cellsFrom_append r (n + 1) ((x, n) :: acc), cellsFrom_append r (n + 1) [(x, n)]]; simp
    · exact cellsFrom_append r n acc
theorem cellsFrom_mem : ∀ (names : List (Str × NameKind)) (n : Nat) (x : Str) (c : Addr), (x, c) ∈ cellsFrom n names [] → (x, NameKind.cell) ∈ names
  | [], _, _, _, h => by cases h
  | (y, k) :: r, n, x, c, h => by
    unfold cellsFrom at h
    split at h
    · rename_i hk
      rw [cellsFrom_append] at h
      rcases List.mem_append.mp h with h | h
      · exact List.mem_cons_of_mem _ (cellsFrom_mem r _ x c h)
      · simp at h; simp at hk; obtain ⟨rfl, rfl⟩ := h; subst hk; exact List.mem_cons_self
    · exact List.mem_cons_of_mem _ (cellsFrom_mem r _ x c h)
theorem cellsFrom_has : ∀ (names : List (Str × NameKind)) (n : Nat) (x : Str), (x, NameKind.cell) ∈ names → ∃ c, (x, c) ∈ cellsFrom n names []
  | [], _, _, h => by cases h
  | (y, k) :: r, n, x, h => by
    unfold cellsFrom
    split
    · rw [cellsFrom_append]
      rcases List.mem_cons.mp h with h | h
      · cases h; exact ⟨n, List.mem_append.mpr (.inr List.mem_cons_self)⟩
      · obtain ⟨c, hc⟩ := cellsFrom_has r (n + 1) x h; exact ⟨c, List.mem_append.mpr (.inl hc)⟩
    · rename_i hk
      rcases List.mem_cons.mp h with h | h
      · cases h; exact absurd rfl hk
      · exact cellsFrom_has r n x h

theorem newEnv_comp {prog : Program} {w : World} {A : Around} {E : Value → Shared → Prop} {s : Shared} {scope : Scope} {env : Env} {cl : List (Str × Addr)} {Q : Env → Shared → Prop}
    (h : Q { scope := scope, locals := s.heap.objs.size, globals := env.globals, cells := cellsFrom (s.heap.objs.size + 1) scope.names [] ++ cl, qual := env.qual, func := none, code := env.code, frame := env.frame, builtins := env.builtins }
      { s with heap := pushCells (s.heap.push { cls := .type "dict", data := .dict #[] }) scope.names }) :
    wpAny (model prog w) A (newFunctionEnv scope env.globals cl [] env.qual none .none (some env)) Q E s := by
  simp only [newFunctionEnv, Option.isSome_some, if_true]
  refine wpAny_bind (wpAny_alloc ?_)
  refine wpAny_bind (wpAny_layCells _ (fun name kind cells => by cases hkc : kind == NameKind.cell <;> simp [hkc]) _ _ _ _ ?_)
  rw [show ({ s with heap := s.heap.push { cls := .type "dict", data := .dict #[] } } : Shared).heap.objs.size = s.heap.objs.size + 1 from Heap.size_push ..]
  rw [cellsFrom_append]
  exact wpAny_bind (wpAny_pure (wpAny_pure h))
end Mine
namespace Mine
open PySem PyProof.Rows PySem.Calls PySem.Spec

/-- a frame that may be written: its own names ws, behind the heap hb -/
structure FW (H : Heap) (X : Addr → Prop) (sc : Scope) (ws : List Str) (hb : Heap) (env : Env) (σ : Sig) (h : Heap) : Prop where
  ext : Ext H hb h
  base : XExt H hb
  ok : EnvOK X sc env h σ
  loc : ¬ Old hb env.locals
  wr : ∀ x ∈ ws, sc.names.lookup x = some .local ∨ (sc.names.lookup x = some .cell ∧ ∃ c v, env.cells.lookup x = some c ∧ h.IsCell c v ∧ ¬ Old hb c)

/-- all lists, tuples and records but D stand -/
structure Hk (D : Addr → Prop) (h h' : Heap) : Prop where
  hard : ∀ b o, ¬ D b → Hard o → h.get? b = some o → h'.get? b = some o
  dict : ∀ L, DictAt h L → DictAt h' L
theorem Hk.refl (D : Addr → Prop) (h : Heap) : Hk D h h := ⟨fun _ _ _ _ e => e, fun _ d => d⟩
theorem Hk.trans {D : Addr → Prop} {a b c : Heap} (x : Hk D a b) (y : Hk D b c) : Hk D a c := ⟨fun i o n k e => y.hard i o n k (x.hard i o n k e), fun L d => y.dict L (x.dict L d)⟩
theorem Hk.of_ext {H : Heap} {D : Addr → Prop} {h h' : Heap} (k : Ext H h h') : Hk D h h' := ⟨fun b o _ ho e => k.hard ho e, fun _ d => k.dictAt d⟩
/-- one address turns, and what stood there was no list and no record -/
theorem Hk.of_same {D : Addr → Prop} {C : Addr} {h h' : Heap} (hs : Heap.SameBut C h h') (hn : ∀ o, h.get? C = some o → ¬ Hard o) (hd : DictAt h C → DictAt h' C) : Hk D h h' :=
  ⟨fun b o _ ho e => hs.extBut b o (by rintro rfl; exact hn o e ho) e, fun L d => by
    by_cases hL : L = C
    · subst hL; exact hd d
    · obtain ⟨o, e, q⟩ := d; exact ⟨o, hs.extBut L o hL e, q⟩⟩

/-- turning an address that hb does not hold -/
theorem Ext.turn {H hb h h' : Heap} {C : Addr} (k : Ext H hb h) (base : XExt H hb) (hs : Heap.SameBut C h h') (hn : ¬ Old hb C) : Ext H hb h' :=
  ⟨fun b o e => let ⟨o', e', s⟩ := k.to b o e; ⟨o', hs.extBut b o' (fun q => hn ⟨o, q ▸ e⟩) e', s⟩, fun _ b o e => hs.extBut b o (fun q => hn ⟨o, q ▸ base b o e⟩) (k.base base b o e)⟩

theorem lookup_cons_ne {α : Type} {x y : Str} {d : α} {l : List (Str × α)} (h : y ≠ x) : ((x, d) :: l).lookup y = l.lookup y := by
  have hb : (y == x) = false := by simpa using h
  rw [List.lookup_cons, hb]

section
variable {H : Heap} {X : Addr → Prop} {sc : Scope} {ws : List Str} {hb : Heap} {env : Env} {σ : Sig} {prog : Program} {w : World} {A : Around} {E : Value → Shared → Prop} {s : Shared}

theorem FW.ext' {h h' : Heap} (f : FW H X sc ws hb env σ h) (k : Ext H h h') : FW H X sc ws hb env σ h' :=
  ⟨f.ext.trans k, f.base, f.ok.ext k, f.loc, fun x hx => (f.wr x hx).imp id fun ⟨a, c, v, b, d, e⟩ => ⟨a, c, v, b, k.cell d, e⟩⟩

/-- storing a name of one's own -/
theorem FW.store2 {x : Str} {v : Value} {d : PyData} {Q : Unit → Shared → Prop} (f : FW H X sc ws hb env σ s.heap) (hx : x ∈ ws) (r : Rep X s.heap v d)
    (q : ∀ h' tk, (∀ D, Hk D s.heap h') → (∃ b, (b = env.locals ∨ (sc.names.lookup x = some .cell ∧ env.cells.lookup x = some b)) ∧ Heap.SameBut b s.heap h') → FW H X sc ws hb env ((x, d) :: σ) h' → Q () { s with heap := h', toks := tk }) : wpAny (model prog w) A (storeName env x v) Q E s := by
  have hkind : env.scope.kind = .function := by rw [f.ok.scope]; exact f.ok.kind
  rcases f.wr x hx with hl | ⟨hl, c, v₀, hc, hcell, hfresh⟩
  · obtain ⟨m, hm, hv⟩ := f.ok.loc
    obtain ⟨oL, es, ep, hoL, hdL, hkL, hmL⟩ := id hm
    refine wpAny_storeName_local (by rw [Env.kindOf, f.ok.scope]; exact hl) hm (fun h' hn' hs' => ?_) (by rw [hkind]; rfl)
    have hard : ∀ D, Hk D s.heap h' := fun D => Hk.of_same hs' (fun o e ho => by rw [hoL] at e; cases e; exact ho.noDict ⟨_, _, hdL⟩) fun _ => by
      obtain ⟨o', es', ep', e', d', _⟩ := hn'; exact ⟨o', e', es', ep', d'⟩
    have rk : ∀ {v' d'}, Rep X s.heap v' d' → Rep X h' v' d' := fun r' => r'.mono (fun _ x => x) fun b o _ ho e => (hard (fun _ => False)).hard b o (fun q => q) (.inl ho) e
    have hcne : ∀ c' v', s.heap.IsCell c' v' → c' ≠ env.locals := by
      rintro c' v' ⟨o', e', d'⟩ rfl; rw [hoL] at e'; cases e'; rw [hdL] at d'; cases d'
    refine q h' _ hard ⟨_, .inl rfl, hs'⟩ ⟨f.ext.turn f.base hs' f.loc, f.base, ⟨f.ok.scope, f.ok.kind, f.ok.globals, f.ok.builtins, ⟨_, hn', ?_⟩, ?_, f.ok.apart⟩, f.loc, ?_⟩
    · intro y d' hy hyl
      by_cases hyx : y = x
      · subst hyx
        rw [List.lookup_cons_self] at hy; cases hy
        exact ⟨v, by simp, rk r⟩
      · rw [lookup_cons_ne hyx] at hy
        obtain ⟨v', e1, e2⟩ := hv y d' hy hyl
        exact ⟨v', by simp [hyx, e1], rk e2⟩
    · intro y d' hy hyl
      have hyx : y ≠ x := by rintro rfl; rw [hl] at hyl; rcases hyl with q | q <;> cases q
      rw [lookup_cons_ne hyx] at hy
      obtain ⟨c', v', e1, e2, e3⟩ := f.ok.cell y d' hy hyl
      exact ⟨c', v', e1, e2.sameBut hs' (hcne _ _ e2), rk e3⟩
    · exact fun y hy => (f.wr y hy).imp id fun ⟨a, c', v', b, e, g⟩ => ⟨a, c', v', b, e.sameBut hs' (hcne _ _ e), g⟩
  · refine wpAny_storeName_cell hkind (by rw [Env.kindOf, f.ok.scope]; exact hl) hc hcell fun h' hv' hs' => ?_
    obtain ⟨oc, hoc, hdc⟩ := hcell
    have hard : ∀ D, Hk D s.heap h' := fun D => Hk.of_same hs' (fun o e ho => by
      rw [hoc] at e; cases e
      rcases ho with ⟨xs, n, hd⟩ | ⟨vs, hd⟩ <;> rw [hdc] at hd <;> cases hd) fun ⟨o, e, es, n, d⟩ => by rw [hoc] at e; cases e; rw [hdc] at d; cases d
    have rk : ∀ {v' d'}, Rep X s.heap v' d' → Rep X h' v' d' := fun r' => r'.mono (fun _ x => x) fun b o _ ho e => (hard (fun _ => False)).hard b o (fun q => q) (.inl ho) e
    obtain ⟨m, hm, hv⟩ := f.ok.loc
    have hLne : env.locals ≠ c := by
      rintro e; obtain ⟨oL, es, ep, hoL, hdL, _⟩ := id hm; rw [e, hoc] at hoL; cases hoL; rw [hdc] at hdL; cases hdL
    refine q h' _ hard ⟨_, .inr ⟨hl, hc⟩, hs'⟩ ⟨f.ext.turn f.base hs' hfresh, f.base, ⟨f.ok.scope, f.ok.kind, f.ok.globals, f.ok.builtins, ⟨m, hm.sameBut hs' hLne, ?_⟩, ?_, f.ok.apart⟩, f.loc, ?_⟩
    · intro y d' hy hyl
      have hyx : y ≠ x := by rintro rfl; rw [hl] at hyl; cases hyl
      rw [lookup_cons_ne hyx] at hy
      obtain ⟨v', e1, e2⟩ := hv y d' hy hyl
      exact ⟨v', e1, rk e2⟩
    · intro y d' hy hyl
      by_cases hyx : y = x
      · subst hyx
        rw [List.lookup_cons_self] at hy; cases hy
        exact ⟨c, v, hc, hv', rk r⟩
      · rw [lookup_cons_ne hyx] at hy
        obtain ⟨c', v', e1, e2, e3⟩ := f.ok.cell y d' hy hyl
        exact ⟨c', v', e1, e2.sameBut hs' (fun q => hyx (f.ok.apart y x c (q ▸ e1) hc)), rk e3⟩
    · intro y hy
      refine (f.wr y hy).imp id fun ⟨a, c', v', b, e, g⟩ => ?_
      by_cases hcc : c' = c
      · subst hcc; exact ⟨a, c', _, b, hv', g⟩
      · exact ⟨a, c', v', b, e.sameBut hs' hcc, g⟩

theorem FW.store {x : Str} {v : Value} {d : PyData} {Q : Unit → Shared → Prop} (f : FW H X sc ws hb env σ s.heap) (hx : x ∈ ws) (r : Rep X s.heap v d)
    (q : ∀ h' tk, (∀ D, Hk D s.heap h') → FW H X sc ws hb env ((x, d) :: σ) h' → Q () { s with heap := h', toks := tk }) : wpAny (model prog w) A (storeName env x v) Q E s :=
  f.store2 hx r fun h' tk k _ f' => q h' tk k f'
/-- another frame's names may change -/
theorem FW.soft {C : Addr} {h h' : Heap} {m : Str → Option Value} (f : FW H X sc ws hb env σ h) (hs : Heap.SameBut C h h') (hm : h.Ns C m) (hL : C ≠ env.locals) (hn : ¬ Old hb C) : FW H X sc ws hb env σ h' := by
  obtain ⟨oC, es, ep, hoC, hdC, _⟩ := hm
  have rk : ∀ {v' d'}, Rep X h v' d' → Rep X h' v' d' := fun r' => r'.mono (fun _ x => x) fun b o _ ho e => hs.extBut b o (by
    rintro rfl; rw [hoC] at e; cases e; obtain ⟨xs, n, hd⟩ := ho; rw [hdC] at hd; cases hd) e
  have kc : ∀ {c' v'}, h.IsCell c' v' → h'.IsCell c' v' := by
    rintro c' v' ⟨o, e, d⟩
    exact ⟨o, hs.extBut c' o (by rintro rfl; rw [hoC] at e; cases e; rw [hdC] at d; cases d) e, d⟩
  refine ⟨f.ext.turn f.base hs hn, f.base, ⟨f.ok.scope, f.ok.kind, f.ok.globals, f.ok.builtins, ?_, ?_, f.ok.apart⟩, f.loc, ?_⟩
  · obtain ⟨m', hm', hv⟩ := f.ok.loc
    exact ⟨m', hm'.sameBut hs (Ne.symm hL), fun x d h1 h2 => let ⟨v, e1, e2⟩ := hv x d h1 h2; ⟨v, e1, rk e2⟩⟩
  · intro x d h1 h2
    obtain ⟨c', v', e1, e2, e3⟩ := f.ok.cell x d h1 h2
    exact ⟨c', v', e1, kc e2, rk e3⟩
  · exact fun x hx => (f.wr x hx).imp id fun ⟨a, c', v', b, e, g⟩ => ⟨a, c', v', b, kc e, g⟩
/-- forget what is no longer wanted -/
theorem EnvOK.sub {h : Heap} {σ' : Sig} (e : EnvOK X sc env h σ) (k : ∀ x d, σ'.lookup x = some d → σ.lookup x = some d) : EnvOK X sc env h σ' :=
  ⟨e.scope, e.kind, e.globals, e.builtins, let ⟨m, a, b⟩ := e.loc; ⟨m, a, fun x d hx => b x d (k x d hx)⟩, fun x d hx => e.cell x d (k x d hx), e.apart⟩
theorem FW.sub {h : Heap} {σ' : Sig} (f : FW H X sc ws hb env σ h) (k : ∀ x d, σ'.lookup x = some d → σ.lookup x = some d) : FW H X sc ws hb env σ' h := ⟨f.ext, f.base, f.ok.sub k, f.loc, f.wr⟩
end
end Mine
namespace Mine
open PySem PyProof.Rows PySem.Calls PySem.Spec

/-- assigning a datum to a target binds bs -/
def Asg (ws : List Str) (tgt : Expr) (d : PyData) (bs : Sig) : Prop :=
  ∀ (prog : Program) (w : World) (A : Around) (H : Heap) (X : Addr → Prop) (sc : Scope) (hb : Heap) (env : Env) (σ : Sig) (s : Shared) (E : Value → Shared → Prop) (Q : Unit → Shared → Prop) (v : Value),
    A.handled = none → FW H X sc ws hb env σ s.heap → Rep X s.heap v d →
    (∀ h' tk, (∀ D, Hk D s.heap h') → FW H X sc ws hb env (bs ++ σ) h' → Q () { s with heap := h', toks := tk }) → wpAny (model prog w) A (assign tgt env v) Q E s
def AsgL (ws : List Str) (elts : List Expr) (ds : List PyData) (bs : Sig) : Prop :=
  ∀ (prog : Program) (w : World) (A : Around) (H : Heap) (X : Addr → Prop) (sc : Scope) (hb : Heap) (env : Env) (σ : Sig) (s : Shared) (E : Value → Shared → Prop) (Q : Unit → Shared → Prop) (vs : List Value),
    A.handled = none → FW H X sc ws hb env σ s.heap → RepAll X s.heap vs ds →
    (∀ h' tk, (∀ D, Hk D s.heap h') → FW H X sc ws hb env (bs ++ σ) h' → Q () { s with heap := h', toks := tk }) → wpAny (model prog w) A (assignInOrder ((assignEach elts env).map (·.2)) vs) Q E s

theorem asg_name {ws : List Str} {x : Str} {pos : Pos} {d : PyData} (h : x ∈ ws) : Asg ws (.Name x pos) d [(x, d)] := by
  intro prog w A H X sc hb env σ s E Q v hh f r q
  exact wpAny_assign_Name (f.store h r q)
theorem rep_hk {X : Addr → Prop} {h h' : Heap} {v : Value} {d : PyData} (r : Rep X h v d) (k : Hk X h h') : Rep X h' v d := r.mono (fun _ x => x) fun b o n ho e => k.hard b o n (.inl ho) e
theorem repall_hk {X : Addr → Prop} {h h' : Heap} {v : List Value} {d : List PyData} (r : RepAll X h v d) (k : Hk X h h') : RepAll X h' v d := r.mono (fun _ x => x) fun b o n ho e => k.hard b o n (.inl ho) e

theorem asgl_nil {ws : List Str} : AsgL ws [] [] [] := by
  intro prog w A H X sc hb env σ s E Q vs hh f r q
  cases r
  exact wpAny_pure (q s.heap s.toks (fun D => Hk.refl D _) f)
theorem asgl_cons {ws : List Str} {t : Expr} {ts : List Expr} {d : PyData} {ds : List PyData} {b1 b2 : Sig} (h1 : Asg ws t d b1) (h2 : AsgL ws ts ds b2)
    (he : ∀ env, assignEach (t :: ts) env = (false, assign t env) :: assignEach ts env := by intro _; rfl) : AsgL ws (t :: ts) (d :: ds) (b2 ++ b1) := by
  intro prog w A H X sc hb env σ s E Q vs hh f r q
  cases r with
  | cons r1 r2 =>
    rw [he]
    show wpAny _ _ (assignInOrder (assign t env :: (assignEach ts env).map (·.2)) (_ :: _)) _ _ _
    unfold assignInOrder
    refine wpAny_bind (wpAny_holding (h1 prog w A H X sc hb env σ s E _ _ hh f r1 fun h' tk k f' => ?_))
    refine h2 prog w A H X sc hb env (b1 ++ σ) _ E Q _ hh f' (repall_hk r2 (k X)) fun h'' tk' k' f'' => ?_
    rw [← List.append_assoc] at f''
    exact q h'' tk' (fun D => (k D).trans (k' D)) f''
theorem asg_tuple {ws : List Str} {elts : List Expr} {kk : Nat} {pos : Pos} {ds : List PyData} {bs : Sig} (h : AsgL ws elts ds bs)
    (hn : ∀ env, (assignEach elts env).length = ds.length := by intro _; rfl) (hstar : ∀ env, (assignEach elts env).findIdx? (·.1) = none := by intro _; rfl) : Asg ws (.Tuple elts kk pos) (.tuple ds) bs := by
  intro prog w A H X sc hb env σ s E Q v hh f r q
  obtain ⟨a, vs, rfl, hx, ht, ra⟩ := Rep.tuple_inv r
  have hlen := ra.length
  refine wpAny_assign_Tuple hh ht (by rw [hn, ← hlen]; simp) (hstar env) fun h' hk => ?_
  have k : Ext H s.heap h' := Ext.of fun b o e => hk b o (Nat.ne_of_lt (Heap.lt_size e)) e
  exact h prog w A H X sc hb env σ { s with heap := h' } E Q _ hh (f.ext' k) (ra.ext k) fun h'' tk k' f' => q h'' tk (fun D => (Hk.of_ext k).trans (k' D)) f'

/-- the tests of a clause -/
def Tests (g : G) (n : Nat) (sc : Scope) (σ : Sig) (ifs : List Expr) (b : Bool) : Prop :=
  ∀ (X : Addr → Prop) (A : Around) (env : Env) (s : Shared) (E : Value → Shared → Prop) (Q : Bool → Shared → Prop), Ok g n X A s → EnvOK X sc env s.heap σ → (∀ s', Kp g.H s s' → Q b s') →
    wpAny (model g.prog g.w) A (forIn ifs true fun c r => if r = true then do let ok ← isTrue c env (eval c env); pure (ForInStep.yield ok) else pure (ForInStep.yield r)) Q E s
section
variable {g : G} {n : Nat} {sc : Scope} {σ : Sig}
theorem tests_nil : Tests g n sc σ [] true := fun X A env s E Q o e q => wpAny_tests_nil (q s (keeps_refl s))
theorem tests_one {c : Expr} {b : Bool} (h : Tst g n sc σ c b) : Tests g n sc σ [c] b := fun X A env s E Q o e q => wpAny_tests_one (h X A env s E Q o e q)
end

structure CS (H : Heap) (X : Addr → Prop) (sc : Scope) (ws : List Str) (hb : Heap) (env : Env) (D : Addr) (σ : Sig) (out : List PyData) (h : Heap) : Prop where
  fw : FW H X sc ws hb env σ h
  dn : ¬ Old hb D
  xD : X D
  acc : ∃ ys, h.PlainList D ys ∧ RepAll X h ys.toList out
  xb : ∀ a, X a → ∃ o, h.get? a = some o ∧ SeqO o

theorem CS.ext {H : Heap} {X : Addr → Prop} {sc : Scope} {ws : List Str} {hb : Heap} {env : Env} {D : Addr} {σ : Sig} {out : List PyData} {h h' : Heap} (c : CS H X sc ws hb env D σ out h) (k : Ext H h h') : CS H X sc ws hb env D σ out h' :=
  ⟨c.fw.ext' k, c.dn, c.xD, let ⟨ys, a, b⟩ := c.acc; ⟨ys, k.plain a, b.ext k⟩, fun a x => let ⟨o, e, h⟩ := c.xb a x; ⟨o, k.seq h e, h⟩⟩
theorem CS.okk {g : G} {n : Nat} {A : Around} {X : Addr → Prop} {sc : Scope} {ws : List Str} {hb : Heap} {env : Env} {D : Addr} {σ : Sig} {out : List PyData} {s : Shared} (c : CS g.H X sc ws hb env D σ out s.heap) (a : AOk n A) (st : Stk g.H A s.heap) : Ok g n X A s :=
  ⟨a, c.fw.ext.base c.fw.base, c.xb, st⟩

/-- a piece of code that appends out to the list that is made -/
def Emit (g : G) (n : Nat) (sc : Scope) (ws : List Str) (σ : Sig) (t : Env → Addr → Sem Unit) (out : List PyData) : Prop :=
  ∀ (X : Addr → Prop) (hb : Heap) (A : Around) (env : Env) (D : Addr) (s : Shared) (E : Value → Shared → Prop) (Q : Unit → Shared → Prop) (out₀ : List PyData), AOk n A → Stk g.H A s.heap →
    CS g.H X sc ws hb env D σ out₀ s.heap → out₀.length + out.length ≤ sizeLine →
    (∀ h' tk, Hk (· = D) s.heap h' → CS g.H X sc ws hb env D σ (out₀ ++ out) h' → Q () { s with heap := h', toks := tk }) → wpAny (model g.prog g.w) A (t env D) Q E s

section
variable {g : G} {n : Nat} {sc : Scope} {ws : List Str} {σ : Sig}
theorem emit_elt {elt : Expr} {d : PyData} (h : Ev g n sc σ elt d) : Emit g n sc ws σ (fun env D => do let _ ← call (.builtin "list.append") [.ref D, ← eval elt env]) [d] := by
  intro X hb A env D s E Q out₀ a b c hsz q
  refine wpAny_bind (h X A env s E _ (c.okk a b) c.fw.ok fun v s₁ k₁ r₁ => ?_)
  obtain ⟨h₁, tk₁, rfl, ke'⟩ := k₁
  have ke : Ext g.H s.heap h₁ := ke'
  have c₁ := c.ext ke
  obtain ⟨ys, hp, hr⟩ := c₁.acc
  have hlen := hr.length
  simp only [Array.length_toList, List.length_singleton] at hlen hsz
  refine wpAny_bind (wpAny_list_append_plain hp (fun h₂ hp₂ hs₂ => wpAny_pure ?_) (by omega))
  have hk : ∀ b oo, b ≠ D → h₁.get? b = some oo → h₂.get? b = some oo := fun b oo hb e => hs₂.extBut b oo hb e
  have hkx : ∀ {v' d'}, Rep X h₁ v' d' → Rep X h₂ v' d' := fun r => r.mono (fun _ x => x) fun b oo hb _ e => hk b oo (fun q => hb (q ▸ c.xD)) e
  have hDne : ∀ {b oo}, h₁.get? b = some oo → ¬ SeqO oo → b ≠ D := by
    rintro b oo e hn rfl
    obtain ⟨m, e'⟩ := hp; rw [e'] at e; cases e; exact hn ⟨_, _, rfl⟩
  refine q h₂ tk₁ ⟨fun b oo hb ho e => hk b oo hb (ke.hard ho e), fun L d => ?_⟩ ⟨⟨?_, c.fw.base, ⟨c.fw.ok.scope, c.fw.ok.kind, c.fw.ok.globals, c.fw.ok.builtins, ?_, ?_, c.fw.ok.apart⟩, c.fw.loc, ?_⟩, c.dn, c.xD, ⟨ys.push v, hp₂, ?_⟩, ?_⟩
  · obtain ⟨oo, e, dd⟩ := ke.dictAt d
    exact ⟨oo, hk L oo (hDne e fun ⟨xs, nn, q⟩ => by obtain ⟨es, m, d'⟩ := dd; rw [d'] at q; cases q) e, dd⟩
  · exact c₁.fw.ext.turn c.fw.base hs₂ c.dn
  · obtain ⟨m, hm, hv⟩ := c₁.fw.ok.loc
    obtain ⟨oL, es, ep, hoL, hdL, _⟩ := id hm
    refine ⟨m, hm.sameBut hs₂ (hDne hoL fun ⟨xs, nn, e⟩ => by rw [hdL] at e; cases e), fun x d' h1 h2 => ?_⟩
    obtain ⟨v', e1, e2⟩ := hv x d' h1 h2
    exact ⟨v', e1, hkx e2⟩
  · intro x d' h1 h2
    obtain ⟨c', v', e1, e2, e3⟩ := c₁.fw.ok.cell x d' h1 h2
    obtain ⟨oc, hoc, hdc⟩ := id e2
    exact ⟨c', v', e1, e2.sameBut hs₂ (hDne hoc fun ⟨xs, nn, e⟩ => by rw [hdc] at e; cases e), hkx e3⟩
  · intro x hx
    refine (c₁.fw.wr x hx).imp id fun ⟨a, c', v', b, e, g⟩ => ⟨a, c', v', b, ?_, g⟩
    obtain ⟨oc, hoc, hdc⟩ := id e
    exact e.sameBut hs₂ (hDne hoc fun ⟨xs, nn, e⟩ => by rw [hdc] at e; cases e)
  · rw [Array.toList_push]
    exact RepAll.append (RepAll.mono hr (fun _ x => x) fun b oo hb _ e => hk b oo (fun q => hb (q ▸ c.xD)) e) (.one (hkx r₁))
  · intro a' x
    by_cases hD : a' = D
    · subst hD; obtain ⟨m, e⟩ := hp₂; exact ⟨_, e, ⟨_, _, rfl⟩⟩
    · obtain ⟨oo, e, hh⟩ := c₁.xb a' x; exact ⟨oo, hk a' oo hD e, hh⟩
end
end Mine
namespace Mine
open PySem PyProof.Rows PySem.Calls PySem.Spec

def TurnOk (g : G) (n : Nat) (sc : Scope) (ws : List Str) (σ : Sig) (tgt : Expr) (ifs : List Expr) (t : Env → Addr → Sem Unit) (d : PyData) (out : List PyData) : Prop :=
  ∃ bs b, Asg ws tgt d bs ∧ (∀ x d', σ.lookup x = some d' → (bs ++ σ).lookup x = some d') ∧ Tests g n sc (bs ++ σ) ifs b ∧ (b = true → Emit g n sc ws (bs ++ σ) t out) ∧ (b = false → out = [])

section
variable {g : G} {n : Nat} {sc : Scope} {ws : List Str} {σ : Sig}

/-- one turn behind the drawing of the item -/
theorem turn_run {tgt : Expr} {ifs : List Expr} {t : Env → Addr → Sem Unit} {d : PyData} {out : List PyData} (h : TurnOk g n sc ws σ tgt ifs t d out)
    {X : Addr → Prop} {hb : Heap} {A : Around} {env : Env} {D : Addr} {s : Shared} {E : Value → Shared → Prop} {Q : Unit → Shared → Prop} {out₀ : List PyData} {v : Value} (a : AOk n A) (b : Stk g.H A s.heap)
    (c : CS g.H X sc ws hb env D σ out₀ s.heap) (r : Rep X s.heap v d) (hsz : out₀.length + out.length ≤ sizeLine)
    (q : ∀ h' tk, Hk (· = D) s.heap h' → CS g.H X sc ws hb env D σ (out₀ ++ out) h' → Q () { s with heap := h', toks := tk }) :
    wpAny (model g.prog g.w) A (assign tgt env v) (fun _ s₂ => wpAny (model g.prog g.w) A (forIn ifs true fun c r => if r = true then do let ok ← isTrue c env (eval c env); pure (ForInStep.yield ok) else pure (ForInStep.yield r))
      (fun ok s₃ => if ok = true then wpAny (model g.prog g.w) A (t env D) Q E s₃ else Q () s₃) E s₂) E s := by
  obtain ⟨bs, bb, h1, h2, h3, h4, h5⟩ := h
  refine h1 g.prog g.w A g.H X sc hb env σ s E _ v a.handled c.fw r fun h' tk k f => ?_
  have c' : CS g.H X sc ws hb env D (bs ++ σ) out₀ h' := by
    obtain ⟨ys, hp, hr⟩ := c.acc
    refine ⟨f, c.dn, c.xD, ⟨ys, hp.at fun o e => ?_, repall_hk hr (k X)⟩, fun a' x => ?_⟩
    · obtain ⟨m, e'⟩ := hp; rw [e'] at e; cases e
      exact (k (fun _ => False)).hard _ _ (fun q => q) (.inl ⟨_, _, rfl⟩) e'
    · obtain ⟨oo, e, hh⟩ := c.xb a' x; exact ⟨oo, (k (fun _ => False)).hard a' oo (fun q => q) hh.hard e, hh⟩
  refine h3 X A env { s with heap := h', toks := tk } E _ (c'.okk a (b.mono (k (fun _ => False)).dict)) c'.fw.ok fun s₃ k₃ => ?_
  obtain ⟨h₃, tk₃, rfl, ke⟩ := k₃
  have c₃ := c'.ext ke
  have drop : ∀ {h o}, CS g.H X sc ws hb env D (bs ++ σ) o h → CS g.H X sc ws hb env D σ o h := fun c => ⟨c.fw.sub h2, c.dn, c.xD, c.acc, c.xb⟩
  have hk3 : Hk (· = D) s.heap h₃ := (k _).trans (Hk.of_ext ke)
  cases bb with
  | false =>
    rw [if_neg (by decide)]
    rw [h5 rfl, List.append_nil] at q
    exact q h₃ tk₃ hk3 (drop c₃)
  | true =>
    rw [if_pos rfl]
    exact h4 rfl X hb A env D _ E Q out₀ a (b.mono hk3.dict) c₃ hsz fun h₄ tk₄ k₄ c₄ => q h₄ tk₄ (hk3.trans k₄) (drop c₄)
end

def emitCode (e elt : Expr) (gens : List Comprehension) (k : Nat) (env : Env) (D : Addr) : Sem Unit := match gens[k + 1]? with
  | some g' => (do
    let x ← eval g'.iter env
    standAt g'.iter.pos
    let x ← foldedSetIterable g'.iter env x
    let _ ← runOwn (.compStart e (k + 1) (← holding [x] (pyIter x)) (.ref D) env) env)
  | none => (do let _ ← call (.builtin "list.append") [.ref D, ← eval elt env])

theorem comp_turn_wp {M : Model} {A : Around} {E : Value → Shared → Prop} {s : Shared} {elt : Expr} {gens : List Comprehension} {scope : Scope} {pos : Pos} {k : Nat} {tgt iter : Expr} {ifs : List Expr} {it : Value} {D : Addr} {env : Env} {Q : Fin → Shared → Prop}
    (hg : gens[k]? = some ⟨tgt, iter, ifs, 0⟩) (ha : ∀ g', gens[k + 1]? = some g' → g'.is_async = 0)
    (h : wpAny M A (pyNext it) (fun r s₁ => match r with
      | none => Q (.done .next) s₁
      | some v => wpAny M A (letOwnedTupleGo tgt it v) (fun _ s₂ => wpAny M A (assign tgt env v) (fun _ s₃ => wpAny M A (forIn ifs true fun c r => if r = true then do let ok ← isTrue c env (eval c env); pure (ForInStep.yield ok) else pure (ForInStep.yield r))
        (fun ok s₄ => if ok = true then wpAny M A (emitCode (.ListComp elt gens scope pos) elt gens k env D) (fun _ s₅ => Q (.again (.compLoop (.ListComp elt gens scope pos) k it (.ref D) env)) s₅) E s₄
          else Q (.again (.compLoop (.ListComp elt gens scope pos) k it (.ref D) env)) s₄) E s₃) E s₂) E s₁) E s) :
    wpAny M A (compTurn (.ListComp elt gens scope pos) k it (.ref D) env) Q E s := by
  unfold compTurn
  dsimp only
  rw [hg]
  dsimp only
  refine wpAny_bind (wpAny_standAt ?_)
  refine wpAny_bind (wpAny_mono h (fun r s₁ h₁ => ?_) fun _ _ x => x)
  cases r with
  | none => exact wpAny_pure h₁
  | some v =>
    refine wpAny_bind (wpAny_mono h₁ (fun _ s₂ h₂ => ?_) fun _ _ x => x)
    refine wpAny_bind (wpAny_mono h₂ (fun _ s₃ h₃ => ?_) fun _ _ x => x)
    refine wpAny_bind (wpAny_mono h₃ (fun ok s₄ h₄ => ?_) fun _ _ x => x)
    cases ok with
    | false => exact wpAny_pure h₄
    | true =>
      rw [if_pos rfl] at h₄ ⊢
      have e : ∀ c : Code, (emitCode (.ListComp elt gens scope pos) elt gens k env D >>= fun _ => again c) = (match gens[k + 1]? with
          | some g' => (do
            let x ← eval g'.iter env
            standAt g'.iter.pos
            if (g'.is_async != 0) = true then do
              let x ← foldedIterable g'.iter x
              let lift ← holding [x] (if (g'.is_async != 0) = true then asyncIter x else pyIter x)
              let _ ← runOwn (Code.compStart (.ListComp elt gens scope pos) (k + 1) lift (Value.ref D) env) env
              again c
            else do
              let x ← foldedSetIterable g'.iter env x
              let lift ← holding [x] (if (g'.is_async != 0) = true then asyncIter x else pyIter x)
              let _ ← runOwn (Code.compStart (.ListComp elt gens scope pos) (k + 1) lift (Value.ref D) env) env
              again c)
          | none => (do
            (do let lift ← eval elt env; let _ ← call (Value.builtin "list.append") [Value.ref D, lift]; pure ())
            again c)) := by
        intro c
        unfold emitCode
        cases hg' : gens[k + 1]? with
        | none => rfl
        | some g' =>
          have ha' : (g'.is_async != 0) = false := by rw [ha g' hg']; rfl
          simp only [ha', Bool.false_eq_true, if_false, bind_assoc, pure_bind]
      refine (congrArg (fun t => wpAny M A t Q E s₄) (e _)).mp (wpAny_bind (wpAny_mono h₄ (fun _ s₅ h₅ => ?_) fun _ _ x => x))
      exact wpAny_pure h₅
end Mine
namespace Mine
open PySem PyProof.Rows PySem.Calls PySem.Spec

section
variable {g : G} {n : Nat} {sc : Scope} {ws : List Str} {σ : Sig}

/-- the drawing of an item keeps the frame -/
theorem CS.drawn {X : Addr → Prop} {hb h00 : Heap} {env : Env} {D : Addr} {out : List PyData} {h h' : Heap} {P : Addr → Prop} (c : CS g.H X sc ws hb env D σ out h) (hb0 : Ext g.H hb h00)
    (k : ∀ b o, (NoFields o ∨ Old h00 b ∨ P b) → h.get? b = some o → h'.get? b = some o) : CS g.H X sc ws hb env D σ out h' := by
  have rk : ∀ {v d}, Rep X h v d → Rep X h' v d := fun r => r.mono (fun _ x => x) fun b o _ ho e => k b o (.inl ho.noFields) e
  have kc : ∀ {c' v'}, h.IsCell c' v' → h'.IsCell c' v' := by
    rintro c' v' ⟨o, e, d⟩; exact ⟨o, k _ _ (.inl fun vs q => by rw [d] at q; cases q) e, d⟩
  refine ⟨⟨?_, c.fw.base, ⟨c.fw.ok.scope, c.fw.ok.kind, c.fw.ok.globals, c.fw.ok.builtins, ?_, ?_, c.fw.ok.apart⟩, c.fw.loc, ?_⟩, c.dn, c.xD, ?_, ?_⟩
  · refine ⟨fun b o e => ?_, fun _ b o e => ?_⟩
    · obtain ⟨o', e', ss⟩ := c.fw.ext.to b o e
      obtain ⟨o2, e2, _⟩ := hb0.to b o e
      exact ⟨o', k b o' (.inr (.inl ⟨o2, e2⟩)) e', ss⟩
    · exact k b o (.inr (.inl ⟨o, hb0.base c.fw.base b o e⟩)) (c.fw.ext.base c.fw.base b o e)
  · obtain ⟨m, hm, hv⟩ := c.fw.ok.loc
    obtain ⟨oL, es, ep, hoL, hdL, hr⟩ := id hm
    exact ⟨m, ⟨oL, es, ep, k _ _ (.inl fun vs q => by rw [hdL] at q; cases q) hoL, hdL, hr⟩, fun x d h1 h2 => let ⟨v, e1, e2⟩ := hv x d h1 h2; ⟨v, e1, rk e2⟩⟩
  · intro x d h1 h2
    obtain ⟨c', v', e1, e2, e3⟩ := c.fw.ok.cell x d h1 h2
    exact ⟨c', v', e1, kc e2, rk e3⟩
  · exact fun x hx => (c.fw.wr x hx).imp id fun ⟨a, c', v', b, e, g⟩ => ⟨a, c', v', b, kc e, g⟩
  · obtain ⟨ys, ⟨m, hp⟩, hr⟩ := c.acc
    exact ⟨ys, ⟨m, k _ _ (.inl (SeqO.noFields ⟨_, _, rfl⟩)) hp⟩, hr.mono (fun _ x => x) fun b o _ ho e => k b o (.inl ho.noFields) e⟩
  · intro a x
    obtain ⟨o, e, ho⟩ := c.xb a x
    exact ⟨o, k _ _ (.inl ho.noFields) e, ho⟩

theorem Itr.item' {X : Addr → Prop} {hb : Heap} {hi : Nat} {tgt : Expr} {it : Value} {ds : List PyData} {St : Nat → Heap → Prop} (I : Itr g n X hb hi tgt it ds St) {i : Nat} {d : PyData} {A : Around} {s : Shared} {E : Value → Shared → Prop} {K : Option Value → Shared → Prop} {Q : Value → Shared → Prop}
    (hK : ∀ v s₁, wpAny (model g.prog g.w) A (letOwnedTupleGo tgt it v) (fun _ s₂ => Q v s₂) E s₁ → K (some v) s₁) (a : AOk n A) (hd : ds[i]? = some d) (st : St i s.heap)
    (q : ∀ v h' tk, Rep (fun b => X b ∨ (hi ≤ b ∧ b < s.heap.objs.size)) h' v d → St (i + 1) h' →
      (∀ b o, (NoFields o ∨ Old hb b ∨ (hi ≤ b ∧ b < s.heap.objs.size)) → s.heap.get? b = some o → h'.get? b = some o) → Q v { s with heap := h', toks := tk }) : wpAny (model g.prog g.w) A (pyNext it) K E s :=
  wpAny_mono (I.item i d A s E Q a hd st q) (fun r s₁ hr => by obtain ⟨v, rfl, hv⟩ := hr; exact hK v s₁ hv) fun _ _ x => x

theorem comp_loop {elt : Expr} {gens : List Comprehension} {scope : Scope} {pos : Pos} {k : Nat} {tgt iter : Expr} {ifs : List Expr} (hg : gens[k]? = some ⟨tgt, iter, ifs, 0⟩) (ha : ∀ g', gens[k + 1]? = some g' → g'.is_async = 0)
    {ds : List PyData} {f : Nat → List PyData} (turns : ∀ i d, ds[i]? = some d → TurnOk g n sc ws σ tgt ifs (fun env D => emitCode (.ListComp elt gens scope pos) elt gens k env D) d (f i))
    {X Xi : Addr → Prop} {hb h00 : Heap} {hi : Nat} {A : Around} {env : Env} {D : Addr} {s : Shared} {out₀ : List PyData} {St : Nat → Heap → Prop} {it : Value} {R : Result → Shared → Prop}
    (aok : AOk n A) (hstk : Stk g.H A s.heap) (hb0 : Ext g.H hb h00) (I : Itr g n Xi h00 hi tgt it ds St) (hX : ∀ b, X b → Xi b ∨ hi ≤ b) (st : St 0 s.heap) (c : CS g.H X sc ws hb env D σ out₀ s.heap) (hk : Hk (· = D) h00 s.heap)
    (hsz : out₀.length + ((List.range ds.length).flatMap f).length ≤ sizeLine)
    (hR : ∀ h' tk, Hk (· = D) h00 h' → CS g.H X sc ws hb env D σ (out₀ ++ (List.range ds.length).flatMap f) h' → R (.ok .next) { s with heap := h', toks := tk }) :
    codeAny (model g.prog g.w) A (.compLoop (.ListComp elt gens scope pos) k it (.ref D) env) R s := by
  refine codeAny_loop rfl (fun m s' => ∃ i h tk, m = ds.length - i ∧ i ≤ ds.length ∧ s' = { s with heap := h, toks := tk } ∧ St i h ∧ CS g.H X sc ws hb env D σ (out₀ ++ (List.range i).flatMap f) h ∧ Hk (· = D) h00 h ∧ Stk g.H A h) ?_ ds.length
    ⟨0, s.heap, s.toks, rfl, Nat.zero_le _, rfl, st, by simpa using c, hk, hstk⟩
  rintro m s' ⟨i, h, tk, rfl, hi', rfl, st', c', hk', hs'⟩
  have dk : ∀ {h' : Heap} {P : Addr → Prop}, (∀ b o, (NoFields o ∨ Old h00 b ∨ P b) → h.get? b = some o → h'.get? b = some o) → ∀ L, DictAt h L → DictAt h' L := by
    rintro h' P k L ⟨o, e, es, nn, d⟩; exact ⟨o, k L o (.inl fun vs q => by rw [d] at q; cases q) e, es, nn, d⟩
  show wpAny _ A ((compTurn (.ListComp elt gens scope pos) k it (.ref D) env).onRaise (fun x => do noteFrame x env; theTreesLotGoes x)) _ _ _
  refine wpAny_noted (comp_turn_wp hg ha ?_)
  by_cases hlt : i < ds.length
  · have hd : ds[i]? = some ds[i] := List.getElem?_eq_getElem hlt
    refine I.item' (fun v s₁ h => h) aok hd st' fun v h' tk' rv st'' kp => ?_
    have c₁ : CS g.H X sc ws hb env D σ (out₀ ++ (List.range i).flatMap f) h' := c'.drawn hb0 kp
    have hlen : (out₀ ++ (List.range i).flatMap f).length + (f i).length ≤ sizeLine := by
      have e : (List.range ds.length).flatMap f = (List.range (i + 1)).flatMap f ++ ((List.range (ds.length - (i + 1))).map (i + 1 + ·)).flatMap f := by
        rw [← List.flatMap_append, ← List.range_add]; congr 2; omega
      rw [e, List.length_append, List.range_succ, List.flatMap_append, List.length_append] at hsz
      simp only [List.flatMap_cons, List.flatMap_nil, List.append_nil] at hsz
      rw [List.length_append]; omega
    refine turn_run (turns i _ hd) aok (hs'.mono (dk kp)) c₁ (Rep.mono rv (fun b hb' => ?_) fun _ _ _ _ e => e) hlen fun h₂ tk₂ k₂ c₂ => ?_
    · rcases hX b hb' with q | q
      · exact .inl q
      · obtain ⟨o, e, _⟩ := c'.xb b hb'
        exact .inr ⟨q, Heap.lt_size e⟩
    · refine ⟨rfl, ds.length - (i + 1), by omega, i + 1, h₂, tk₂, rfl, hlt, rfl, ?_, ?_, ?_, (hs'.mono (dk kp)).mono k₂.dict⟩
      · refine I.frame _ _ _ st'' fun b o hb1 hb2 hb3 e => k₂.hard b o (fun q => ?_) hb3 e
        rcases hX D c.xD with q' | q'
        · exact hb2 (q ▸ q')
        · exact absurd hb1 (Nat.not_lt.mpr (q ▸ q'))
      · rw [List.range_succ, List.flatMap_append]
        simpa only [List.flatMap_cons, List.flatMap_nil, List.append_nil, List.append_assoc] using c₂
      · exact ⟨fun b o hb1 hb2 e => k₂.hard b o hb1 hb2 (kp b o (.inr (.inl ⟨o, e⟩)) (hk'.hard b o hb1 hb2 e)), fun L d => k₂.dict L (dk kp L (hk'.dict L d))⟩
  · have hin : i = ds.length := by omega
    subst hin
    refine I.done A _ _ _ aok st' fun h' tk' kp => ?_
    exact hR h' tk' ⟨fun b o hb1 hb2 e => kp b o (.inr (.inl ⟨o, e⟩)) (hk'.hard b o hb1 hb2 e), fun L d => dk kp L (hk'.dict L d)⟩ (c'.drawn hb0 kp)

theorem comp_start {prog : Program} {w : World} {A : Around} {R : Result → Shared → Prop} {s : Shared} {elt : Expr} {gens : List Comprehension} {scope : Scope} {pos : Pos} {k : Nat} {tgt iter : Expr} {ifs : List Expr} {it acc : Value} {env : Env} (hg : gens[k]? = some ⟨tgt, iter, ifs, 0⟩)
    (h0 : codeAny (model prog w) A (.compLoop (.ListComp elt gens scope pos) k it acc env) R s)
    (h : wpAny (model prog w) A (pyIter it) (fun it' s' => codeAny (model prog w) A (.compLoop (.ListComp elt gens scope pos) k it' acc env) R s')
      (notedBy (model prog w) A env fun x s' => R (.error x) s') s) :
    codeAny (model prog w) A (.compStart (.ListComp elt gens scope pos) k it acc env) R s := by
  refine codeAny_of_tree ?_
  show wpAny _ _ ((compStart (.ListComp elt gens scope pos) k it acc env).onRaise (fun x => do noteFrame x env; standAt theWindowsPlace)) _ _ s
  refine wpAny_notedAt ?_
  unfold compStart
  have e : (clausesOf (.ListComp elt gens scope pos))[k]? = some ⟨tgt, iter, ifs, 0⟩ := hg
  rw [e]
  show wpAny _ _ (ask >>= _) _ _ s
  refine wpAny_bind (wpAny_askSetting (wpAny_ite ?_))
  split
  · first
      | exact wpAny_bind (wpAny_pure (wpAny_pure (And.intro rfl h0)))
      | exact wpAny_pure (And.intro rfl h0)
  · first
      | exact wpAny_bind (wpAny_rule (wpAny_bind (wpAny_standAt (wpAny_bind (wpAny_mono h (fun it' s' h' => wpAny_pure (And.intro rfl h')) fun _ _ x => x)))))
      | (refine wpAny_bind (wpAny_rule ?_); show wpAny _ _ (standAt iter.pos >>= _) _ _ s; exact wpAny_bind (wpAny_standAt (wpAny_bind (wpAny_mono h (fun it' s' h' => wpAny_pure (And.intro rfl h')) fun _ _ x => x))))
end
end Mine
namespace Mine
open PySem PyProof.Rows PySem.Calls PySem.Spec

section
variable {g : G} {n : Nat} {sc : Scope} {ws : List Str} {σ : Sig}

theorem emit_more {elt : Expr} {gens : List Comprehension} {scope : Scope} {pos : Pos} {k : Nat} {tgt iter : Expr} {ifs : List Expr} (hg : gens[k + 1]? = some ⟨tgt, iter, ifs, 0⟩) (ha : ∀ g', gens[k + 1 + 1]? = some g' → g'.is_async = 0)
    {ds : List PyData} {f : Nat → List PyData} (hit : EvIt g n sc σ tgt iter ds) (hf : ∀ env x, foldedSetIterable iter env x = pure x)
    (turns : ∀ i d, ds[i]? = some d → TurnOk g n sc ws σ tgt ifs (fun env D => emitCode (.ListComp elt gens scope pos) elt gens (k + 1) env D) d (f i)) :
    Emit g n sc ws σ (fun env D => emitCode (.ListComp elt gens scope pos) elt gens k env D) ((List.range ds.length).flatMap f) := by
  intro X hb A env D s E Q out₀ a b c hsz q
  unfold emitCode
  rw [hg]
  dsimp only
  refine wpAny_bind (wpAny_mono (hit X A env s E (fun it s₂ => wpAny (model g.prog g.w) A (runOwn (.compStart (.ListComp elt gens scope pos) (k + 1) it (.ref D) env) env) (fun _ s₃ => Q () s₃) E s₂) (c.okk a b) c.fw.ok fun it s' St ke I st => ?_)
    (fun x s₁ h₁ => wpAny_bind (wpAny_standAt (wpAny_bind (wpAny_of_eq (hf env x) (wpAny_bind (wpAny_holding (wpAny_mono h₁ (fun it s₂ h₂ => wpAny_bind (wpAny_mono h₂ (fun _ s₃ h₃ => wpAny_pure h₃) fun _ _ e => e)) fun _ _ e => e))))))) fun _ _ e => e)
  obtain ⟨h', tk', rfl, kx'⟩ := ke
  have kx : Ext g.H s.heap h' := kx'
  have loop : codeAny (model g.prog g.w) A (.compLoop (.ListComp elt gens scope pos) (k + 1) it (.ref D) env) (fun r s' => match r with | .ok f => Q () s' | .error e => cameBackBy (model g.prog g.w) A env E e s') { s with heap := h', toks := tk' } :=
    comp_loop hg ha turns a (b.mono fun _ d => kx.dictAt d) c.fw.ext I (fun b hb => .inl hb) st (c.ext kx) (Hk.of_ext kx) hsz fun h₂ tk₂ k₂ c₂ => q h₂ tk₂ k₂ c₂
  refine wpAny_runOwn ?_
  show codeAny _ A _ _ _
  exact comp_start hg loop (I.self 0 A _ _ _ st loop)

theorem relab_local {scope sc : Scope} {x : Str} (h : (relabelS scope sc).names.lookup x = some .local) : scope.names.lookup x = some .local := by
  rw [relabelS_lookup] at h
  obtain ⟨k, hk, e⟩ := Option.map_eq_some_iff.mp h
  split at e
  · cases e
  · rw [hk, e]
theorem relab_cf {scope sc : Scope} {x : Str} (h : (relabelS scope sc).names.lookup x = some .cell ∨ (relabelS scope sc).names.lookup x = some .free) : scope.names.lookup x = some .cell ∨ scope.names.lookup x = some .free := by
  rw [relabelS_lookup] at h
  rcases h with h | h <;> obtain ⟨k, hk, e⟩ := Option.map_eq_some_iff.mp h <;> split at e
  · rename_i hc
    right; rw [hk]
    rw [Bool.and_eq_true, Bool.and_eq_true] at hc
    have : k = .free := by simpa using hc.1.1
    rw [this]
  · left; rw [hk, e]
  · cases e
  · right; rw [hk, e]

/-- what a comprehension leaves behind -/
structure CompRes (H : Heap) (X : Addr → Prop) (s : Shared) (D C : Addr) (out : List PyData) (s' : Shared) : Prop where
  keeps : Kp H s s'
  cn : ¬ Old s.heap C
  dn : ¬ Old s.heap D
  ns : ∃ m, s'.heap.Ns C m
  acc : ∃ ys, s'.heap.PlainList D ys ∧ RepAll (fun a => X a ∨ a = D) s'.heap ys.toList out

theorem comp_run {elt tgt iter : Expr} {ifs : List Expr} {rest : List Comprehension} {scope : Scope} {pos pos' : Pos} {use : Option (Value → Sem Unit)}
    (hs : scopeOk scope = true) (hfree : freeOk scope sc σ = true) (hap : apartOk scope σ = true) (hws : ∀ x ∈ ws, scope.names.lookup x = some .local ∨ scope.names.lookup x = some .cell)
    (ha : ∀ g', rest[0]? = some g' → g'.is_async = 0) {ds : List PyData} {f : Nat → List PyData} (hit : EvIt g n sc σ tgt iter ds) (hf : ∀ env x, foldedSetIterable iter env x = pure x)
    (turns : ∀ i d, ds[i]? = some d → TurnOk g n (relabelS scope sc) ws σ tgt ifs (fun env D => emitCode (.ListComp elt (⟨tgt, iter, ifs, 0⟩ :: rest) scope pos) elt (⟨tgt, iter, ifs, 0⟩ :: rest) 0 env D) d (f i))
    (hsz : ((List.range ds.length).flatMap f).length ≤ sizeLine)
    {X : Addr → Prop} {A : Around} {env : Env} {s : Shared} {E : Value → Shared → Prop} {Q : Value → Shared → Prop} (o : Ok g n X A s) (e : EnvOK X sc env s.heap σ)
    (q : ∀ D C s', CompRes g.H X s D C ((List.range ds.length).flatMap f) s' → compPost (model g.prog g.w) A E use Q (.ref D) C (.ok .next) s') :
    wpAny (model g.prog g.w) A (comprehension (.ListComp elt (⟨tgt, iter, ifs, 0⟩ :: rest) scope pos) scope env pos' (newList []) false (eval iter env) use) Q E s := by
  unfold scopeOk at hs
  rw [Bool.and_eq_true] at hs
  obtain ⟨hkind, hnames⟩ := hs
  have hkind' : scope.kind = .function := by simpa using hkind
  have hnames' : ∀ p ∈ scope.names, scope.names.lookup p.1 = some p.2 := fun p hp => by simpa using List.all_eq_true.mp hnames p hp
  have hfree' : ∀ p ∈ scope.names, p.2 = .free → (∃ d, σ.lookup p.1 = some d) ∧ (sc.names.lookup p.1 = some .cell ∨ sc.names.lookup p.1 = some .free) := by
    intro p hp hk
    have := List.all_eq_true.mp hfree p hp
    rw [hk] at this
    simp only [bne_self_eq_false, Bool.false_or, Bool.and_eq_true, Bool.or_eq_true, beq_iff_eq] at this
    exact ⟨Option.isSome_iff_exists.mp this.1, this.2⟩
  have hap' : ∀ x d, σ.lookup x = some d → scope.names.lookup x ≠ some .local ∧ scope.names.lookup x ≠ some .cell := by
    intro x d hx
    have := List.all_eq_true.mp hap x (List.mem_map.mpr ⟨_, PySem.mem_of_lookup hx, rfl⟩)
    simpa using this
  have hclos : closureFor scope env = pure (closL env scope.names []) := closureFor_eq fun p hp hk => by
    obtain ⟨⟨d, hd⟩, hk2⟩ := hfree' p hp hk
    obtain ⟨c, v, hc, _⟩ := e.cell p.1 d hd hk2
    rw [hc]; rfl
  refine wpAny_comprehension_free (use := use) rfl (hf env) hclos hkind' (fun x hx hl => by rw [hnames' x hx, hl]) ?_
  refine hit X A env s E _ o e fun it s₂ St k₂ I st => ?_
  obtain ⟨h₂, tk₂, rfl, kx'⟩ := k₂
  have kx : Ext g.H s.heap h₂ := kx'
  refine wpAny_newObj_type ?_ (by show (0 : Nat) ≤ sizeLine; exact Nat.zero_le _)
  refine newEnv_comp ?_
  rw [relabel_eq e.scope]
  dsimp only at I st ⊢
  generalize hH3 : h₂.push { cls := .type "list", dict := none, data := .seq ([] : List Value).toArray } = H3
  have hC3 : H3.objs.size = h₂.objs.size + 1 := by rw [← hH3, Heap.size_push]
  have e23 : XExt h₂ H3 := hH3 ▸ XExt.push _ _
  generalize hH4 : H3.push { cls := .type "dict", data := .dict #[] } = H4
  have hC4 : H4.objs.size = H3.objs.size + 1 := by rw [← hH4, Heap.size_push]
  have e34 : XExt H3 H4 := hH4 ▸ XExt.push _ _
  have e45 : XExt H4 (pushCells H4 scope.names) := pushCells_keeps _ _
  have e25 : XExt h₂ (pushCells H4 scope.names) := fun b o e => e45 b o (e34 b o (e23 b o e))
  have hns : (pushCells H4 scope.names).Ns H3.objs.size fun _ => none := (hH4 ▸ Heap.Ns.new H3 (.type "dict")).keeps e45
  have ok := cellsFrom_ok scope.names H4 H4.objs.size [] ⟨fun _ _ hm => (nomatch hm), List.Pairwise.nil⟩ (Nat.le_refl _)
  rw [hC4] at ok
  have ext : Ext g.H s.heap (pushCells H4 scope.names) := kx.trans (Ext.of e25)
  have nold : ∀ a, h₂.objs.size ≤ a → ¬ Old s.heap a := fun a ha ⟨oo, eo⟩ => absurd (kx.lt eo) (Nat.not_lt.mpr ha)
  have hplain : (pushCells H4 scope.names).PlainList h₂.objs.size #[] := ⟨0, e45 _ _ (e34 _ _ (hH3 ▸ Heap.get?_push_size _ rfl))⟩
  have hkX : ∀ {v d}, Rep X s.heap v d → Rep (fun a => X a ∨ a = h₂.objs.size) (pushCells H4 scope.names) v d := fun r =>
    (RepW.low (hi := h₂.objs.size) (r.ext kx) (Nat.le_refl _)).mono (fun a ha => ha.elim .inl fun q => .inr (Nat.le_of_eq q.symm)) fun b oo _ _ eo => e25 b oo eo
  have lk : ∀ x, (relabelS scope sc).names.lookup x = (scope.names.lookup x).map fun k => if (k == .free && sc.kind == .function && sc.names.lookup x == some .cell) then .cell else k := relabelS_lookup scope sc
  have lkfree : ∀ x d, σ.lookup x = some d → ((relabelS scope sc).names.lookup x = some .cell ∨ (relabelS scope sc).names.lookup x = some .free) → scope.names.lookup x = some .free := by
    intro x d hx hh
    exact (relab_cf hh).resolve_left (hap' x d hx).2
  have cellsLk : ∀ x, scope.names.lookup x = some .free → ∀ c, env.cells.lookup x = some c → (cellsFrom (H3.objs.size + 1) scope.names [] ++ closL env scope.names []).lookup x = some c := by
    intro x hx c hc
    have hnone : (cellsFrom (H3.objs.size + 1) scope.names []).lookup x = none := by
      cases hl : (cellsFrom (H3.objs.size + 1) scope.names []).lookup x with
      | none => rfl
      | some c' =>
        have := hnames' _ (cellsFrom_mem _ _ _ _ (PySem.mem_of_lookup hl))
        rw [hx] at this; cases this
    rw [List.lookup_append, hnone, Option.none_or]
    exact closL_lookup (PySem.mem_of_lookup hx) hc
  have cs : CS g.H (fun a => X a ∨ a = h₂.objs.size) (relabelS scope sc) ws s.heap
      { scope := relabelS scope sc, locals := H3.objs.size, globals := env.globals, cells := cellsFrom (H3.objs.size + 1) scope.names [] ++ closL env scope.names [], qual := env.qual, func := none, code := env.code, frame := env.frame, builtins := env.builtins }
      h₂.objs.size σ [] (pushCells H4 scope.names) := by
    refine ⟨⟨ext, o.base, ⟨rfl, hkind', e.globals, e.builtins, ⟨_, hns, ?_⟩, ?_, ?_⟩, nold _ (by rw [hC3]; exact Nat.le_succ _), ?_⟩, nold _ (Nat.le_refl _), .inr rfl, ⟨#[], hplain, .nil⟩, ?_⟩
    · intro x d hx hl
      exact absurd (relab_local hl) (hap' x d hx).1
    · intro x d hx hh
      have hfr := lkfree x d hx hh
      obtain ⟨_, hk2⟩ := hfree' (x, .free) (PySem.mem_of_lookup hfr) rfl
      obtain ⟨c, v, hc, hv, r⟩ := e.cell x d hx hk2
      exact ⟨c, v, cellsLk x hfr c hc, ext.cell hv, hkX r⟩
    · intro x y c hx hy
      have own : ∀ {z c'}, (z, c') ∈ cellsFrom (H3.objs.size + 1) scope.names [] → H3.objs.size + 1 ≤ c' := fun hm => (ok.empty _ _ hm).2
      have clo : ∀ {z c'}, (z, c') ∈ closL env scope.names [] → env.cells.lookup z = some c' ∧ c' < H3.objs.size := by
        intro z c' hm
        rcases closL_mem _ _ _ _ hm with q | ⟨q1, q2⟩
        · cases q
        · obtain ⟨⟨d, hd⟩, hk2⟩ := hfree' _ q1 rfl
          obtain ⟨c'', v, hc, hv, _⟩ := e.cell z d hd hk2
          rw [hc] at q2; simp at q2; subst q2
          have h1 : c' < s.heap.objs.size := hv.lt
          obtain ⟨oc, eoc, _⟩ := hv
          exact ⟨hc, size_ext (kx.trans (Ext.of e23)) eoc⟩
      rcases List.mem_append.mp (PySem.mem_of_lookup hx) with hx' | hx' <;> rcases List.mem_append.mp (PySem.mem_of_lookup hy) with hy' | hy'
      · exact name_of_addr ok.apart hx' hy'
      · exact absurd (clo hy').2 (Nat.not_lt.mpr (Nat.le_of_succ_le (own hx')))
      · exact absurd (clo hx').2 (Nat.not_lt.mpr (Nat.le_of_succ_le (own hy')))
      · exact e.apart _ _ _ (clo hx').1 (clo hy').1
    · intro x hx
      rw [lk]
      rcases hws x hx with h1 | h1
      · left; rw [h1]; rfl
      · right
        refine ⟨by rw [h1]; rfl, ?_⟩
        obtain ⟨c, hc⟩ := cellsFrom_has scope.names (H3.objs.size + 1) x (PySem.mem_of_lookup h1)
        obtain ⟨c', hc'⟩ := lookup_of_mem hc
        have := ok.empty _ _ (PySem.mem_of_lookup hc')
        refine ⟨c', none, by rw [List.lookup_append, hc', Option.some_or], this.1, nold _ ?_⟩
        have h2 := this.2; rw [hC3] at h2; exact Nat.le_of_succ_le (Nat.le_of_succ_le h2)
    · rintro a (hx | rfl)
      · obtain ⟨oo, eo, ho⟩ := o.xb a hx; exact ⟨oo, ext.seq ho eo, ho⟩
      · obtain ⟨m, hm⟩ := hplain; exact ⟨_, hm, _, _, rfl⟩
  have st' : St 0 (pushCells H4 scope.names) := I.frame _ _ _ st fun b oo _ _ _ eo => e25 b oo eo
  have loop : codeAny (model g.prog g.w) A (.compLoop (.ListComp elt (⟨tgt, iter, ifs, 0⟩ :: rest) scope pos) 0 it (.ref h₂.objs.size)
      { scope := relabelS scope sc, locals := H3.objs.size, globals := env.globals, cells := cellsFrom (H3.objs.size + 1) scope.names [] ++ closL env scope.names [], qual := env.qual, func := none, code := env.code, frame := env.frame, builtins := env.builtins })
      (compPost (model g.prog g.w) A E use Q (.ref h₂.objs.size) H3.objs.size) { s with heap := pushCells H4 scope.names, toks := tk₂ } :=
    comp_loop (k := 0) rfl (fun g' hg' => ha g' hg') turns o.a (o.stk.mono fun _ d => ext.dictAt d) (Ext.refl _) I (fun b hb => hb.elim .inl fun q => .inr (Nat.le_of_eq q.symm)) st' cs (Hk.of_ext ext) (by simpa using hsz) fun h' tk' k' c' => by
      refine q _ _ _ ⟨keeps_both c'.fw.ext, c'.fw.loc, c'.dn, ?_, ?_⟩
      · obtain ⟨m, hm, _⟩ := c'.fw.ok.loc; exact ⟨m, hm⟩
      · simpa using c'.acc
  exact comp_start (k := 0) rfl loop (I.self 0 A _ _ _ st' loop)
end
end Mine
namespace Mine
open PySem PyProof.Rows PySem.Calls PySem.Spec

theorem sameBut_rep {X : Addr → Prop} {C : Addr} {h h' : Heap} {m : Str → Option Value} (hs : Heap.SameBut C h h') (hn : h.Ns C m) {v : Value} {d : PyData} (r : Rep X h v d) : Rep X h' v d := by
  obtain ⟨oL, es, ep, hoL, hdL, _⟩ := hn
  refine r.mono (fun _ x => x) fun b o _ ho e => hs.extBut b o ?_ e
  rintro rfl; rw [hoL] at e; cases e; obtain ⟨xs, n, hd⟩ := ho; rw [hdL] at hd; cases hd

section
variable {g : G} {n : Nat} {sc : Scope} {ws : List Str} {σ : Sig}

theorem CompRes.rep {X : Addr → Prop} {s s' : Shared} {D C : Addr} {out : List PyData} {A : Around} (c : CompRes g.H X s D C out s') (o : Ok g n X A s) : Rep X s'.heap (.ref D) (.list out) := by
  obtain ⟨ys, hp, hr⟩ := c.acc
  exact Rep.of_list (fun x => by obtain ⟨oo, e, _⟩ := o.xb _ x; exact c.dn ⟨oo, e⟩) hp.isList (hr.mono (fun a x => .inl x) fun b o _ _ e => e)

/-- a comprehension, with or without the store of its list in the midst -/
def compEval (e : Expr) (env : Env) (use : Option (Value → Sem Unit)) : Sem Value := match e with
  | .ListComp elt gens scope pos => comprehension (.ListComp elt gens scope pos) scope env (firstIterPos gens pos) (newList []) (firstAsync gens) (firstIter gens env) use
  | _ => unsupported "no comprehension"
def Comp (g : G) (n : Nat) (sc : Scope) (σ : Sig) (e : Expr) (out : List PyData) : Prop :=
  ∀ (X : Addr → Prop) (A : Around) (env : Env) (s : Shared) (E : Value → Shared → Prop) (Q : Value → Shared → Prop) (use : Option (Value → Sem Unit)), Ok g n X A s → EnvOK X sc env s.heap σ →
    (∀ D C s', CompRes g.H X s D C out s' → compPost (model g.prog g.w) A E use Q (.ref D) C (.ok .next) s') → wpAny (model g.prog g.w) A (compEval e env use) Q E s

theorem Comp.cast {e : Expr} {d d' : List PyData} (h : Comp g n sc σ e d) (e' : d = d') : Comp g n sc σ e d' := e' ▸ h
theorem comp_comp {elt tgt iter : Expr} {ifs : List Expr} {rest : List Comprehension} {scope : Scope} {pos : Pos}
    (hs : scopeOk scope = true) (hfree : freeOk scope sc σ = true) (hap : apartOk scope σ = true) (hws : ∀ x ∈ ws, scope.names.lookup x = some .local ∨ scope.names.lookup x = some .cell)
    (ha : ∀ g', rest[0]? = some g' → g'.is_async = 0) {ds : List PyData} {f : Nat → List PyData} (hit : EvIt g n sc σ tgt iter ds) (hf : ∀ env x, foldedSetIterable iter env x = pure x)
    (turns : ∀ i d, ds[i]? = some d → TurnOk g n (relabelS scope sc) ws σ tgt ifs (fun env D => emitCode (.ListComp elt (⟨tgt, iter, ifs, 0⟩ :: rest) scope pos) elt (⟨tgt, iter, ifs, 0⟩ :: rest) 0 env D) d (f i))
    (hsz : ((List.range ds.length).flatMap f).length ≤ sizeLine) : Comp g n sc σ (.ListComp elt (⟨tgt, iter, ifs, 0⟩ :: rest) scope pos) ((List.range ds.length).flatMap f) := by
  intro X A env s E Q use o e q
  exact comp_run hs hfree hap hws ha hit hf turns hsz o e q

theorem Comp.ev {elt : Expr} {gens : List Comprehension} {scope : Scope} {pos : Pos} {out : List PyData} (h : Comp g n sc σ (.ListComp elt gens scope pos) out) : Ev g n sc σ (.ListComp elt gens scope pos) (.list out) := by
  intro X A env s E Q o e q
  rw [eval_ListComp]
  refine h X A env s E Q none o e fun D C s' c => ?_
  obtain ⟨m, hm⟩ := c.ns
  refine ⟨m, hm, fun h' hs' => q _ _ ?_ (sameBut_rep hs' hm (c.rep o))⟩
  obtain ⟨h₁, tk₁, rfl, ke'⟩ := c.keeps
  have ke : Ext g.H s.heap h₁ := ke'
  exact keeps_both (ke.turn o.base hs' c.cn)

def ownOk (scope : Scope) (ws : List Str) : Bool := ws.all fun x => scope.names.lookup x == some .local || scope.names.lookup x == some .cell
theorem ownOk_spec {scope : Scope} (h : ownOk scope ws = true) : ∀ x ∈ ws, scope.names.lookup x = some .local ∨ scope.names.lookup x = some .cell := fun x hx => by
  have := List.all_eq_true.mp h x hx
  simpa using this
theorem keep_names {scope : Scope} {bs : Sig} (h : ownOk scope ws = true) (hap : apartOk scope σ = true) (hb : ∀ p ∈ bs, p.1 ∈ ws) : ∀ x d, σ.lookup x = some d → (bs ++ σ).lookup x = some d := by
  intro x d hx
  have h1 := List.all_eq_true.mp hap x (List.mem_map.mpr ⟨_, PySem.mem_of_lookup hx, rfl⟩)
  have hnone : bs.lookup x = none := by
    cases hl : bs.lookup x with
    | none => rfl
    | some d' =>
      have h2 := ownOk_spec h x (hb _ (PySem.mem_of_lookup hl))
      simp at h1
      rcases h2 with h2 | h2
      · exact absurd h2 h1.1
      · exact absurd h2 h1.2
  rw [List.lookup_append, hnone, Option.none_or, hx]

theorem flatMap_range {α β : Type} (xs : List α) (h : α → List β) (f : Nat → List β) (hf : ∀ i x, xs[i]? = some x → f i = h x) : (List.range xs.length).flatMap f = xs.flatMap h := by
  induction xs generalizing f with
  | nil => rfl
  | cons x xs ih =>
    rw [List.length_cons, List.range_succ_eq_map, List.flatMap_cons, List.flatMap_cons, List.flatMap_map, hf 0 x rfl]
    congr 1
    exact ih (fun i => f (i + 1)) fun i y hy => hf (i + 1) y (by simpa using hy)
theorem flatMap_filter {α β : Type} (xs : List α) (p : α → Bool) (f : α → β) : xs.flatMap (fun x => if p x then [f x] else []) = (xs.filter p).map f := by
  induction xs with
  | nil => rfl
  | cons x xs ih => rw [List.flatMap_cons, ih, List.filter_cons]; split <;> simp_all

theorem emitCode_last {e elt : Expr} {gens : List Comprehension} {k : Nat} (h : gens[k + 1]? = none) : (fun env D => emitCode e elt gens k env D) = fun env D => (do let _ ← call (.builtin "list.append") [.ref D, ← eval elt env]) := by
  funext env D; unfold emitCode; rw [h]

/-- one clause, any target -/
theorem comp1 {α β : Type} {enc : α → PyData} {enc' : β → PyData} {xs : List α} {p : α → Bool} {fn : α → β} (bd : α → Sig) {elt tgt iter : Expr} {ifs : List Expr} {scope : Scope} {pos : Pos}
    (hs : scopeOk scope = true) (hfree : freeOk scope sc σ = true) (hap : apartOk scope σ = true) (hws : ownOk scope ws = true)
    (hit : EvIt g n sc σ tgt iter (xs.map enc)) (hasg : ∀ x, Asg ws tgt (enc x) (bd x)) (hkeys : ∀ x, ∀ q ∈ bd x, q.1 ∈ ws)
    (htest : ∀ x, x ∈ xs → Tests g n (relabelS scope sc) (bd x ++ σ) ifs (p x))
    (helt : ∀ x, x ∈ xs → p x = true → Ev g n (relabelS scope sc) (bd x ++ σ) elt (enc' (fn x)))
    (hsz : xs.length ≤ sizeLine) (hf : ∀ env x, foldedSetIterable iter env x = pure x := by intro _ _; rfl) :
    Comp g n sc σ (.ListComp elt [⟨tgt, iter, ifs, 0⟩] scope pos) (((xs.filter p).map fn).map enc') := by
  have e1 : (List.range (xs.map enc).length).flatMap (fun i => (match xs[i]? with | some x => if p x then [enc' (fn x)] else [] | none => [])) = xs.flatMap fun x => if p x then [enc' (fn x)] else [] := by
    rw [List.length_map]; exact flatMap_range xs _ _ fun i x hx => by rw [hx]
  have e2 : (xs.flatMap fun x => if p x then [enc' (fn x)] else []) = ((xs.filter p).map fn).map enc' := by rw [flatMap_filter, List.map_map]; rfl
  refine Comp.cast (comp_comp (ws := ws) (f := fun i => (match xs[i]? with | some x => if p x then [enc' (fn x)] else [] | none => [])) hs hfree hap (ownOk_spec hws) (by simp) hit hf ?_ ?_) (by rw [e1, e2])
  · intro i d hd
    rw [List.getElem?_map, Option.map_eq_some_iff] at hd
    obtain ⟨x, hx, rfl⟩ := hd
    have hm := List.mem_of_getElem? hx
    rw [hx]
    dsimp only
    refine ⟨bd x, p x, hasg x, keep_names hws hap (hkeys x), htest x hm, fun hp => ?_, fun hp => by rw [hp]; rfl⟩
    rw [emitCode_last (by rfl), hp]
    exact emit_elt (helt x hm hp)
  · rw [e1, e2, List.length_map, List.length_map]
    exact Nat.le_trans (List.length_filter_le _ _) hsz

/-- two clauses, any targets; the tests behind the second -/
theorem comp2 {α β γ : Type} {enc : α → PyData} {enc2 : γ → PyData} {enc' : β → PyData} {xs : List α} {ys : α → List γ} {p : α → γ → Bool} {fn : α → γ → β} (bd : α → Sig) (bd2 : γ → Sig) {elt tgt iter tgt2 iter2 : Expr} {ifs2 : List Expr} {scope : Scope} {pos : Pos}
    (hs : scopeOk scope = true) (hfree : freeOk scope sc σ = true) (hap : apartOk scope σ = true) (hws : ownOk scope ws = true)
    (hit : EvIt g n sc σ tgt iter (xs.map enc)) (hasg : ∀ x, Asg ws tgt (enc x) (bd x)) (hkeys : ∀ x, ∀ q ∈ bd x, q.1 ∈ ws)
    (hit2 : ∀ x, x ∈ xs → EvIt g n (relabelS scope sc) (bd x ++ σ) tgt2 iter2 ((ys x).map enc2)) (hasg2 : ∀ y, Asg ws tgt2 (enc2 y) (bd2 y)) (hkeys2 : ∀ x y d, (bd x ++ σ).lookup y = some d → ∀ z, (bd2 z ++ (bd x ++ σ)).lookup y = some d)
    (htest : ∀ x, x ∈ xs → ∀ y, y ∈ ys x → Tests g n (relabelS scope sc) (bd2 y ++ (bd x ++ σ)) ifs2 (p x y))
    (helt : ∀ x, x ∈ xs → ∀ y, y ∈ ys x → p x y = true → Ev g n (relabelS scope sc) (bd2 y ++ (bd x ++ σ)) elt (enc' (fn x y)))
    (hsz : (xs.flatMap fun x => ((ys x).filter (p x)).map (fn x)).length ≤ sizeLine) (hf : ∀ env x, foldedSetIterable iter env x = pure x := by intro _ _; rfl) (hf2 : ∀ env x, foldedSetIterable iter2 env x = pure x := by intro _ _; rfl) :
    Comp g n sc σ (.ListComp elt [⟨tgt, iter, [], 0⟩, ⟨tgt2, iter2, ifs2, 0⟩] scope pos) ((xs.flatMap fun x => ((ys x).filter (p x)).map (fn x)).map enc') := by
  have inner : ∀ x : α, (List.range ((ys x).map enc2).length).flatMap (fun i => (match (ys x)[i]? with | some y => if p x y then [enc' (fn x y)] else [] | none => [])) = (((ys x).filter (p x)).map (fn x)).map enc' := by
    intro x
    rw [List.length_map, flatMap_range (ys x) (fun y => if p x y then [enc' (fn x y)] else []) _ fun i y hy => by rw [hy]]
    rw [flatMap_filter, List.map_map]; rfl
  have e1 : (List.range (xs.map enc).length).flatMap (fun i => (match xs[i]? with | some x => (((ys x).filter (p x)).map (fn x)).map enc' | none => [])) = (xs.flatMap fun x => ((ys x).filter (p x)).map (fn x)).map enc' := by
    rw [List.length_map, flatMap_range xs (fun x => (((ys x).filter (p x)).map (fn x)).map enc') _ fun i x hx => by rw [hx]]
    rw [List.map_flatMap]
  refine Comp.cast (comp_comp (ws := ws) (f := fun i => (match xs[i]? with | some x => (((ys x).filter (p x)).map (fn x)).map enc' | none => [])) hs hfree hap (ownOk_spec hws) (by simp) hit hf ?_ ?_) (by rw [e1])
  · intro i d hd
    rw [List.getElem?_map, Option.map_eq_some_iff] at hd
    obtain ⟨x, hx, rfl⟩ := hd
    have hm := List.mem_of_getElem? hx
    rw [hx]
    dsimp only
    refine ⟨bd x, true, hasg x, keep_names hws hap (hkeys x), tests_nil, fun _ => ?_, fun hp => by cases hp⟩
    (try dsimp only)
    rw [← inner x]
    refine emit_more (k := 0) rfl (by simp) (hit2 x hm) hf2 ?_
    intro j d hd
    rw [List.getElem?_map, Option.map_eq_some_iff] at hd
    obtain ⟨y, hy, rfl⟩ := hd
    have hm2 := List.mem_of_getElem? hy
    rw [hy]
    dsimp only
    refine ⟨bd2 y, p x y, hasg2 y, fun z d hz => hkeys2 x z d hz y, htest x hm y hm2, fun hp => ?_, fun hp => by rw [hp]; rfl⟩
    rw [emitCode_last (by rfl), hp]
    exact emit_elt (helt x hm y hm2 hp)
  · rw [e1, List.length_map]; exact hsz
end
end Mine
namespace Mine
open PySem PyProof.Rows PySem.Calls PySem.Spec

section
variable {g : G} {n : Nat} {sc : Scope} {σ : Sig}

theorem ev_item {α : Type} {enc : α → PyData} {xs : List α} {i : Int} {x : α} {value slice : Expr} {pos : Pos} (h1 : Ev g n sc σ value (eL enc xs)) (h2 : Ev g n sc σ slice (.int i)) (h0 : 0 ≤ i) (hx : xs[i.toNat]? = some x) (hfit : i < 2 ^ 63)
    (hsl : ∀ o i, subscripted slice false o i = operate [o, i] (getItem o i) := by intro _ _; rfl) : Ev g n sc σ (.Subscript value slice pos) (enc x) := by
  intro X A env s E Q o e q
  refine Subscript_ (h1 X A env s E _ o e fun v s₁ k₁ r₁ => h2 X A env s₁ E _ (o.keeps k₁) (e.ext (keeps_ext k₁)) fun u s₂ k₂ r₂ => ?_)
  have k := keeps_trans k₁ k₂
  obtain ⟨a, vs, rfl, hxa, hl, ra⟩ := Rep.list_inv (r₁.ext (keeps_ext k₂))
  obtain ⟨t, rfl⟩ := r₂.int_inv
  obtain ⟨v, hv, rv⟩ := ra.get (i := i.toNat) (d := enc x) (by rw [List.getElem?_map, hx]; rfl)
  exact tail_any hl.typeIs slot_list_getitem.lookup (wpAny_getItem_list hl h0 hfit (by simpa using hv) (q _ _ k rv)) (hsl _ _)

theorem ev_item_neg {α : Type} {enc : α → PyData} {xs : List α} {i : Int} {x : α} {value slice : Expr} {pos : Pos} (h1 : Ev g n sc σ value (eL enc xs)) (h2 : Ev g n sc σ slice (.int i)) (h0 : i < 0) (hn : -(xs.length : Int) ≤ i) (hx : xs[(i + xs.length).toNat]? = some x) (hfit : -(2 ^ 63) ≤ i)
    (hsl : ∀ o i, subscripted slice false o i = operate [o, i] (getItem o i) := by intro _ _; rfl) : Ev g n sc σ (.Subscript value slice pos) (enc x) := by
  intro X A env s E Q o e q
  refine Subscript_ (h1 X A env s E _ o e fun v s₁ k₁ r₁ => h2 X A env s₁ E _ (o.keeps k₁) (e.ext (keeps_ext k₁)) fun u s₂ k₂ r₂ => ?_)
  have k := keeps_trans k₁ k₂
  obtain ⟨a, vs, rfl, hxa, hl, ra⟩ := Rep.list_inv (r₁.ext (keeps_ext k₂))
  obtain ⟨t, rfl⟩ := r₂.int_inv
  obtain ⟨v, hv, rv⟩ := ra.get (i := (i + xs.length).toNat) (d := enc x) (by rw [List.getElem?_map, hx]; rfl)
  have hlen := ra.length
  simp only [Array.length_toList, List.length_map] at hlen
  exact tail_any hl.typeIs slot_list_getitem.lookup (wpAny_getItem_list_neg hl h0 (by rw [hlen]; exact hn) hfit (by rw [hlen]; simpa using hv) (q _ _ k rv)) (hsl _ _)

theorem ev_tupitem {ds : List PyData} {i : Int} {d : PyData} {value slice : Expr} {pos : Pos} (h1 : Ev g n sc σ value (.tuple ds)) (h2 : Ev g n sc σ slice (.int i)) (h0 : 0 ≤ i) (hx : ds[i.toNat]? = some d) (hfit : i < 2 ^ 63)
    (hsl : ∀ o i, subscripted slice false o i = operate [o, i] (getItem o i) := by intro _ _; rfl) : Ev g n sc σ (.Subscript value slice pos) d := by
  intro X A env s E Q o e q
  refine Subscript_ (h1 X A env s E _ o e fun v s₁ k₁ r₁ => h2 X A env s₁ E _ (o.keeps k₁) (e.ext (keeps_ext k₁)) fun u s₂ k₂ r₂ => ?_)
  have k := keeps_trans k₁ k₂
  obtain ⟨a, vs, rfl, hxa, hl, ra⟩ := Rep.tuple_inv (r₁.ext (keeps_ext k₂))
  obtain ⟨t, rfl⟩ := r₂.int_inv
  obtain ⟨v, hv, rv⟩ := ra.get hx
  have ht : IsTup s₂.heap a vs.toList.toArray := by rw [Array.toArray_toList]; exact hl
  have hlt : i.toNat < vs.toList.length := by rw [ra.length]; exact (List.getElem?_eq_some_iff.mp hx).1
  exact item_tupleT ht (by omega) hfit (seqIndex_of h0 (by omega)) hv (q _ _ k rv) (hsl _ _)

/-- a bound of a slice -/
def EvPart (g : G) (n : Nat) (sc : Scope) (σ : Sig) (x : Option Expr) (p : Option Int) : Prop :=
  ∀ (X : Addr → Prop) (A : Around) (env : Env) (s : Shared) (E : Value → Shared → Prop) (Q : Value → Shared → Prop), Ok g n X A s → EnvOK X sc env s.heap σ →
    (∀ v s', Kp g.H s s' → IsPart v p → Q v s') → wpAny (model g.prog g.w) A (evalPart x env) Q E s
theorem part_none : EvPart g n sc σ none none := fun X A env s E Q o e q => wpAny_pure (q _ _ (keeps_refl s) .none)
theorem part_some {e : Expr} {i : Int} (h : Ev g n sc σ e (.int i)) : EvPart g n sc σ (some e) (some i) := fun X A env s E Q o ev q =>
  h X A env s E Q o ev fun v s' k r => by obtain ⟨t, rfl⟩ := r.int_inv; exact q _ _ k (.int i t)

def pySlice {α : Type} (xs : List α) (lo hi : Option Int) : List α := (xs.drop (lo.elim 0 (clipAt xs.length))).take (hi.elim xs.length (clipAt xs.length) - lo.elim 0 (clipAt xs.length))
theorem pySlice_map {α β : Type} (f : α → β) (xs : List α) (lo hi : Option Int) : (pySlice xs lo hi).map f = pySlice (xs.map f) lo hi := by
  unfold pySlice; rw [List.map_take, List.map_drop, List.length_map]
theorem RepAll.drop {X : Addr → Prop} {h : Heap} : ∀ {vs : List Value} {ds : List PyData} (k : Nat), RepAll X h vs ds → RepAll X h (vs.drop k) (ds.drop k)
  | vs, ds, 0, r => by simpa using r
  | [], _, k + 1, r => by cases r; exact .nil
  | v :: vs, _, k + 1, r => by cases r with | cons a r => simpa using RepAll.drop k r
theorem RepAll.take {X : Addr → Prop} {h : Heap} : ∀ {vs : List Value} {ds : List PyData} (k : Nat), RepAll X h vs ds → RepAll X h (vs.take k) (ds.take k)
  | vs, ds, 0, r => by rw [List.take_zero, List.take_zero]; exact RepW.nil
  | [], _, k + 1, r => by cases r; exact .nil
  | v :: vs, _, k + 1, r => by cases r with | cons a r => rw [List.take_succ_cons, List.take_succ_cons]; exact .cons a (RepAll.take k r)
theorem pySlice_len {α : Type} (xs : List α) (lo hi : Option Int) : (pySlice xs lo hi).length ≤ xs.length := by
  unfold pySlice; rw [List.length_take, List.length_drop]; omega

/-- a fresh list: nothing of what stood is in it at its head -/
def EvF (g : G) (n : Nat) (sc : Scope) (σ : Sig) (e : Expr) (ds : List PyData) : Prop :=
  ∀ (X : Addr → Prop) (A : Around) (env : Env) (s : Shared) (E : Value → Shared → Prop) (Q : Value → Shared → Prop), Ok g n X A s → EnvOK X sc env s.heap σ →
    (∀ a vs s', Kp g.H s s' → ¬ Old s.heap a → s'.heap.PlainList a vs → RepAll (fun b => X b ∨ b = a) s'.heap vs.toList ds → Q (.ref a) s') → wpAny (model g.prog g.w) A (eval e env) Q E s
theorem EvF.ev {e : Expr} {ds : List PyData} (h : EvF g n sc σ e ds) : Ev g n sc σ e (.list ds) := by
  intro X A env s E Q o ev q
  refine h X A env s E Q o ev fun a vs s' k hn hp r => q _ _ k (Rep.of_list (fun x => ?_) hp.isList (r.mono (fun b x => .inl x) fun b o _ _ e => e))
  obtain ⟨oo, eo, _⟩ := o.xb _ x; exact hn ⟨oo, eo⟩
theorem rep_avoid {X : Addr → Prop} {h : Heap} {vs : List Value} {ds : List PyData} {a : Addr} (r : RepAll X h vs ds) (ha : h.objs.size ≤ a) : RepAll (fun b => X b ∨ b = a) h vs ds :=
  RepW.mono (RepW.low r ha) (fun b hb => hb.elim .inl fun q => .inr (Nat.le_of_eq q.symm)) fun _ _ _ _ e => e

theorem evf_slice {α : Type} {enc : α → PyData} {xs : List α} {lo hi : Option Int} {value : Expr} {lower upper : Option Expr} {p pos : Pos} (h1 : Ev g n sc σ value (eL enc xs)) (h2 : EvPart g n sc σ lower lo) (h3 : EvPart g n sc σ upper hi) (hsz : xs.length ≤ sizeLine) :
    EvF g n sc σ (.Subscript value (.Slice lower upper none p) pos) ((pySlice xs lo hi).map enc) := by
  intro X A env s E Q o e q
  refine Subscript_ (h1 X A env s E _ o e fun v s₁ k₁ r₁ => wpAny_Slice (h2 X A env s₁ E _ (o.keeps k₁) (e.ext (keeps_ext k₁)) fun vl s₂ k₂ p₂ => ?_))
  have k12 := keeps_trans k₁ k₂
  refine h3 X A env s₂ E _ (o.keeps k12) (e.ext (keeps_ext k12)) fun vu s₃ k₃ p₃ => ?_
  have k := keeps_trans k12 k₃
  rw [evalPart_none]
  refine wpAny_pure ?_
  obtain ⟨a, vs, rfl, hxa, hl, ra⟩ := Rep.list_inv (r₁.ext (keeps_ext (keeps_trans k₂ k₃)))
  have hlen := ra.length
  simp only [Array.length_toList, List.length_map] at hlen
  refine tail_any (hl.push _).typeIs slot_list_getitem.lookup (wpAny_getItem_list_slice (hl.push _) (Heap.IsSliceOf.new ..) p₂ p₃ .none (by simp) ?_ (by omega)) (by rfl)
  generalize hH : s₃.heap.push { cls := .type "slice", data := .fields #[vl, vu, .none] } = H
  have e1 : XExt s₃.heap H := hH ▸ XExt.push _ _
  have hfr : ¬ Old s.heap H.objs.size := fun ⟨oo, eo⟩ => absurd (((keeps_ext k).trans (Ext.of e1)).lt eo) (Nat.lt_irrefl _)
  refine q _ (slicePick vs lo hi none) _ (keeps_trans k (keeps_heap ((Ext.of e1).trans (Ext.push _ _)))) hfr ⟨0, Heap.get?_push_size _ rfl⟩ ?_
  have := rep_avoid (ra.xext e1) (Nat.le_refl _)
  rw [slicePick_plain, pySlice_map]
  unfold pySlice
  rw [List.length_map, ← hlen]
  exact RepAll.take _ (RepAll.drop _ (this.xext (XExt.push _ _)))
theorem ev_slice {α : Type} {enc : α → PyData} {xs : List α} {lo hi : Option Int} {value : Expr} {lower upper : Option Expr} {p pos : Pos} (h1 : Ev g n sc σ value (eL enc xs)) (h2 : EvPart g n sc σ lower lo) (h3 : EvPart g n sc σ upper hi) (hsz : xs.length ≤ sizeLine) :
    Ev g n sc σ (.Subscript value (.Slice lower upper none p) pos) (eL enc (pySlice xs lo hi)) := (evf_slice h1 h2 h3 hsz).ev

theorem evf_list {es : List Expr} {pos : Pos} {ds : List PyData} (h : EvL g n sc σ es ds) (hsz : ds.length ≤ sizeLine := by decide) : EvF g n sc σ (.List es pos) ds := by
  intro X A env s E Q o e q
  refine List_ (h pos X A env s E _ o e fun vs s₁ k₁ r₁ => ?_)
  refine wpAny_newObj_type ?_ (by show vs.toArray.size ≤ sizeLine; rw [List.size_toArray, r₁.length]; exact hsz)
  have hfr : ¬ Old s.heap s₁.heap.objs.size := fun ⟨oo, eo⟩ => absurd ((keeps_ext k₁).lt eo) (Nat.lt_irrefl _)
  exact q _ vs.toArray _ (keeps_trans k₁ (keeps_heap (Ext.push _ _))) hfr ⟨0, Heap.get?_push_size _ rfl⟩ ((rep_avoid r₁ (Nat.le_refl _)).xext (XExt.push _ _))

theorem evf_addl {α : Type} {f : α → PyData} {xs ys : List α} {l r : Expr} {pos : Pos} (h1 : Ev g n sc σ l (eL f xs)) (h2 : Ev g n sc σ r (eL f ys)) (hsz : xs.length + ys.length ≤ sizeLine) : EvF g n sc σ (.BinOp l .Add r pos) ((xs ++ ys).map f) := by
  intro X A env s E Q o e q
  rw [arm_eval_BinOp]
  refine wpAny_bind (h1 X A env s E _ o e fun v s₁ k₁ r₁ => ?_)
  refine wpAny_bind (wpAny_holding (h2 X A env s₁ E _ (o.keeps k₁) (e.ext (keeps_ext k₁)) fun u s₂ k₂ r₂ => ?_))
  refine wpAny_bind (wpAny_standAt (wpAny_operate' ?_))
  have k := keeps_trans k₁ k₂
  obtain ⟨a, vs, rfl, hx, hl, ra⟩ := Rep.list_inv (r₁.ext (keeps_ext k₂))
  obtain ⟨b, ws, rfl, hx2, hl2, rb⟩ := Rep.list_inv r₂
  have e1 := ra.length; have e2 := rb.length
  simp only [List.length_map, Array.length_toList] at e1 e2
  obtain ⟨⟨cls, dd, data, sl⟩, ho, hc, m1, hd⟩ := id hl
  obtain ⟨⟨cls2, dd2, data2, sl2⟩, ho2, hc2, m2, hd2⟩ := id hl2
  simp only at hc hd hc2 hd2
  subst hc hd hc2 hd2
  refine concat_meets ⟨_, ho, rfl⟩ ⟨_, ho2, rfl⟩ noFill_list_add seq_list_add PySem.F.slot_list_add PySem.F.entry_list_add (PySem.F.args_list_add_2 _ _) (list_addW a b vs ws m1 m2 dd dd2 sl sl2 (by omega)) ⟨ho, ho2, ?_⟩
  have hfr : ¬ Old s.heap s₂.heap.objs.size := fun ⟨oo, eo⟩ => absurd ((keeps_ext k).lt eo) (Nat.lt_irrefl _)
  refine q _ (vs ++ ws) _ (keeps_trans k (keeps_heap (Ext.push _ _))) hfr ⟨0, Heap.get?_push_size _ rfl⟩ ?_
  rw [Array.toList_append, List.map_append]
  exact ((rep_avoid ra (Nat.le_refl _)).xext (XExt.push _ _)).append ((rep_avoid rb (Nat.le_refl _)).xext (XExt.push _ _))
end
end Mine
namespace Mine
open PySem PyProof.Rows PySem.Calls PySem.Spec

def insI (x : Int) : List Int → List Int
  | [] => [x]
  | y :: ys => if x ≤ y then x :: y :: ys else y :: insI x ys
def sortI : List Int → List Int
  | [] => []
  | x :: xs => insI x (sortI xs)
theorem insI_perm (x : Int) : ∀ l, (insI x l).Perm (x :: l)
  | [] => .refl _
  | y :: ys => by unfold insI; split; exact .refl _; exact ((insI_perm x ys).cons y).trans (.swap x y ys)
theorem sortI_perm : ∀ l, (sortI l).Perm l
  | [] => .refl _
  | x :: xs => (insI_perm x _).trans ((sortI_perm xs).cons x)
theorem insI_sorted (x : Int) : ∀ l, l.Pairwise (· ≤ ·) → (insI x l).Pairwise (· ≤ ·)
  | [], _ => by simp [insI]
  | y :: ys, h => by
    unfold insI
    obtain ⟨h1, h2⟩ := List.pairwise_cons.mp h
    split
    · rename_i hxy
      exact List.pairwise_cons.mpr ⟨fun z hz => by rcases List.mem_cons.mp hz with rfl | hz; exact hxy; exact Int.le_trans hxy (h1 z hz), h⟩
    · rename_i hxy
      refine List.pairwise_cons.mpr ⟨fun z hz => ?_, insI_sorted x ys h2⟩
      rcases List.mem_cons.mp ((insI_perm x ys).mem_iff.mp hz) with rfl | hz
      · omega
      · exact h1 z hz
theorem sortI_sorted : ∀ l, (sortI l).Pairwise (· ≤ ·)
  | [] => .nil
  | x :: xs => insI_sorted x _ (sortI_sorted xs)
theorem sortI_eq {l m : List Int} (h : m.Perm l) (hs : m.Pairwise (· ≤ ·)) : m = sortI l :=
  List.Perm.eq_of_pairwise (fun a b _ _ h1 h2 => Int.le_antisymm h1 h2) hs (sortI_sorted l) (h.trans (sortI_perm l).symm)

theorem intsAre_rep {X : Addr → Prop} {h : Heap} : ∀ {vs : List Value} {ns : List Int}, IntsAre vs ns → RepAll X h vs (ns.map .int)
  | _, _, .nil => .nil
  | _, _, .cons n t r => .cons (.int n t) (intsAre_rep r)

section
variable {g : G} {n : Nat} {sc : Scope} {σ : Sig}

theorem fun_len {α : Type} {enc : α → PyData} {xs : List α} (h : xs.length < 2 ^ 62) : Fun g n (.builtin "len") [eL enc xs] (.int xs.length) := by
  intro X A s E Q vs o r q
  cases r with
  | cons r1 r2 =>
    cases r2
    obtain ⟨a, ws, rfl, hx, hl, ra⟩ := Rep.list_inv r1
    have hlen := ra.length
    simp only [Array.length_toList, List.length_map] at hlen
    refine len_list hl (by rw [hlen]; omega) ?_
    rw [hlen]
    exact q _ _ (keeps_toks s _) (.int _ _)
theorem fun_sum {ns : List Int} : Fun g n (.builtin "sum") [eL .int ns] (.int ns.sum) := by
  intro X A s E Q vs o r q
  cases r with
  | cons r1 r2 =>
    cases r2
    obtain ⟨a, ws, rfl, hx, hl, ra⟩ := Rep.list_inv r1
    have hi := ra.ints
    obtain ⟨xs, hxs⟩ := hi.allInts.items
    have hl' : s.heap.IsList a (intItems xs) := by rw [← hxs]; simpa using hl
    refine sum_intListG o.a.handled hl' fun h' tk t' hk => ?_
    have e : preSum (numAt xs) xs.size = ns.sum := by
      have h2 : numsOf (intItems xs).toList = ns := by rw [← hxs]; exact hi.numsOf
      rw [nums_intItems] at h2
      rw [preSum_eq, List.take_of_length_le (by simp), h2]
    rw [e]
    exact q _ _ (keeps_both (Ext.of hk)) (.int _ _)
theorem fun_sorted {ns : List Int} (h : ns.length < 64) : Fun g n (.builtin "sorted") [eL .int ns] (eL .int (sortI ns)) := by
  intro X A s E Q vs o r q
  cases r with
  | cons r1 r2 =>
    cases r2
    obtain ⟨a, ws, rfl, hx, hl, ra⟩ := Rep.list_inv r1
    have hi := ra.ints
    have hlen := hi.length
    refine sorted_ints (vs := ws.toList) (by simpa using hl) hi (by omega) fun out ns' a1 a2 a3 => ?_
    obtain ⟨e, he⟩ := sortedAll_at s.heap ws.toList out
    have hq := sortI_eq a2 a3
    subst hq
    exact q _ _ (keeps_heap (Ext.of fun _ _ => sortedAll_old)) (Rep.of_list (vs := out) (o.fresh (Nat.le_succ _)) ⟨_, he, rfl, _, rfl⟩ (intsAre_rep a1))

/-- the arguments of a call -/
theorem ev_call_b {x : Str} {id : String} {p pos : Pos} {e : Expr} {rest : List Expr} {ds : List PyData} {d : PyData} (hk : sc.names.lookup x = some .globalImplicit) (hg : Glb g x (.builtin id)) (hd : (x == ("__debug__" : Str)) = false)
    (h : EvL g n sc σ (e :: rest) ds) (hF : Fun g n (.builtin id) ds d) (he : ∀ env, starEach (e :: rest) env = (false, eval e env) :: starEach rest env := by intro _; rfl)
    (hp : ∀ env, (backTo pos (starEach rest env)).any (·.1) = false := by intro _; rfl) : Ev g n sc σ (.Call (.Name x p) (e :: rest) [] pos) d := by
  intro X A env s E Q o ev q
  refine Call_ (load_glb hk hg hd o ev ?_) (by rfl)
  refine callWith_builtin1 (h pos X A env s E _ o ev fun vs s₁ k₁ r₁ => ?_) (he env) (hp env)
  exact hF X A s₁ E Q vs (o.keeps k₁) r₁ fun v s' k' r' => q v s' (keeps_trans k₁ k') r'

/-- a def of the text -/
structure DefAt (g : G) (x : Str) (a : Addr) (params : Arguments) (body : List Stmt) (sc : Scope) : Prop where
  glb : g.mg x = some (.ref a)
  obj : ∃ o pm code doc, g.H.get? a = some o ∧ o.data = .func (docDef x params body sc pm code doc) ∧ g.H.CodeRec code x

theorem ev_call_f {x : Str} {a : Addr} {params : Arguments} {body : List Stmt} {fsc : Scope} {p pos : Pos} {e : Expr} {rest : List Expr} {ds : List PyData} {d : PyData} (hk : sc.names.lookup x = some .globalImplicit) (hg : DefAt g x a params body fsc) (hd : (x == ("__debug__" : Str)) = false)
    (h : EvL g n sc σ (e :: rest) ds) (hF : Fun g n (.ref a) ds d) (he : ∀ env, starEach (e :: rest) env = (false, eval e env) :: starEach rest env := by intro _; rfl) : Ev g n sc σ (.Call (.Name x p) (e :: rest) [] pos) d := by
  intro X A env s E Q o ev q
  refine Call_ (load_glb hk (.inl hg.glb) hd o ev ?_) (by rfl)
  obtain ⟨ob, pm, code, doc, h1, h2, h3⟩ := hg.obj
  refine callWith_def h2 (h pos X A env s E _ o ev fun vs s₁ k₁ r₁ => ⟨(o.keeps k₁).base _ _ h1, ?_⟩) (he env)
  exact hF X A s₁ E Q vs (o.keeps k₁) r₁ fun v s' k' r' => q v s' (keeps_trans k₁ k') r'

/-- sorted(e, reverse=True) -/
theorem ev_sorted_rev {p pos kp cp : Pos} {kk : Nat} {e : Expr} {ns : List Int} (hk : sc.names.lookup (Str.ofString "sorted") = some .globalImplicit) (hg : Glb g (Str.ofString "sorted") (.builtin "sorted")) (h : Ev g n sc σ e (eL .int ns)) (hl : ns.length < 64)
    (he : ∀ env, starEach [e] env = [(false, eval e env)] := by intro _; rfl) :
    Ev g n sc σ (.Call (.Name (Str.ofString "sorted") p) [e] [⟨some (Str.ofString "reverse"), .Constant (.bool true) kk cp, kp⟩] pos) (eL .int (sortI ns).reverse) := by
  intro X A env s E Q o ev q
  show wpAny _ _ (do callWith pos (← eval (.Name (Str.ofString "sorted") p) env) [] (backTo pos (starEach [e] env)) (backToKw pos (keywordEach [⟨some (Str.ofString "reverse"), .Constant (.bool true) kk cp, kp⟩] env))) _ _ _
  refine wpAny_bind (load_glb hk hg (by decide) o ev ?_)
  refine callWith_kw (evl_cons h evl_nil (fun env => he env) pos X A env s E _ o ev fun vs s₁ k₁ r₁ => ?_) (by rw [he]; rfl) (by rw [he]; rfl) (by rfl) (by rfl)
  show wpAny _ _ (evalAll [(do let v ← eval (.Constant (.bool true) kk cp) env; standAt pos; pure v)]) _ _ _
  cases r₁ with
  | cons r1 r2 =>
    cases r2
    obtain ⟨a, ws, rfl, hx, hl', ra⟩ := Rep.list_inv r1
    have hi := ra.ints
    have hlen := hi.length
    refine wpAny_bind (wpAny_bind (wpAny_pure (wpAny_bind (wpAny_standAt (wpAny_pure ?_)))))
    refine wpAny_bind (wpAny_holding (wpAny_pure (wpAny_pure ?_)))
    show wpAny _ _ (call (.builtin "sorted") [.ref a] [(Str.ofString "reverse", .bool true)]) _ _ _
    refine sorted_ints_rev (vs := ws.toList) (by simpa using hl') hi (by omega) fun out ns' a1 a2 a3 => ?_
    obtain ⟨ee, hee⟩ := sortedAll_at s₁.heap ws.toList out
    have hq : ns'.reverse = sortI ns := sortI_eq ((List.reverse_perm _).trans a2) (by rw [List.pairwise_reverse]; exact a3)
    have hq' : ns' = (sortI ns).reverse := by rw [← hq, List.reverse_reverse]
    subst hq'
    exact q _ _ (keeps_trans k₁ (keeps_heap (Ext.of fun _ _ => sortedAll_old))) (Rep.of_list (vs := out) ((o.keeps k₁).fresh (Nat.le_succ _)) ⟨_, hee, rfl, _, rfl⟩ (intsAre_rep a1))

theorem ev_neg {e : Expr} {a : Int} {pos : Pos} (h : Ev g n sc σ e (.int a)) : Ev g n sc σ (.UnaryOp .USub e pos) (.int (-a)) := by
  intro X A env s E Q o ev q
  refine wpAny_UnaryOp (h X A env s E _ o ev fun v s₁ k₁ r₁ => ?_)
  obtain ⟨t, rfl⟩ := r₁.int_inv
  exact PySem.P.neg_int (q _ _ (keeps_trans k₁ (keeps_toks _ _)) (.int _ _))
theorem tst_not {e : Expr} {b : Bool} {pos : Pos} (h : Tst g n sc σ e b) : Tst g n sc σ (.UnaryOp .Not e pos) (!b) := fun X A env s E Q o ev q => isTrue_not (h X A env s E _ o ev fun s' k => q s' k)
theorem tst_and_nil {pos : Pos} : Tst g n sc σ (.BoolOp .And [] pos) true := fun X A env s E Q o ev q => isTrue_and_nil (q s (keeps_refl s))
theorem tst_and {e : Expr} {rest : List Expr} {a b : Bool} {pos : Pos} (h : Tst g n sc σ e a) (h2 : a = true → Tst g n sc σ (.BoolOp .And rest pos) b) : Tst g n sc σ (.BoolOp .And (e :: rest) pos) (a && b) := by
  intro X A env s E Q o ev q
  refine isTrue_and (h X A env s E _ o ev fun s' k => ?_)
  cases a with
  | false => exact q s' k
  | true => exact h2 rfl X A env s' E Q (o.keeps k) (ev.ext (keeps_ext k)) fun s'' k' => q s'' (keeps_trans k k')
/-- a plain value as a test -/
theorem tst_bool {e : Expr} {b : Bool} (h : Ev g n sc σ e (.bool b)) (he : ∀ env whole, isTrue e env whole = (do let v ← whole; standAt e.pos; holding [v] (truthy v)) := by intro _ _; rfl) : Tst g n sc σ e b := by
  intro X A env s E Q o ev q
  refine isTrue_plain (h X A env s E _ o ev fun v s₁ k₁ r₁ => ?_) (he _ _)
  rw [r₁.bool_inv]; exact fun _ _ _ => q s₁ k₁
theorem truthy_b {M : Model} {A : Around} {E : Value → Shared → Prop} {s : Shared} {b : Bool} {Q : Bool → Shared → Prop} (h : Q b s) : wpAny M A (truthy (.bool b)) Q E s := fun _ _ _ => h
theorem ev_and1 {e : Expr} {d : PyData} {pos : Pos} (h : Ev g n sc σ e d) : Ev g n sc σ (.BoolOp .And [e] pos) d := fun X A env s E Q o ev q => BoolOp_one (h X A env s E Q o ev q)
theorem ev_and {e e₂ : Expr} {rest : List Expr} {a b : Bool} {pos : Pos} (h : Ev g n sc σ e (.bool a)) (h2 : a = true → Ev g n sc σ (.BoolOp .And (e₂ :: rest) pos) (.bool b)) : Ev g n sc σ (.BoolOp .And (e :: e₂ :: rest) pos) (.bool (a && b)) := by
  intro X A env s E Q o ev q
  refine BoolOp_and (h X A env s E _ o ev fun v s₁ k₁ r₁ => ?_)
  rw [r₁.bool_inv]
  refine truthy_b ?_
  cases a with
  | false => exact q _ _ k₁ (.bool _)
  | true => exact h2 rfl X A env s₁ E Q (o.keeps k₁) (ev.ext (keeps_ext k₁)) (fun v' s'' k' r' => q v' s'' (keeps_trans k₁ k') r')
theorem ev_ifexp {t b c : Expr} {x : Bool} {d : PyData} {pos : Pos} (h : Tst g n sc σ t x) (h1 : x = true → Ev g n sc σ b d) (h2 : x = false → Ev g n sc σ c d) : Ev g n sc σ (.IfExp t b c pos) d := by
  intro X A env s E Q o ev q
  refine wpAny_IfExp (h X A env s E _ o ev fun s' k => ?_)
  cases x with
  | true => exact h1 rfl X A env s' E Q (o.keeps k) (ev.ext (keeps_ext k)) fun v s'' k' r => q v s'' (keeps_trans k k') r
  | false => exact h2 rfl X A env s' E Q (o.keeps k) (ev.ext (keeps_ext k)) fun v s'' k' r => q v s'' (keeps_trans k k') r
/-- a < x < b as a test -/
theorem tst_chain2 {l r r' : Expr} {op op' : CmpOp} {pos : Pos} {a b c : PyData} {x y : Bool} (h1 : Ev g n sc σ l a) (h2 : Ev g n sc σ r b) (h3 : Ev g n sc σ r' c) (p1 : Op2 g n (compareOp op) a b (.bool x)) (p2 : Op2 g n (compareOp op') b c (.bool y))
    (hm : lastMarks [op, op'] [r, r'] = false := by with_unfolding_all rfl) : Tst g n sc σ (.Compare l [op, op'] [r, r'] pos) (x && y) := by
  intro X A env s E Q o ev q
  refine isTrue_chain (h1 X A env s E _ o ev fun v s₁ k₁ r₁ => ?_) hm
  refine test_link (h2 X A env s₁ E _ (o.keeps k₁) (ev.ext (keeps_ext k₁)) fun u s₂ k₂ r₂ => ?_)
  have k := keeps_trans k₁ k₂
  refine p1 X A s₂ E _ v u (o.keeps k) (r₁.ext (keeps_ext k₂)) r₂ fun v' s₃ k₃ r₃ => ?_
  have k3 := keeps_trans k k₃
  rw [r₃.bool_inv]
  refine truthy_b ?_
  cases x with
  | false => exact q s₃ k3
  | true =>
    refine test_last (h3 X A env s₃ E _ (o.keeps k3) (ev.ext (keeps_ext k3)) fun w s₄ k₄ r₄ => ?_)
    have k4 := keeps_trans k3 k₄
    refine p2 X A s₄ E _ u w (o.keeps k4) (r₂.ext (keeps_ext (keeps_trans k₃ k₄))) r₄ fun v'' s₅ k₅ r₅ => ?_
    rw [r₅.bool_inv]
    exact fun _ _ _ => q s₅ (keeps_trans k4 k₅)

/-- xs * k -/
theorem RepAll.rep {X : Addr → Prop} {h : Heap} {vs : List Value} {ds : List PyData} (r : RepAll X h vs ds) : ∀ k : Nat, RepAll X h (List.replicate k vs).flatten (List.replicate k ds).flatten
  | 0 => .nil
  | k + 1 => by rw [List.replicate_succ, List.replicate_succ, List.flatten_cons, List.flatten_cons]; exact r.append (RepAll.rep r k)
theorem evf_mull {α : Type} {f : α → PyData} {xs : List α} {k : Int} {l r : Expr} {pos : Pos} (h1 : Ev g n sc σ l (eL f xs)) (h2 : Ev g n sc σ r (.int k)) (hlo : -(2 ^ 63 : Int) ≤ k) (hhi : k < 2 ^ 63) (hsz : xs.length * k.toNat ≤ 2 ^ 24) : EvF g n sc σ (.BinOp l .Mult r pos) ((List.replicate k.toNat xs).flatten.map f) := by
  intro X A env s E Q o e q
  rw [arm_eval_BinOp]
  refine wpAny_bind (h1 X A env s E _ o e fun v s₁ k₁ r₁ => ?_)
  refine wpAny_bind (wpAny_holding (h2 X A env s₁ E _ (o.keeps k₁) (e.ext (keeps_ext k₁)) fun u s₂ k₂ r₂ => ?_))
  refine wpAny_bind (wpAny_standAt (wpAny_operate' ?_))
  have kk := keeps_trans k₁ k₂
  obtain ⟨a, vs, rfl, hx, hl, ra⟩ := Rep.list_inv (r₁.ext (keeps_ext k₂))
  obtain ⟨t, rfl⟩ := r₂.int_inv
  have hlen := ra.length
  simp only [Array.length_toList, List.length_map] at hlen
  obtain ⟨⟨cls, d, data, sl⟩, ho, hcl, m1, hd⟩ := id hl
  simp only at hcl hd
  subst hcl hd
  have hsz' : vs.size * k.toNat ≤ 2 ^ 24 := by rw [hlen]; exact hsz
  refine wpAny_binaryOp_repeat_ref (T := "list") (U := "int") (by decide) ⟨_, ho, rfl⟩ (fun s' => typeIs_int s' k t) noFill_list_mul F.fills_int_mul F.slot_int_rmul repeat_list F.slot_int_index.lookup
    (call_meets F.slot_int_rmul (typeIs_int s₂ k t) F.entry_int_rmul (F.args_int_rmul_2 _ _) (lm_int_rmul_list_any k t a vs m1 d sl)
      ⟨ho, rfl, ⟨_, ho, rfl⟩, call_meets F.slot_list_mul ⟨_, ho, rfl⟩ F.entry_list_mul (F.args_list_mul_2 _ _)
        (lm_list_mul_any a vs m1 d sl k t (by simp [Builtin.List.listFitsIndex]; omega) (by omega) (by simp [Builtin.List.listTooLong, sizeLine]; omega))
        ⟨ho, ?_⟩⟩)
  have hfr : ¬ Old s.heap s₂.heap.objs.size := fun ⟨oo, eo⟩ => absurd ((keeps_ext kk).lt eo) (Nat.lt_irrefl _)
  rw [listMul_foldl_if]
  refine q _ (List.replicate k.toNat vs.toList).flatten.toArray _ (keeps_trans kk (keeps_heap (Ext.push _ _))) hfr ⟨0, Heap.get?_push_size _ rfl⟩ ?_
  rw [List.map_flatten, List.map_replicate]
  exact ((rep_avoid ra (Nat.le_refl _)).xext (XExt.push _ _)).rep k.toNat
theorem ev_mull {α : Type} {f : α → PyData} {xs : List α} {k : Int} {l r : Expr} {pos : Pos} (h1 : Ev g n sc σ l (eL f xs)) (h2 : Ev g n sc σ r (.int k)) (hlo : -(2 ^ 63 : Int) ≤ k) (hhi : k < 2 ^ 63) (hsz : xs.length * k.toNat ≤ 2 ^ 24) : Ev g n sc σ (.BinOp l .Mult r pos) (eL f (List.replicate k.toNat xs).flatten) := (evf_mull h1 h2 hlo hhi hsz).ev
end
end Mine
namespace Mine
open PySem PyProof.Rows PySem.Calls PySem.Spec

def XB (X : Addr → Prop) (h : Heap) : Prop := ∀ a, X a → ∃ o, h.get? a = some o ∧ SeqO o
theorem XB.hk {X : Addr → Prop} {h h' : Heap} (x : XB X h) (k : Hk (fun _ => False) h h') : XB X h' := fun a ha => let ⟨o, e, ho⟩ := x a ha; ⟨o, k.hard a o (fun q => q) ho.hard e, ho⟩

/-- a statement that goes on -/
def Exec (g : G) (n : Nat) (sc : Scope) (ws : List Str) (σ : Sig) (st : Stmt) (σ' : Sig) : Prop :=
  ∀ (X : Addr → Prop) (hb : Heap) (A : Around) (env : Env) (s : Shared) (E : Value → Shared → Prop) (Q : Flow → Shared → Prop), AOk n A → Stk g.H A s.heap → FW g.H X sc ws hb env σ s.heap → XB X s.heap →
    (∀ h' tk, (∀ D, Hk D s.heap h') → FW g.H X sc ws hb env σ' h' → Q .next { s with heap := h', toks := tk }) → wpAny (model g.prog g.w) A (exec st env) Q E s
def Execs (g : G) (n : Nat) (sc : Scope) (ws : List Str) (σ : Sig) (st : List Stmt) (σ' : Sig) : Prop :=
  ∀ (X : Addr → Prop) (hb : Heap) (A : Around) (env : Env) (s : Shared) (E : Value → Shared → Prop) (Q : Flow → Shared → Prop), AOk n A → Stk g.H A s.heap → FW g.H X sc ws hb env σ s.heap → XB X s.heap →
    (∀ h' tk, (∀ D, Hk D s.heap h') → FW g.H X sc ws hb env σ' h' → Q .next { s with heap := h', toks := tk }) → wpAny (model g.prog g.w) A (execs st env) Q E s
/-- a body that returns d -/
def Ret (g : G) (n : Nat) (sc : Scope) (ws : List Str) (σ : Sig) (body : List Stmt) (d : PyData) : Prop :=
  ∀ (X : Addr → Prop) (hb : Heap) (A : Around) (env : Env) (s : Shared) (E : Value → Shared → Prop) (Q : Flow → Shared → Prop), AOk n A → Stk g.H A s.heap → FW g.H X sc ws hb env σ s.heap → XB X s.heap →
    (∀ v h' tk, Ext g.H hb h' → Rep X h' v d → Q (.ret v) { s with heap := h', toks := tk }) → wpAny (model g.prog g.w) A (execs body env) Q E s

section
variable {g : G} {n : Nat} {sc : Scope} {ws : List Str} {σ σ' σ'' : Sig}

theorem FW.okk {X : Addr → Prop} {hb : Heap} {env : Env} {s : Shared} {A : Around} (f : FW g.H X sc ws hb env σ s.heap) (a : AOk n A) (b : Stk g.H A s.heap) (x : XB X s.heap) : Ok g n X A s := ⟨a, f.ext.base f.base, x, b⟩

theorem Exec.sub {st : Stmt} (h : Exec g n sc ws σ st σ') (k : ∀ x d, σ''.lookup x = some d → σ'.lookup x = some d) : Exec g n sc ws σ st σ'' :=
  fun X hb A env s E Q a b f x q => h X hb A env s E Q a b f x fun h' tk hk f' => q h' tk hk (f'.sub k)
theorem execs_nil : Execs g n sc ws σ [] σ := fun X hb A env s E Q a b f x q => wpAny_execs_nil (q s.heap s.toks (fun D => Hk.refl D _) f)
theorem execs_cons {st : Stmt} {rest : List Stmt} (h1 : Exec g n sc ws σ st σ') (h2 : Execs g n sc ws σ' rest σ'') : Execs g n sc ws σ (st :: rest) σ'' := by
  intro X hb A env s E Q a b f x q
  refine wpAny_execs_cons (h1 X hb A env s E _ a b f x fun h' tk k f' => ?_)
  exact h2 X hb A env _ E Q a (b.mono (k (fun _ => False)).dict) f' (x.hk (k _)) fun h'' tk' k' f'' => q h'' tk' (fun D => (k D).trans (k' D)) f''
theorem ret_cons {st : Stmt} {rest : List Stmt} {d : PyData} (h1 : Exec g n sc ws σ st σ') (h2 : Ret g n sc ws σ' rest d) : Ret g n sc ws σ (st :: rest) d := by
  intro X hb A env s E Q a b f x q
  refine wpAny_execs_cons (h1 X hb A env s E _ a b f x fun h' tk k f' => ?_)
  exact h2 X hb A env _ E Q a (b.mono (k (fun _ => False)).dict) f' (x.hk (k _)) fun v h'' tk' k' r => q v h'' tk' k' r
theorem ret_return {e : Expr} {pos : Pos} {rest : List Stmt} {d : PyData} (h : Ev g n sc σ e d) : Ret g n sc ws σ (.Return (some e) pos :: rest) d := by
  intro X hb A env s E Q a b f x q
  refine wpAny_execs_cons ?_
  show wpAny _ _ (do standAt pos; return Flow.ret (← eval e env)) _ _ _
  refine wpAny_bind (wpAny_standAt (wpAny_bind (h X A env s E _ (f.okk a b x) f.ok fun v s₁ k₁ r₁ => wpAny_pure ?_)))
  obtain ⟨h', tk, rfl, ke'⟩ := k₁
  have ke : Ext g.H s.heap h' := ke'
  exact q v h' tk (f.ext.trans ke) r₁
theorem ret_if {c : Expr} {t o : List Stmt} {pos : Pos} {rest : List Stmt} {d : PyData} {bb : Bool} (h : Tst g n sc σ c bb) (h1 : bb = true → Ret g n sc ws σ t d) (h2 : bb = false → Ret g n sc ws σ (o ++ rest) d) (ho : o = [] := by rfl) : Ret g n sc ws σ (.If c t o pos :: rest) d := by
  subst ho
  intro X hb A env s E Q a b f x q
  refine wpAny_execs_cons (wpAny_If (h X A env s E _ (f.okk a b x) f.ok fun s₁ k₁ => ?_))
  obtain ⟨h', tk, rfl, ke'⟩ := k₁
  have ke : Ext g.H s.heap h' := ke'
  cases bb with
  | true =>
    rw [if_pos rfl]
    exact h1 rfl X hb A env _ E _ a (b.mono fun _ d => ke.dictAt d) (f.ext' ke) (x.hk (Hk.of_ext ke)) fun v h'' tk' k' r => q v h'' tk' k' r
  | false =>
    rw [if_neg (by decide)]
    refine wpAny_execs_nil ?_
    exact h2 rfl X hb A env _ E _ a (b.mono fun _ d => ke.dictAt d) (f.ext' ke) (x.hk (Hk.of_ext ke)) fun v h'' tk' k' r => q v h'' tk' k' r

theorem exec_if {c : Expr} {t o : List Stmt} {pos : Pos} {bb : Bool} (h : Tst g n sc σ c bb) (h1 : bb = true → Execs g n sc ws σ t σ') (h2 : bb = false → Execs g n sc ws σ o σ') : Exec g n sc ws σ (.If c t o pos) σ' := by
  intro X hb A env s E Q a b f x q
  refine wpAny_If (h X A env s E _ (f.okk a b x) f.ok fun s₁ k₁ => ?_)
  obtain ⟨h', tk, rfl, ke'⟩ := k₁
  have ke : Ext g.H s.heap h' := ke'
  cases bb with
  | true =>
    rw [if_pos rfl]
    exact h1 rfl X hb A env _ E _ a (b.mono fun _ d => ke.dictAt d) (f.ext' ke) (x.hk (Hk.of_ext ke)) fun h'' tk' k' f' => q h'' tk' (fun D => (Hk.of_ext ke).trans (k' D)) f'
  | false =>
    rw [if_neg (by decide)]
    exact h2 rfl X hb A env _ E _ a (b.mono fun _ d => ke.dictAt d) (f.ext' ke) (x.hk (Hk.of_ext ke)) fun h'' tk' k' f' => q h'' tk' (fun D => (Hk.of_ext ke).trans (k' D)) f'

theorem exec_assign {x : Str} {e : Expr} {p pos : Pos} {d : PyData} (hx : x ∈ ws) (h : Ev g n sc σ e d) (hs : ∀ env, swapsWith e (some (.Name x p)) pos.line env = pure false := by intro _; rfl) : Exec g n sc ws σ (.Assign [.Name x p] e pos) ((x, d) :: σ) := by
  intro X hb A env s E Q a b f xb q
  refine wpAny_Assign_Name (h X A env s E _ (f.okk a b xb) f.ok fun v s₁ k₁ r₁ => ?_) (hs env)
  obtain ⟨h', tk, rfl, ke'⟩ := k₁
  have ke : Ext g.H s.heap h' := ke'
  exact (f.ext' ke).store hx r₁ fun h'' tk' k' f' => q h'' tk' (fun D => (Hk.of_ext ke).trans (k' D)) f'

theorem exec_comp {x : Str} {elt : Expr} {gens : List Comprehension} {scope : Scope} {cp p pos : Pos} {out : List PyData} (hx : x ∈ ws) (h : Comp g n sc σ (.ListComp elt gens scope cp) out) :
    Exec g n sc ws σ (.Assign [.Name x p] (.ListComp elt gens scope cp) pos) ((x, .list out) :: σ) := by
  intro X hb A env s E Q a b f xb q
  have o := f.okk a b xb
  obtain ⟨bb, hbb⟩ : ∃ bb, swapsWith (.ListComp elt gens scope cp) (some (.Name x p)) pos.line env = pure bb := ⟨_, rfl⟩
  cases bb with
  | false =>
    refine wpAny_Assign_Name (h.ev X A env s E _ o f.ok fun v s₁ k₁ r₁ => ?_) hbb
    obtain ⟨h', tk, rfl, ke'⟩ := k₁
    have ke : Ext g.H s.heap h' := ke'
    exact (f.ext' ke).store hx r₁ fun h'' tk' k' f' => q h'' tk' (fun D => (Hk.of_ext ke).trans (k' D)) f'
  | true =>
    rw [exec_Assign_Name_used _ _ _ _ hbb]
    refine wpAny_bind (wpAny_standAt (wpAny_bind ?_))
    show wpAny _ A (do let _ ← compEval (.ListComp elt gens scope cp) env (some (assign (.Name x p) env))) _ _ s
    refine wpAny_bind (wpAny_mono (h X A env s E (fun _ s' => Q .next s') (some (assign (.Name x p) env)) o f.ok fun D C s' c => ?_) (fun _ s' hq => wpAny_pure (wpAny_pure hq)) fun _ _ e => e)
    obtain ⟨h₁, tk₁, rfl, ke⟩ := c.keeps
    have ke : Ext g.H s.heap h₁ := ke
    obtain ⟨m, hm⟩ := c.ns
    have f₁ := f.ext' ke
    show wpAny _ A (assign (.Name x p) env (.ref D)) _ _ _
    refine wpAny_assign_Name (f₁.store2 hx (c.rep o) fun h₂ tk₂ k₂ hsb f₂ => ?_)
    obtain ⟨bad, hbad, hsame⟩ := hsb
    have hold : Old s.heap bad := by
      rcases hbad with rfl | ⟨hcl, hc⟩
      · obtain ⟨m', hm', _⟩ := f.ok.loc; obtain ⟨oo, _, _, e, _⟩ := hm'; exact ⟨oo, e⟩
      · rcases f.wr x hx with hl | ⟨_, c', v', h1, ⟨oo, e, _⟩, _⟩
        · rw [hl] at hcl; cases hcl
        · rw [hc] at h1; cases h1; exact ⟨oo, e⟩
    have hCne : C ≠ bad := fun q => c.cn (q ▸ hold)
    refine ⟨m, hm.sameBut hsame hCne, fun h₃ hs₃ => ?_⟩
    have hmC := hm.sameBut hsame hCne
    have hCL : C ≠ env.locals := by
      rintro rfl; obtain ⟨m', hm', _⟩ := f.ok.loc; obtain ⟨oo, _, _, e, _⟩ := hm'; exact c.cn ⟨oo, e⟩
    refine q h₃ _ (fun D => ?_) (f₂.soft hs₃ hmC hCL fun ⟨oo, e⟩ => by obtain ⟨o2, e2, _⟩ := f.ext.to _ _ e; exact c.cn ⟨o2, e2⟩)
    have k12 : Hk D s.heap h₂ := (Hk.of_ext ke).trans (k₂ D)
    refine ⟨fun b oo hb' ho e => hs₃.extBut b oo ?_ (k12.hard b oo hb' ho e), fun L d => ?_⟩
    · rintro rfl; exact c.cn ⟨oo, e⟩
    · obtain ⟨o2, e2, d2⟩ := k12.dict L d
      refine ⟨o2, hs₃.extBut L o2 ?_ e2, d2⟩
      rintro rfl; obtain ⟨o1, e1, _⟩ := d; exact c.cn ⟨o1, e1⟩

theorem exec_tuple {elts : List Expr} {kk : Nat} {tp : Pos} {e : Expr} {pos : Pos} {ds : List PyData} {bs : Sig} (h : Ev g n sc σ e (.tuple ds)) (ha : Asg ws (.Tuple elts kk tp) (.tuple ds) bs)
    (hs : ∀ env, swapsWithSole [.Tuple elts kk tp] e pos.line env = pure false := by intro _; rfl) (hw : ∀ env, env.scope = sc → swappedStores [.Tuple elts kk tp] e env = pure none := by intro _ _; rfl) : Exec g n sc ws σ (.Assign [.Tuple elts kk tp] e pos) (bs ++ σ) := by
  intro X hb A env s E Q a b f xb q
  refine wpAny_Assign_stores (h X A env s E _ (f.okk a b xb) f.ok fun v s₁ k₁ r₁ => ?_) (hs env) (hw env f.ok.scope)
  obtain ⟨h', tk, rfl, ke'⟩ := k₁
  have ke : Ext g.H s.heap h' := ke'
  show wpAny _ _ (assign (.Tuple elts kk tp) env v) _ _ _
  exact ha g.prog g.w A g.H X sc hb env σ _ E _ v a.handled (f.ext' ke) r₁ fun h'' tk' k' f' => q h'' tk' (fun D => (Hk.of_ext ke).trans (k' D)) f'

/-- stores in the other order -/
def AsgR (g : G) (ws : List Str) (names : List Str) (ds : List PyData) (bs : Sig) : Prop :=
  ∀ (prog : Program) (w : World) (A : Around) (X : Addr → Prop) (sc : Scope) (hb : Heap) (env : Env) (σ : Sig) (s : Shared) (E : Value → Shared → Prop) (Q : Unit → Shared → Prop) (vs : List Value),
    FW g.H X sc ws hb env σ s.heap → RepAll X s.heap vs ds →
    (∀ h' tk, (∀ D, Hk D s.heap h') → FW g.H X sc ws hb env (bs ++ σ) h' → Q () { s with heap := h', toks := tk }) → wpAny (model prog w) A (assignInOrder (names.map fun n => bindName env n) vs) Q E s
theorem asgr_nil : AsgR g ws [] [] [] := by
  intro prog w A X sc hb env σ s E Q vs f r q
  cases r
  exact wpAny_pure (q s.heap s.toks (fun D => Hk.refl D _) f)
theorem asgr_cons {x : Str} {xs : List Str} {d : PyData} {ds : List PyData} {b2 : Sig} (hx : x ∈ ws) (h2 : AsgR g ws xs ds b2) : AsgR g ws (x :: xs) (d :: ds) (b2 ++ [(x, d)]) := by
  intro prog w A X sc hb env σ s E Q vs f r q
  cases r with
  | cons r1 r2 =>
    show wpAny _ _ (assignInOrder (bindName env x :: xs.map fun n => bindName env n) (_ :: _)) _ _ _
    unfold assignInOrder
    refine wpAny_bind (wpAny_holding (wpAny_bindName (f.store hx r1 fun h' tk k f' => ?_)))
    refine h2 prog w A X sc hb env ((x, d) :: σ) _ E Q _ f' (repall_hk r2 (k X)) fun h'' tk' k' f'' => ?_
    have e : b2 ++ (x, d) :: σ = b2 ++ [(x, d)] ++ σ := by simp
    rw [e] at f''
    exact q h'' tk' (fun D => (k D).trans (k' D)) f''
theorem RepAll.reverse {X : Addr → Prop} {h : Heap} : ∀ {vs : List Value} {ds : List PyData}, RepAll X h vs ds → RepAll X h vs.reverse ds.reverse
  | [], _, r => by cases r; exact .nil
  | v :: vs, _, r => by cases r with | cons a r => rw [List.reverse_cons, List.reverse_cons]; exact (RepAll.reverse r).append (.one a)
theorem exec_swap {elts : List Expr} {names : List Str} {kk : Nat} {tp : Pos} {e : Expr} {pos : Pos} {ds : List PyData} {bs : Sig} (h : Ev g n sc σ e (.tuple ds)) (ha : AsgR g ws names.reverse ds.reverse bs) (hl : names.length = ds.length)
    (hs : ∀ env, swapsWithSole [.Tuple elts kk tp] e pos.line env = pure false := by intro _; rfl) (hw : ∀ env, env.scope = sc → swappedStores [.Tuple elts kk tp] e env = pure (some names)) : Exec g n sc ws σ (.Assign [.Tuple elts kk tp] e pos) (bs ++ σ) := by
  intro X hb A env s E Q a b f xb q
  rw [exec_Assign_arm]
  refine wpAny_bind (wpAny_standAt ?_)
  rw [hs]
  refine wpAny_bind (wpAny_pure ?_)
  rw [if_neg (by decide)]
  refine wpAny_bind (h X A env s E _ (f.okk a b xb) f.ok fun v s₁ k₁ r₁ => ?_)
  obtain ⟨h', tk, rfl, ke'⟩ := k₁
  have ke : Ext g.H s.heap h' := ke'
  rw [hw env f.ok.scope]
  refine wpAny_bind (wpAny_pure ?_)
  unfold assignStores
  refine wpAny_bind (wpAny_rule ?_)
  obtain ⟨t, vs, rfl, hx, ht, ra⟩ := Rep.tuple_inv r₁
  have hlen := ra.length
  have hsz : names.length = vs.size := by rw [hl, ← hlen]; simp
  rw [hsz]
  refine wpAny_bind (wpAny_unpackItems_tuple a.handled ht fun h₂ hk => ?_)
  have k2 : Ext g.H h' h₂ := Ext.of fun b o e => hk b o (Nat.ne_of_lt (Heap.lt_size e)) e
  refine wpAny_bind (ha g.prog g.w A X sc hb env σ _ E _ _ ((f.ext' ke).ext' k2) ((ra.ext k2).reverse) fun h₃ tk₃ k₃ f₃ => wpAny_pure ?_)
  exact q h₃ tk₃ (fun D => (Hk.of_ext ke).trans ((Hk.of_ext k2).trans (k₃ D))) f₃

/-- a for over ds: σs i is what holds before turn i -/
theorem exec_for {tgt iter : Expr} {body : List Stmt} {pos : Pos} {ds : List PyData} (σs : Nat → Sig) (hit : EvIt g n sc (σs 0) tgt iter ds)
    (turn : ∀ i d, ds[i]? = some d → ∃ bs, Asg ws tgt d bs ∧ Execs g n sc ws (bs ++ σs i) body (σs (i + 1)))
    (hf : ∀ env x, foldedSetIterable iter env x = pure x := by intro _ _; rfl) : Exec g n sc ws (σs 0) (.For tgt iter body [] pos) (σs ds.length) := by
  intro X hb A env s E Q a b f xb q
  refine wpAny_For (hit X A env s E _ (f.okk a b xb) f.ok fun it s₁ St k₁ I st => ?_) (hf env)
  obtain ⟨h₁, tk₁, rfl, ke'⟩ := k₁
  have ke : Ext g.H s.heap h₁ := ke'
  refine codeAny_forLoop_any (fun m s' => ∃ i h tk, m = ds.length - i ∧ i ≤ ds.length ∧ s' = { s with heap := h, toks := tk } ∧ St i h ∧ FW g.H X sc ws hb env (σs i) h ∧ XB X h ∧ (∀ D, Hk D s.heap h)) ?_ ds.length
    ⟨0, h₁, tk₁, rfl, Nat.zero_le _, rfl, st, f.ext' ke, xb.hk (Hk.of_ext ke), fun D => Hk.of_ext ke⟩
  rintro m s' ⟨i, h, tk, rfl, hi', rfl, st', f', x', hk'⟩
  have soft : ∀ {h' : Heap} {P : Addr → Prop}, (∀ b o, (NoFields o ∨ Old s.heap b ∨ P b) → h.get? b = some o → h'.get? b = some o) → FW g.H X sc ws hb env (σs i) h' ∧ XB X h' ∧ (∀ D, Hk D s.heap h') := by
    intro h' P k
    have rk : ∀ {v d}, Rep X h v d → Rep X h' v d := fun r => r.mono (fun _ x => x) fun b o _ ho e => k b o (.inl ho.noFields) e
    have kc : ∀ {c' v'}, h.IsCell c' v' → h'.IsCell c' v' := by
      rintro c' v' ⟨o, e, d⟩; exact ⟨o, k _ _ (.inl fun vs q => by rw [d] at q; cases q) e, d⟩
    refine ⟨⟨?_, f'.base, ⟨f'.ok.scope, f'.ok.kind, f'.ok.globals, f'.ok.builtins, ?_, ?_, f'.ok.apart⟩, f'.loc, ?_⟩, ?_, ?_⟩
    · refine ⟨fun b o e => ?_, fun _ b o e => ?_⟩
      · obtain ⟨o', e', ss⟩ := f'.ext.to b o e
        obtain ⟨o2, e2, _⟩ := f.ext.to b o e
        exact ⟨o', k b o' (.inr (.inl ⟨o2, e2⟩)) e', ss⟩
      · exact k b o (.inr (.inl ⟨o, f.ext.base f.base b o e⟩)) (f'.ext.base f'.base b o e)
    · obtain ⟨m, hm, hv⟩ := f'.ok.loc
      obtain ⟨oL, es, ep, hoL, hdL, hr⟩ := id hm
      exact ⟨m, ⟨oL, es, ep, k _ _ (.inl fun vs q => by rw [hdL] at q; cases q) hoL, hdL, hr⟩, fun x d h1 h2 => let ⟨v, e1, e2⟩ := hv x d h1 h2; ⟨v, e1, rk e2⟩⟩
    · intro x d h1 h2
      obtain ⟨c', v', e1, e2, e3⟩ := f'.ok.cell x d h1 h2
      exact ⟨c', v', e1, kc e2, rk e3⟩
    · exact fun x hx => (f'.wr x hx).imp id fun ⟨a, c', v', b, e, g⟩ => ⟨a, c', v', b, kc e, g⟩
    · intro a' x
      obtain ⟨o, e, ho⟩ := x' a' x
      exact ⟨o, k _ _ (.inl ho.noFields) e, ho⟩
    · refine fun D => ⟨fun b o hD ho e => k b o (.inr (.inl ⟨o, e⟩)) ((hk' D).hard b o hD ho e), fun L d => ?_⟩
      obtain ⟨o, e, es, nn, dd⟩ := (hk' D).dict L d
      exact ⟨o, k L o (.inl fun vs q => by rw [dd] at q; cases q) e, es, nn, dd⟩
  by_cases hlt : i < ds.length
  · have hd : ds[i]? = some ds[i] := List.getElem?_eq_getElem hlt
    refine I.item' (fun v s₁ h => h) a hd st' fun v h' tk' rv st'' kp => ?_
    obtain ⟨f₁, x₁, hk₁⟩ := soft kp
    obtain ⟨bs, h1, h2⟩ := turn i _ hd
    refine h1 g.prog g.w A g.H X sc hb env (σs i) _ _ _ v a.handled f₁ (Rep.mono rv (fun b hb' => .inl hb') fun _ _ _ _ e => e) fun h₂ tk₂ k₂ f₂ => ?_
    refine h2 X hb A env _ _ _ a (b.mono fun L d => (k₂ (fun _ => False)).dict L ((hk₁ (fun _ => False)).dict L d)) f₂ (x₁.hk (k₂ _)) fun h₃ tk₃ k₃ f₃ => ?_
    refine ⟨ds.length - (i + 1), by omega, i + 1, h₃, tk₃, rfl, hlt, rfl, ?_, f₃, (x₁.hk (k₂ _)).hk (k₃ _), fun D => (hk₁ D).trans ((k₂ D).trans (k₃ D))⟩
    exact I.frame _ _ _ st'' fun b o hb1 hb2 hb3 e => (k₃ (fun _ => False)).hard b o (fun q => q) hb3 ((k₂ (fun _ => False)).hard b o (fun q => q) hb3 e)
  · have hin : i = ds.length := by omega
    subst hin
    refine I.done A _ _ _ a st' fun h' tk' kp => ?_
    obtain ⟨f₁, x₁, hk₁⟩ := soft kp
    exact wpAny_execs_nil (q h' tk' hk₁ f₁)
end
end Mine
namespace Mine
open PySem PyProof.Rows PySem.Calls PySem.Spec

theorem bindL_at (k : Str → Option NameKind) : ∀ (bs : List (Str × Value)) (m : Str → Option Value) (x : Str) (v : Value), (bs.map (·.1)).Nodup → bs.lookup x = some v → k x = some .local → bindL k bs m x = some v
  | [], _, _, _, _, h, _ => by cases h
  | (y, u) :: r, m, x, v, hn, h, hk => by
    rw [List.map_cons, List.nodup_cons] at hn
    unfold bindL
    by_cases hx : x = y
    · subst hx
      rw [List.lookup_cons_self] at h; cases h
      rw [if_pos hk]
      have : ∀ (r : List (Str × Value)) (m : Str → Option Value), x ∉ r.map (·.1) → bindL k r m x = m x := by
        intro r
        induction r with
        | nil => intro m _; rfl
        | cons p r ih =>
          intro m hm
          obtain ⟨z, w⟩ := p
          rw [List.map_cons, List.mem_cons, not_or] at hm
          unfold bindL
          rw [ih _ hm.2]
          split
          · exact if_neg hm.1
          · rfl
      rw [this r _ hn.1]; simp
    · rw [lookup_cons_ne hx] at h
      exact bindL_at k r _ x v hn.2 h hk
theorem bindC_at (k : Str → Option NameKind) : ∀ (bs : List (Str × Value)) (m : Str → Option Value) (x : Str) (v : Value), (bs.map (·.1)).Nodup → bs.lookup x = some v → k x ≠ some .local → bindC k bs m x = some v
  | [], _, _, _, _, h, _ => by cases h
  | (y, u) :: r, m, x, v, hn, h, hk => by
    rw [List.map_cons, List.nodup_cons] at hn
    unfold bindC
    by_cases hx : x = y
    · subst hx
      rw [List.lookup_cons_self] at h; cases h
      rw [if_neg hk]
      have : ∀ (r : List (Str × Value)) (m : Str → Option Value), x ∉ r.map (·.1) → bindC k r m x = m x := by
        intro r
        induction r with
        | nil => intro m _; rfl
        | cons p r ih =>
          intro m hm
          obtain ⟨z, w⟩ := p
          rw [List.map_cons, List.mem_cons, not_or] at hm
          unfold bindC
          rw [ih _ hm.2]
          split
          · rfl
          · exact if_neg hm.1
      rw [this r _ hn.1]; simp
    · rw [lookup_cons_ne hx] at h
      exact bindC_at k r _ x v hn.2 h hk

theorem repall_lookup {X : Addr → Prop} {h : Heap} : ∀ {ps : List Str} {vs : List Value} {ds : List PyData}, RepAll X h vs ds → ps.length = ds.length → ∀ {x d}, (ps.zip ds).lookup x = some d → ∃ v, (ps.zip vs).lookup x = some v ∧ Rep X h v d
  | [], vs, ds, r, hl, x, d, e => by cases e
  | p :: ps, [], ds, r, hl, x, d, e => by cases r; cases hl
  | p :: ps, v :: vs, ds, r, hl, x, d, e => by
    cases r with
    | cons a r =>
      rw [List.zip_cons_cons] at e ⊢
      by_cases hx : x = p
      · subst hx
        rw [List.lookup_cons_self] at e ⊢; cases e; exact ⟨v, rfl, a⟩
      · rw [lookup_cons_ne hx] at e ⊢
        exact repall_lookup r (by simpa using hl) e

section
variable {g : G} {n : Nat}

/-- a def whose body returns d -/
theorem fun_def {x : Str} {a : Addr} {params : Arguments} {body : List Stmt} {sc : Scope} {ws ps : List Str} {ds : List PyData} {d : PyData} (hdef : DefAt g x a params body sc)
    (hps : ∀ vs : List Value, vs.length = ds.length → ∀ pm code doc, bindArgs (docDef x params body sc pm code doc) ⟨vs, []⟩ = pure (ps.zip vs)) (hlen : ps.length = ds.length) (hnd : ps.Nodup)
    (hso : scopeOk sc = true) (hpo : ownOk sc ps = true) (hws : ownOk sc ws = true)
    (hret : Ret g n sc ws (ps.zip ds) body d) (hco : sc.isCoroutine = false := by rfl) (hgen : sc.isGenerator = false := by rfl) : Fun g (n + 1) (.ref a) ds d := by
  intro X A s E Q vs o r q
  obtain ⟨ob, pm, code, doc, h1, h2, h3⟩ := hdef.obj
  have hlv := r.length
  unfold scopeOk at hso
  rw [Bool.and_eq_true] at hso
  have hkind : sc.kind = .function := by simpa using hso.1
  have hnames : ∀ p ∈ sc.names, sc.names.lookup p.1 = some p.2 := fun p hp => by simpa using List.all_eq_true.mp hso.2 p hp
  have hnd' : ((ps.zip vs).map (·.1)).Nodup := by rw [List.map_fst_zip (by omega)]; exact hnd
  refine wpAny_call (call_cells_ret (by have := o.a.depth; omega) (o.base _ _ h1) h2 (g.top.nolimit.keeps o.base) (h3.keeps o.base) (hps vs hlv pm code doc) ?_ ?_ hco hgen hkind)
  · intro p hp
    have hp1 : p.1 ∈ ps := (List.of_mem_zip hp).1
    rcases ownOk_spec hpo _ hp1 with h | h
    · exact .inl h
    · refine .inr ⟨h, ?_⟩
      obtain ⟨c, hc⟩ := cellsFrom_has sc.names (s.heap.objs.size + 1) p.1 (PySem.mem_of_lookup h)
      obtain ⟨c', hc'⟩ := lookup_of_mem hc
      rw [hc']; rfl
  · intro h₁ tk F C
    have ke : Ext g.H s.heap h₁ := Ext.of F.keep
    have nold : ∀ b, s.heap.objs.size ≤ b → ¬ Old s.heap b := fun b hb ⟨oo, e⟩ => absurd (Heap.lt_size e) (Nat.not_lt.mpr hb)
    have hcells : ∀ y, sc.names.lookup y = some .cell → ∃ c, (cellsFrom (s.heap.objs.size + 1) sc.names []).lookup y = some c := fun y hy => by
      obtain ⟨c, hc⟩ := cellsFrom_has sc.names (s.heap.objs.size + 1) y (PySem.mem_of_lookup hy); exact lookup_of_mem hc
    have fw : FW g.H X sc ws s.heap (envOfC x sc s.heap.objs.size a code) (ps.zip ds) h₁ := by
      refine ⟨ke, o.base, ⟨rfl, hkind, rfl, rfl, ⟨_, F.ns, ?_⟩, ?_, ?_⟩, nold _ (Nat.le_refl _), ?_⟩
      · intro y d' hy hl
        obtain ⟨v, hv, rv⟩ := repall_lookup r hlen hy
        exact ⟨v, bindL_at _ _ _ _ _ hnd' hv hl, rv.ext ke⟩
      · intro y d' hy hl
        obtain ⟨v, hv, rv⟩ := repall_lookup r hlen hy
        have hyp : y ∈ ps := (List.of_mem_zip (PySem.mem_of_lookup hv)).1
        have hcell : sc.names.lookup y = some .cell := by
          rcases ownOk_spec hpo _ hyp with h | h
          · rw [h] at hl; rcases hl with q | q <;> cases q
          · exact h
        obtain ⟨c, hc⟩ := hcells y hcell
        have := C.cell y c hc
        rw [bindC_at _ _ _ _ _ hnd' hv (by show sc.names.lookup y ≠ _; rw [hcell]; decide)] at this
        exact ⟨c, v, hc, this, rv.ext ke⟩
      · intro y z c hy hz
        exact name_of_addr C.apart (PySem.mem_of_lookup hy) (PySem.mem_of_lookup hz)
      · intro y hy
        rcases ownOk_spec hws y hy with h | h
        · exact .inl h
        · obtain ⟨c, hc⟩ := hcells y h
          exact .inr ⟨h, c, _, hc, C.cell y c hc, nold _ (Nat.le_of_lt (C.above y c (PySem.mem_of_lookup hc)))⟩
    refine hret X s.heap _ _ _ _ _ ⟨o.a.handled, ?_, ?_⟩ ?_ fw (fun b hb => ?_) fun v h' tk' k' r' => q v _ (keeps_both k') r'
    · have := o.a.depth; show A.depth + 1 + n < _; omega
    · have := o.a.units; show A.units + 3 + 3 * n + 100 < _; omega
    · obtain ⟨l, hl1, hl2⟩ := o.stk
      refine ⟨envOfC x sc s.heap.objs.size a code :: l, by show (A.frames.map _) = _; rw [hl1]; rfl, fun env' he' => ?_⟩
      rcases List.mem_cons.mp he' with rfl | he'
      · refine ⟨by show sc.kind ≠ _; rw [hkind]; decide, _, rfl, ?_, ?_⟩
        · cases hq : g.H.get? s.heap.objs.size with
          | none => rfl
          | some oo => exact absurd (Heap.lt_size (o.base _ _ hq)) (Nat.lt_irrefl _)
        · obtain ⟨oo, es, ep, e1, e2, _⟩ := F.ns; exact ⟨oo, e1, es, ep, e2⟩
      · obtain ⟨h1, L, h2, h3, h4⟩ := hl2 env' he'; exact ⟨h1, L, h2, h3, ke.dictAt h4⟩
    · obtain ⟨oo, e, ho⟩ := o.xb b hb; exact ⟨oo, ke.seq ho e, ho⟩
end
end Mine
namespace Mine
open PySem PyProof.Rows PySem.Calls PySem.Spec

/-- what hq held stands, and every object that is no record; what H holds stands to the sign -/
structure ExtB (H hq h h' : Heap) : Prop where
  to : ∀ b o, Old hq b → h.get? b = some o → ∃ o', h'.get? b = some o' ∧ SameO o o'
  nf : ∀ b o, NoFields o → h.get? b = some o → ∃ o', h'.get? b = some o' ∧ SameO o o'
  base : XExt H h → XExt H h'
theorem ExtB.refl {H hq : Heap} (h : Heap) : ExtB H hq h h := ⟨fun b o _ e => ⟨o, e, .inl rfl⟩, fun b o _ e => ⟨o, e, .inl rfl⟩, fun x => x⟩
theorem SameO.noFields {o o' : Obj} (s : SameO o o') (n : NoFields o) : NoFields o' := fun vs e => n vs (s.data ▸ e)
theorem ExtB.trans {H hq a b c : Heap} (x : ExtB H hq a b) (y : ExtB H hq b c) : ExtB H hq a c :=
  ⟨fun i o q e => let ⟨o1, e1, s1⟩ := x.to i o q e; let ⟨o2, e2, s2⟩ := y.to i o1 q e1; ⟨o2, e2, s1.trans s2⟩,
   fun i o q e => let ⟨o1, e1, s1⟩ := x.nf i o q e; let ⟨o2, e2, s2⟩ := y.nf i o1 (s1.noFields q) e1; ⟨o2, e2, s1.trans s2⟩, fun q => y.base (x.base q)⟩
theorem ExtB.of_ext {H hq h h' : Heap} (k : Ext H h h') : ExtB H hq h h' := ⟨fun b o _ e => k.to b o e, fun b o _ e => k.to b o e, k.base⟩
theorem Old.ext {H h h' : Heap} {b : Addr} (o : Old h b) (k : Ext H h h') : Old h' b := let ⟨q, e⟩ := o; let ⟨q', e', _⟩ := k.to b q e; ⟨q', e'⟩
theorem Ext.extB {H hb hq h h' : Heap} (k : Ext H hb h) (hk : ∀ b, Old hb b → Old hq b) (x : ExtB H hq h h') : Ext H hb h' :=
  ⟨fun b o e => let ⟨o1, e1, s1⟩ := k.to b o e; let ⟨o2, e2, s2⟩ := x.to b o1 (hk b ⟨o, e⟩) e1; ⟨o2, e2, s1.trans s2⟩, fun q => x.base (k.base q)⟩
theorem ExtB.seq {H hq h h' : Heap} (k : ExtB H hq h h') {b : Addr} {o : Obj} (ho : SeqO o) (e : h.get? b = some o) : h'.get? b = some o := by
  obtain ⟨o', e', s⟩ := k.nf b o ho.noFields e
  rcases s with rfl | ⟨d, _⟩
  · exact e'
  · exact absurd d ho.hard.noDict
theorem ExtB.dictAt {H hq h h' : Heap} (k : ExtB H hq h h') {L : Addr} (d : DictAt h L) : DictAt h' L := by
  obtain ⟨o, e, es, n, hd⟩ := d
  obtain ⟨o', e', s⟩ := k.nf _ _ (fun vs q => by rw [hd] at q; cases q) e
  exact ⟨o', e', es, n, s.data.trans hd⟩
theorem ExtB.ns {H hq h h' : Heap} (k : ExtB H hq h h') {a : Addr} {m : Str → Option Value} (n : h.Ns a m) : h'.Ns a m := by
  obtain ⟨o, es, ep, e, d, r⟩ := n
  obtain ⟨o', e', s⟩ := k.nf _ _ (fun vs q => by rw [d] at q; cases q) e
  exact ⟨o', es, ep, e', s.data.trans d, r⟩
theorem ExtB.cell {H hq h h' : Heap} (k : ExtB H hq h h') {c : Addr} {v : Option Value} (n : h.IsCell c v) : h'.IsCell c v := by
  obtain ⟨o, e, d⟩ := n
  obtain ⟨o', e', s⟩ := k.nf _ _ (fun vs q => by rw [d] at q; cases q) e
  exact ⟨o', e', s.data.trans d⟩
theorem ExtB.plain {H hq h h' : Heap} (k : ExtB H hq h h') {c : Addr} {v : Array Value} (n : h.PlainList c v) : h'.PlainList c v := by
  obtain ⟨m, e⟩ := n; exact ⟨m, k.seq ⟨_, _, rfl⟩ e⟩
theorem Rep.extB {X : Addr → Prop} {H hq h h' : Heap} {v : Value} {d : PyData} (r : Rep X h v d) (k : ExtB H hq h h') : Rep X h' v d := r.mono (fun _ x => x) fun b o _ ho e => k.seq ho e
theorem RepAll.extB {X : Addr → Prop} {H hq h h' : Heap} {v : List Value} {d : List PyData} (r : RepAll X h v d) (k : ExtB H hq h h') : RepAll X h' v d := r.mono (fun _ x => x) fun b o _ ho e => k.seq ho e
theorem EnvOK.extB {X : Addr → Prop} {sc : Scope} {env : Env} {h h' : Heap} {σ : Sig} {H hq : Heap} (e : EnvOK X sc env h σ) (k : ExtB H hq h h') : EnvOK X sc env h' σ where
  scope := e.scope
  kind := e.kind
  globals := e.globals
  builtins := e.builtins
  loc := let ⟨m, a, b⟩ := e.loc; ⟨m, k.ns a, fun x d h1 h2 => let ⟨v, p, q⟩ := b x d h1 h2; ⟨v, p, q.extB k⟩⟩
  cell := fun x d h1 h2 => let ⟨c, v, p, q, r⟩ := e.cell x d h1 h2; ⟨c, v, p, k.cell q, r.extB k⟩
  apart := e.apart
theorem FW.extB {H hq : Heap} {X : Addr → Prop} {sc : Scope} {ws : List Str} {hb : Heap} {env : Env} {σ : Sig} {h h' : Heap} (f : FW H X sc ws hb env σ h) (hk : ∀ b, Old hb b → Old hq b) (k : ExtB H hq h h') : FW H X sc ws hb env σ h' :=
  ⟨f.ext.extB hk k, f.base, f.ok.extB k, f.loc, fun x hx => (f.wr x hx).imp id fun ⟨a, c, v, b, d, e⟩ => ⟨a, c, v, b, k.cell d, e⟩⟩

/-- an exception that came after hq -/
structure Exc (H hq : Heap) (e : Addr) (cls : String) (cx : Value) (fl : Option Value) (h : Heap) : Prop where
  new : ¬ Old hq e
  hyp : XExt H hq
  ob : ∃ oe vs, h.get? e = some oe ∧ oe.cls = .type cls ∧ oe.data = .fields vs ∧ vs[2]? = some cx ∧
    (match fl with
     | none => vs[1]? = some .none
     | some v => ∃ T oT ts, vs[1]? = some (.ref T) ∧ T ≠ e ∧ ¬ Old hq T ∧ h.get? T = some oT ∧ oT.data = .fields ts ∧ ts[3]? = some v)
theorem Exc.hard {H hq : Heap} {e : Addr} {cls : String} {cx : Value} {fl : Option Value} {h h' : Heap} (x : Exc H hq e cls cx fl h) (k : ∀ b o, Hard o → h.get? b = some o → h'.get? b = some o) : Exc H hq e cls cx fl h' := by
  refine ⟨x.new, x.hyp, ?_⟩
  obtain ⟨oe, vs, h1, h2, h3, h4, h5⟩ := x.ob
  refine ⟨oe, vs, k _ _ (.inr ⟨_, h3⟩) h1, h2, h3, h4, ?_⟩
  cases fl with
  | none => exact h5
  | some v =>
    obtain ⟨T, oT, ts, q1, q2, q3, q4, q5, q6⟩ := h5
    exact ⟨T, oT, ts, q1, q2, q3, k _ _ (.inr ⟨_, q5⟩) q4, q5, q6⟩
theorem Exc.ext {H hq : Heap} {e : Addr} {cls : String} {cx : Value} {fl : Option Value} {h h' : Heap} (x : Exc H hq e cls cx fl h) (k : Ext H h h') : Exc H hq e cls cx fl h' := x.hard fun b o ho q => k.hard ho q
theorem Exc.typeIs {H hq : Heap} {e : Addr} {cls : String} {cx : Value} {fl : Option Value} {s : Shared} (x : Exc H hq e cls cx fl s.heap) : s.TypeIs (.ref e) cls :=
  let ⟨oe, _, h1, h2, _⟩ := x.ob; ⟨oe, h1, h2⟩

theorem exc_new {H h h' : Heap} {e : Addr} {cls : String} (hyp : XExt H h) (x : Heap.NewExc h h' e cls) : Exc H h e cls .none none h' := by
  refine ⟨fun ⟨o, q⟩ => ?_, hyp, ?_⟩
  · rw [x.new] at q; cases q
  obtain ⟨ob, t, h1, h2, h3⟩ := x.there
  exact ⟨ob, _, h1, h2, h3, rfl, rfl⟩

section
variable {M : Model} {A : Around} {E : Value → Shared → Prop} {s : Shared}

/-- turning a record that hq does not hold -/
theorem ExtB.upd {H hq h : Heap} {a : Addr} {o : Obj} {vs : Array Value} {f : Obj → Obj} (hyp : XExt H hq) (hn : ¬ Old hq a) (e : h.get? a = some o) (d : o.data = .fields vs) : ExtB H hq h (h.update a f) := by
  refine ⟨fun b o' ho eb => ⟨o', ?_, .inl rfl⟩, fun b o' ho eb => ⟨o', ?_, .inl rfl⟩, fun x b o' eb => ?_⟩
  · rw [Heap.get?_update_other _ _ (fun q : a = b => hn (by rw [q]; exact ho))]; exact eb
  · rw [Heap.get?_update_other _ _ (fun q : a = b => by subst q; rw [e] at eb; cases eb; exact ho vs d)]; exact eb
  · rw [Heap.get?_update_other _ _ (fun q : a = b => hn ⟨o', by rw [q]; exact hyp b o' eb⟩)]; exact x b o' eb

theorem funFrames {H : Heap} {l : List Env} {h : Heap} (k : ∀ env ∈ l, env.scope.kind ≠ .module ∧ ∃ L, env.frame = some L ∧ H.get? L = none ∧ DictAt h L) : h.FunFrames H l := by
  induction l with
  | nil => trivial
  | cons e l ih =>
    obtain ⟨h1, L, h2, h3, o, h4, es, n, h5⟩ := k e (List.mem_cons_self ..)
    exact ⟨h1, ⟨L, o, h2, h3, h4, fun vs q => by rw [h5] at q; cases q⟩, ih fun e' he' => k e' (List.mem_cons_of_mem _ he')⟩

theorem Heap.SlotsOnly.extd {H : Heap} {S : List Addr} {h h' : Heap} (x : Heap.SlotsOnly S h h') (hd : ∀ b ∈ S, H.get? b = none ∧ DictAt h b) : Ext H h h' := by
  refine ⟨fun b o e => ?_, fun q b o e => ?_⟩
  · by_cases hb : b ∈ S
    · obtain ⟨_, o2, e2, d2⟩ := hd b hb
      rw [e] at e2; cases e2
      obtain ⟨sl, e'⟩ := x.2.2 b o e
      exact ⟨_, e', .inr ⟨d2, sl, rfl⟩⟩
    · exact ⟨o, (x.2.1 b hb).trans e, .inl rfl⟩
  · by_cases hb : b ∈ S
    · rw [(hd b hb).1] at e; cases e
    · exact (x.2.1 b hb).trans (q b o e)

/-- the first note -/
theorem exc_note_first {H hq : Heap} {env : Env} {outer : List Env} {L e : Addr} {cls : String} {cx : Value} {Q : Unit → Shared → Prop}
    (hfr : A.frames = some (env :: outer)) (st : Stk H A s.heap) (hf : env.frame = some L) (x : Exc H hq e cls cx none s.heap) (hk : ∀ b, Old hq b → Old s.heap b)
    (q : ∀ h', ExtB H hq s.heap h' → Exc H hq e cls cx (some (rawInt L)) h' → Q () { s with heap := h' }) : wpAny M A (noteFrame (.ref e) env) Q E s := by
  obtain ⟨oe, vs, h1, h2, h3, h4, h5⟩ := x.ob
  have h5 : vs[1]? = some .none := h5
  have hsz : 1 < vs.size := (Array.getElem?_eq_some_iff.mp h5).1
  obtain ⟨l, hl, hst⟩ := st
  obtain rfl : l = env :: outer := Option.some.inj (hl.symm.trans hfr)
  unfold noteFrame
  simp only [hf]
  refine wpAny_bind (wpAny_field h1 h3 h5 ?_)
  rw [if_neg (by decide)]
  refine wpAny_bind (wpAny_frameOf_fun hfr (funFrames hst) hf fun h₁ hs₁ => ?_)
  have k₁ : Ext H s.heap h₁ := Heap.SlotsOnly.extd hs₁ fun b hb => by
    obtain ⟨env', he', hb'⟩ := List.mem_filterMap.mp hb
    obtain ⟨_, L', e1, e2, e3⟩ := hst env' he'
    rw [e1] at hb'; cases hb'; exact ⟨e2, e3⟩
  refine wpAny_bind (wpAny_entryPlaceOf fun pl hpl => ?_)
  unfold EntryCells.newEntry newFields
  refine wpAny_bind (wpAny_newObj_type ?_ (hpl.sizeOk5 _ _ _ _ _))
  have he₁ : h₁.get? e = some oe := k₁.hard (.inr ⟨_, h3⟩) h1
  have he₂ := Heap.get?_push_of_some (h := h₁) { cls := .type "traceback", dict := none, data := .fields ([Value.none, .ref L, .none, rawInt L, .none] ++ (if pl.isEmpty then List.replicate 6 Value.none else pl)).toArray } he₁
  refine wpAny_setField he₂ h3 hsz ?_
  have hTe : h₁.objs.size ≠ e := Nat.ne_of_gt (Heap.lt_size he₁)
  have hd₃ := Obj.data_mapFields h3 (·.setIfInBounds 1 (Value.ref h₁.objs.size))
  have hT₃ := (Heap.get?_update_other (h₁.push { cls := .type "traceback", dict := none, data := .fields ([Value.none, .ref L, .none, rawInt L, .none] ++ (if pl.isEmpty then List.replicate 6 Value.none else pl)).toArray })
    (Obj.mapFields (·.setIfInBounds 1 (Value.ref h₁.objs.size))) (Ne.symm hTe)).trans (Heap.get?_push_size h₁ rfl)
  have hTn : ¬ Old hq h₁.objs.size := by
    intro ho
    obtain ⟨o, eo⟩ := (hk _ ho).ext k₁
    exact absurd (Heap.lt_size eo) (Nat.lt_irrefl _)
  refine q _ ((ExtB.of_ext (k₁.trans (Ext.push _ _))).trans (ExtB.upd x.hyp x.new he₂ h3)) ⟨x.new, x.hyp, _, _, Heap.get?_update_self _ he₂ (Obj.isFreed_of_fields hd₃), (Obj.cls_mapFields _ _).trans h2, hd₃, ?_,
    h₁.objs.size, _, _, by simp [hsz], hTe, hTn, hT₃, rfl, by first | (simp; done) | (rcases hpl with rfl | ⟨_, _, _, _, _, _, _, rfl⟩ <;> simp)⟩
  rw [Array.getElem?_setIfInBounds_ne (by decide)]; exact h4

/-- the note is there -/
theorem exc_note_again {H hq : Heap} {env : Env} {L e : Addr} {cls : String} {cx : Value} {Q : Unit → Shared → Prop} (hf : env.frame = some L) (x : Exc H hq e cls cx (some (rawInt L)) s.heap) (q : Q () s) :
    wpAny M A (noteFrame (.ref e) env) Q E s := by
  obtain ⟨oe, vs, h1, h2, h3, h4, T, oT, ts, q1, q2, q3, q4, q5, q6⟩ := x.ob
  unfold noteFrame
  simp only [hf]
  refine wpAny_bind (wpAny_field h1 h3 q1 ?_)
  rw [if_pos (show (Value.ref T != Value.none) = true from by simp)]
  refine wpAny_bind (wpAny_field q4 q5 q6 ?_)
  rw [if_pos (show (rawInt L == rawInt L) = true from by simp)]
  exact wpAny_pure q
theorem exc_note {H hq : Heap} {env : Env} {outer : List Env} {L e : Addr} {cls : String} {cx : Value} {fl : Option Value} {Q : Unit → Shared → Prop}
    (hfr : A.frames = some (env :: outer)) (st : Stk H A s.heap) (hf : env.frame = some L) (x : Exc H hq e cls cx fl s.heap) (hk : ∀ b, Old hq b → Old s.heap b) (hfl : fl = none ∨ fl = some (rawInt L))
    (q : ∀ h', ExtB H hq s.heap h' → Exc H hq e cls cx (some (rawInt L)) h' → Q () { s with heap := h' }) : wpAny M A (noteFrame (.ref e) env) Q E s := by
  rcases hfl with rfl | rfl
  · exact exc_note_first hfr st hf x hk q
  · exact exc_note_again hf x (q _ (ExtB.refl _) x)

theorem exc_flight {H hq : Heap} {fr : Option Addr} {e : Addr} {cls : String} {cx : Value} {v : Value} {Q : Unit → Shared → Prop} (x : Exc H hq e cls cx (some v) s.heap)
    (q : ∀ h', ExtB H hq s.heap h' → Exc H hq e cls cx (some (fr.elim .none fun f => rawInt f)) h' → Q () { s with heap := h' }) : wpAny M A (setFlight (.ref e) fr) Q E s := by
  obtain ⟨oe, vs, h1, h2, h3, h4, T, oT, ts, q1, q2, q3, q4, q5, q6⟩ := x.ob
  have hsz3 : 3 < ts.size := (Array.getElem?_eq_some_iff.mp q6).1
  unfold setFlight
  refine wpAny_bind (wpAny_field h1 h3 q1 ?_)
  rw [if_pos (show (Value.ref T != Value.none) = true from by simp)]
  refine wpAny_setField q4 q5 hsz3 (q _ (ExtB.upd x.hyp q3 q4 q5) ⟨x.new, x.hyp, oe, vs, ?_, h2, h3, h4, T, _, _, q1, q2, q3, Heap.get?_update_self _ q4 (Obj.isFreed_of_fields (Obj.data_mapFields q5 _)), Obj.data_mapFields q5 _, ?_⟩)
  · exact (Heap.get?_update_other _ _ q2).trans h1
  · simp [hsz3]

theorem exc_back {H hq : Heap} {env : Env} {L : Addr} {e : Addr} {cls : String} {cx : Value} {v : Value} (hf : env.frame = some L) (x : Exc H hq e cls cx (some v) s.heap)
    (q : ∀ h', ExtB H hq s.heap h' → Exc H hq e cls cx (some (rawInt L)) h' → E (.ref e) { s with heap := h' }) : cameBackBy M A env E (.ref e) s := by
  obtain ⟨oe, vs, h1, h2, h3, h4, T, oT, ts, q1, q2, q3, q4, q5, q6⟩ := id x.ob
  unfold cameBackBy
  refine wpAny_bind (wpAny_field h1 h3 q1 ?_)
  rw [if_neg (by simp)]
  refine exc_flight x fun h' k x' => ?_
  rw [hf] at x'
  exact q h' k x'
theorem exc_pass {α : Type} {H hq : Heap} {env : Env} {L : Addr} {e : Addr} {cls : String} {cx : Value} {v : Value} {what : String} {Q : α → Shared → Prop} (hf : env.frame = some L) (x : Exc H hq e cls cx (some v) s.heap)
    (q : ∀ h', ExtB H hq s.heap h' → Exc H hq e cls cx (some (rawInt L)) h' → E (.ref e) { s with heap := h' }) : wpAny M A (PySem.passOn what (.ref e) env : Sem α) Q E s := by
  obtain ⟨oe, vs, h1, h2, h3, h4, T, oT, ts, q1, q2, q3, q4, q5, q6⟩ := id x.ob
  unfold PySem.passOn
  refine wpAny_bind (wpAny_field h1 h3 q1 ?_)
  rw [if_neg (by simp)]
  refine wpAny_bind (exc_flight x fun h' k x' => ?_)
  rw [hf] at x'
  exact wpAny_throw (q h' k x')
end
end Mine
namespace Mine
open PySem PyProof.Rows PySem.Calls PySem.Spec

/-- nothing is handled, or one exception that has no context -/
def HdOK (A : Around) (h : Heap) : Prop := A.handled = none ∨ ∃ e1 o vs, A.handled = some (.ref e1) ∧ h.get? e1 = some o ∧ o.data = .fields vs ∧ vs[2]? = some .none
theorem HdOK.hard {A : Around} {h h' : Heap} (x : HdOK A h) (k : ∀ b o, Hard o → h.get? b = some o → h'.get? b = some o) : HdOK A h' := by
  rcases x with x | ⟨e1, o, vs, a, b, c, d⟩
  · exact .inl x
  · exact .inr ⟨e1, o, vs, a, k _ _ (.inr ⟨_, c⟩) b, c, d⟩

theorem entry_unchain : entryFor table "proto.unchain" = some Builtin.«proto.unchain» := entryFor_of_tree (by kernel_rfl)

section
variable {α : Type} {prog : Program} {w : World} {A : Around} {E : Value → Shared → Prop} {s : Shared}

theorem raiseNew_ctx {e e1 : Addr} {o1 oe : Obj} {vs1 vs : Array Value} {Q : α → Shared → Prop} (hh : A.handled = some (.ref e1)) (h1 : s.heap.get? e1 = some o1) (h2 : o1.data = .fields vs1) (h3 : vs1[2]? = some .none)
    (hne : e1 ≠ e) (he : s.heap.get? e = some oe) (hd : oe.data = .fields vs) (hsz : 2 < vs.size) (h : E (.ref e) { s with heap := s.heap.update e (Obj.mapFields (·.setIfInBounds 2 (.ref e1))) }) : wpAny (model prog w) A (raiseNew (.ref e) : Sem α) Q E s := by
  unfold raiseNew
  refine wpAny_bind (wpAny_handled ?_)
  rw [hh]
  show wpAny _ A (if (Value.ref e1 != Value.ref e) = true then _ else _) _ _ _
  rw [if_pos (by simpa using hne)]
  refine wpAny_bind (wpAny_holding (wpAny_runValue (codeAny_builtin entry_unchain ?_)))
  show wpAny _ _ (field (.ref e1) 2 >>= _) _ _ _
  refine wpAny_bind (wpAny_field h1 h2 h3 ?_)
  refine wpAny_pure ?_
  show wpAny _ A (updateField e 2 (.ref e1) >>= _) _ _ _
  refine wpAny_bind ?_
  unfold updateField
  refine wpAny_bind (wpAny_load he ?_)
  rw [hd]
  show wpAny _ A (if 2 < vs.size then _ else _) _ _ _
  rw [if_pos hsz]
  exact wpAny_update he (wpAny_throw h)

/-- a new exception, whose context is what is handled -/
theorem raise_ctx {H : Heap} {cls msg : String} {Q : α → Shared → Prop} (hp : PlainExc cls) (hyp : XExt H s.heap) (hd : HdOK A s.heap)
    (h : ∀ h' tk e cx, XExt s.heap h' → Exc H s.heap e cls cx none h' → (A.handled = none → cx = .none) → E (.ref e) { s with heap := h', toks := tk }) :
    wpAny (model prog w) A (raiseErrorWords cls msg : Sem α) Q E s := by
  rcases hd with hh | ⟨e1, o1, vs1, hh, h1, h2, h3⟩
  · exact wpAny_raiseErrorWords hp hh fun h' tk e x => h h' tk e .none x.keeps (exc_new hyp x) fun _ => rfl
  · unfold raiseErrorWords
    refine wpAny_bind (wpAny_mkText (wpAny_bind ?_))
    unfold newExc newTuple
    refine wpAny_bind (wpAny_newObj_type ?_)
    refine wpAny_bind (m := firstArgMember _ _) (wpAny_of_eq (a := Value.none) (by simp only [firstArgMember, hp.first]; rfl) ?_)
    rw [hp.own]
    refine wpAny_newObj_type ?_
    generalize htup : ({ cls := Value.type "tuple", data := _ } : Obj) = tup
    clear htup
    have k0 : XExt s.heap (s.heap.push tup) := XExt.push _ _
    have hne : e1 ≠ (s.heap.push tup).objs.size := fun q => by
      have := Heap.lt_size (k0 _ _ h1); rw [q] at this; exact Nat.lt_irrefl _ this
    have k1 : ∀ o, XExt s.heap ((s.heap.push tup).push o) := fun o b q e => XExt.push _ o _ _ (k0 _ _ e)
    refine raiseNew_ctx hh (k1 _ _ _ h1) h2 h3 hne (Heap.get?_push_size _ rfl) rfl (by simp) ?_
    have hnew : s.heap.get? (s.heap.push tup).objs.size = none := Heap.get?_none_of_le (by simp)
    refine h _ _ _ (.ref e1) (fun b o eb => ?_) ⟨fun ⟨o, eo⟩ => ?_, hyp, _, _, Heap.get?_update_self _ (Heap.get?_push_size _ rfl) (Obj.isFreed_of_fields (Obj.data_mapFields rfl _)), (Obj.cls_mapFields _ _).trans rfl, Obj.data_mapFields rfl _, ?_, ?_⟩ fun q => by rw [hh] at q; cases q
    · refine (Heap.get?_update_other _ _ ?_).trans (k1 _ _ _ eb)
      intro q
      have := Heap.lt_size (k0 _ _ eb); rw [← q] at this; exact Nat.lt_irrefl _ this
    · rw [hnew] at eo; cases eo
    · rfl
    · rfl

/-- an item that is not there -/
theorem getItem_out {H : Heap} {l : Addr} {items : Array Value} {k : Nat} {t : Tok} {Q : Value → Shared → Prop} (hyp : XExt H s.heap) (hA : HdOK A s.heap) (hl : s.heap.IsList l items)
    (hout : items.size ≤ k) (hhi : (k : Int) < 2 ^ 63)
    (hE : ∀ h' tk e cx, XExt s.heap h' → Exc H s.heap e "IndexError" cx none h' → (A.handled = none → cx = .none) → E (.ref e) { s with heap := h', toks := tk }) :
    wpAny (model prog w) A (getItem (.ref l) (.int k t)) Q E s := by
  obtain ⟨o, ho, hc, ne, hd⟩ := id hl
  obtain ⟨K, hK⟩ : ∃ K : Int, (k : Int) = K := ⟨_, rfl⟩
  rw [hK] at hhi ⊢
  unfold getItem
  try with_reducible refine wpAny_holding ?_
  first | refine wpAny_bind (wpAny_pure ?_) | skip
  refine wpAny_bind (wpAny_sequenceKey hl.typeIs (by decide) ?_)
  refine wpAny_bind (wpAny_callSpecial?_slot (name := Str.ofString "__getitem__") hl.typeIs slot_list_getitem
    (wpAny_call_entry slot_list_getitem hl.typeIs entry_list_getitem ?_ (args_list_getitem _ _)))
  show wpAny _ _ (Builtin.List.listSubscript? (.int K t) >>= _) _ _ s
  refine wpAny_bind (wpAny_listSubscript_int (fitsIndex_both (by omega) hhi) ?_)
  have hx : items[k]? = none := Array.getElem?_eq_none hout
  clear hhi
  rw [← Int.ofNat_eq_natCast] at hK
  subst hK
  show wpAny _ _ ((seqItemAt l k >>= fun r => pure (r.map (k, ·))) >>= _) _ _ s
  refine wpAny_bind (wpAny_bind (wpAny_seqItemAt ho hd (wpAny_pure ?_)))
  rw [hx]
  first
    | exact wpAny_bind (wpAny_rule (raise_ctx plainExc_IndexError hyp hA hE))
    | exact wpAny_bind (wpAny_rule (wpAny_bind (raise_ctx plainExc_IndexError hyp hA hE)))
    | exact wpAny_bind (wpAny_bind (wpAny_rule (raise_ctx plainExc_IndexError hyp hA hE)))
    | exact wpAny_rule (raise_ctx plainExc_IndexError hyp hA hE)
end

section
variable {H : Heap} {X : Addr → Prop} {sc : Scope} {ws : List Str} {hb : Heap} {env : Env} {σ : Sig} {prog : Program} {w : World} {A : Around} {E : Value → Shared → Prop} {s : Shared}

theorem fw_name {x : Str} {pos : Pos} {d : PyData} {Q : Value → Shared → Prop} (e : EnvOK X sc env s.heap σ) (hk : nameOk sc x = true) (hs : σ.lookup x = some d) (q : ∀ v, Rep X s.heap v d → Q v s) :
    wpAny (model prog w) A (eval (.Name x pos) env) Q E s := by
  unfold nameOk at hk
  rw [Bool.and_eq_true, Bool.not_eq_true'] at hk
  obtain ⟨h1, hd⟩ := hk
  split at h1
  · next hk =>
    obtain ⟨m, hm, hl⟩ := e.loc
    obtain ⟨v, hv, r⟩ := hl x d hs hk
    exact wpAny_Name (wpAny_loadName_local (by rw [e.scope]; exact e.kind) (by rw [Env.kindOf, e.scope]; exact hk) hm hv (q v r)) hd
  · next hk =>
    obtain ⟨c, v, hc, hv, r⟩ := e.cell x d hs (.inl hk)
    exact wpAny_Name (wpAny_loadName_cell (by rw [e.scope]; exact e.kind) (by rw [Env.kindOf, e.scope]; exact hk) hc hv (q v r)) hd
  · next hk =>
    obtain ⟨c, v, hc', hv, r⟩ := e.cell x d hs (.inr hk)
    exact wpAny_Name (wpAny_loadName_free (by rw [e.scope]; exact e.kind) (by rw [Env.kindOf, e.scope]; exact hk) hc' hv (q v r) (by simpa using h1)) hd
  · cases h1

/-- l[k], in or out -/
theorem fw_item {lx kx : Str} {p1 p2 pos : Pos} {xs : List Int} {i : Nat} {Q : Value → Shared → Prop} (f : FW H X sc ws hb env σ s.heap) (hA : HdOK A s.heap)
    (n1 : nameOk sc lx = true) (n2 : nameOk sc kx = true) (h1 : σ.lookup lx = some (eL .int xs)) (h2 : σ.lookup kx = some (.int i)) (hi : (i : Int) < 2 ^ 63)
    (q1 : ∀ x t, xs[i]? = some x → Q (.int x t) s)
    (q2 : xs.length ≤ i → ∀ h' tk e cx, XExt s.heap h' → Exc H s.heap e "IndexError" cx none h' → (A.handled = none → cx = .none) → E (.ref e) { s with heap := h', toks := tk }) :
    wpAny (model prog w) A (eval (.Subscript (.Name lx p1) (.Name kx p2) pos) env) Q E s := by
  refine Subscript_ (fw_name f.ok n1 h1 fun v r₁ => fw_name f.ok n2 h2 fun u r₂ => ?_)
  obtain ⟨a, vs, rfl, hxa, hl, ra⟩ := Rep.list_inv r₁
  obtain ⟨t, rfl⟩ := r₂.int_inv
  have hlen := ra.length
  simp only [List.length_map, Array.length_toList] at hlen
  by_cases hin : i < xs.length
  · obtain ⟨v, hv, rv⟩ := ra.get (i := i) (d := .int xs[i]) (by rw [List.getElem?_map, List.getElem?_eq_getElem hin]; rfl)
    obtain ⟨t', rfl⟩ := rv.int_inv
    exact tail_any hl.typeIs slot_list_getitem.lookup (wpAny_getItem_list hl (by omega) hi (by simpa using hv) (q1 _ _ (List.getElem?_eq_getElem hin))) rfl
  · exact tail_any hl.typeIs slot_list_getitem.lookup (getItem_out (f.ext.base f.base) hA hl (by omega) hi (q2 (by omega))) rfl

/-- k += c -/
theorem fw_inc {kx : Str} {p1 p2 pos : Pos} {kk : Nat} {i c : Int} {Q : Flow → Shared → Prop} (f : FW H X sc ws hb env ((kx, .int i) :: σ) s.heap) (hk : sc.names.lookup kx = some .local) (hw : kx ∈ ws)
    (q : ∀ h' tk, (∀ D, Hk D s.heap h') → Heap.SameBut env.locals s.heap h' → FW H X sc ws hb env ((kx, .int (i + c)) :: σ) h' → Q .next { s with heap := h', toks := tk }) :
    wpAny (model prog w) A (exec (.AugAssign (.Name kx p1) .Add (.Constant (.int c) kk p2) pos) env) Q E s := by
  obtain ⟨m, hm, hl⟩ := f.ok.loc
  obtain ⟨v, hv, r⟩ := hl kx _ List.lookup_cons_self hk
  obtain ⟨t, rfl⟩ := r.int_inv
  refine wpAny_AugAssign_Name (wpAny_loadName_local (by rw [f.ok.scope]; exact f.ok.kind) (by rw [Env.kindOf, f.ok.scope]; exact hk) hm hv ?_)
  refine wpAny_mkInt (PyProof.Rows.iadd_int ?_)
  refine FW.store2 (s := { s with toks := _ }) f hw (.int (i + c) _) fun h' tk k hs f' => q h' tk k ?_ (f'.sub fun y d hy => ?_)
  · obtain ⟨b, hb', hs⟩ := hs
    rcases hb' with rfl | ⟨h1, _⟩
    · exact hs
    · rw [hk] at h1; cases h1
  · by_cases hyx : y = kx
    · subst hyx; rw [List.lookup_cons_self] at hy ⊢; exact hy
    · rw [lookup_cons_ne hyx] at hy ⊢; rw [lookup_cons_ne hyx]; exact hy
end

section
variable {g : G} {n : Nat}
/-- what a call of a def lays, and what its body must do -/
theorem call_raw {x : Str} {a : Addr} {params : Arguments} {body : List Stmt} {sc : Scope} {ws ps : List Str} {σ : Sig} {X : Addr → Prop} {A : Around} {s : Shared} {E : Value → Shared → Prop} {Q : Value → Shared → Prop} {vs : List Value} {hb : Heap} (hdef : DefAt g x a params body sc)
    (hps : ∀ pm code doc, bindArgs (docDef x params body sc pm code doc) ⟨vs, []⟩ = pure (ps.zip vs)) (hlen : ps.length = vs.length) (hnd : ps.Nodup)
    (hso : scopeOk sc = true) (hpo : ownOk sc ps = true) (hws : ownOk sc ws = true) (o : Ok g (n + 1) X A s) (hbx : Ext g.H hb s.heap) (hbb : XExt g.H hb)
    (r : ∀ y d, σ.lookup y = some d → ∃ v, (ps.zip vs).lookup y = some v ∧ Rep X s.heap v d)
    (hret : ∀ (A' : Around) (env : Env) (outer : List Env) (h₁ : Heap) (tk : Nat) (Qf : Flow → Shared → Prop) (Ef : Value → Shared → Prop), AOk n A' → A'.frames = some (env :: outer) → env.frame = some env.locals → Stk g.H A' h₁ →
      FW g.H X sc ws hb env σ h₁ → Ext g.H s.heap h₁ → (∃ m, h₁.Ns env.locals m ∧ ∀ y v, (ps.zip vs).lookup y = some v → sc.names.lookup y = some .local → m y = some v) → ¬ Old s.heap env.locals → XB X h₁ →
      (∀ v s', Q v s' → Qf (.ret v) s') → wpAny (model g.prog g.w) A' (execs body env) Qf Ef { s with heap := h₁, toks := tk })
    (hco : sc.isCoroutine = false := by rfl) (hgen : sc.isGenerator = false := by rfl) : wpAny (model g.prog g.w) A (call (.ref a) vs) Q E s := by
  obtain ⟨ob, pm, code, doc, h1, h2, h3⟩ := hdef.obj
  unfold scopeOk at hso
  rw [Bool.and_eq_true] at hso
  have hkind : sc.kind = .function := by simpa using hso.1
  have hnames : ∀ p ∈ sc.names, sc.names.lookup p.1 = some p.2 := fun p hp => by simpa using List.all_eq_true.mp hso.2 p hp
  have hnd' : ((ps.zip vs).map (·.1)).Nodup := by rw [List.map_fst_zip (by omega)]; exact hnd
  refine wpAny_call (call_cells_ret (by have := o.a.depth; omega) (o.base _ _ h1) h2 (g.top.nolimit.keeps o.base) (h3.keeps o.base) (hps pm code doc) ?_ ?_ hco hgen hkind)
  · intro p hp
    have hp1 : p.1 ∈ ps := (List.of_mem_zip hp).1
    rcases ownOk_spec hpo _ hp1 with h | h
    · exact .inl h
    · refine .inr ⟨h, ?_⟩
      obtain ⟨c, hc⟩ := cellsFrom_has sc.names (s.heap.objs.size + 1) p.1 (PySem.mem_of_lookup h)
      obtain ⟨c', hc'⟩ := lookup_of_mem hc
      rw [hc']; rfl
  · intro h₁ tk F C
    have ke : Ext g.H s.heap h₁ := Ext.of F.keep
    have nold : ∀ b, s.heap.objs.size ≤ b → ¬ Old s.heap b := fun b hb ⟨oo, e⟩ => absurd (Heap.lt_size e) (Nat.not_lt.mpr hb)
    have nold' : ∀ b, s.heap.objs.size ≤ b → ¬ Old hb b := fun b hb' ho => nold b hb' (ho.ext hbx)
    have hcells : ∀ y, sc.names.lookup y = some .cell → ∃ c, (cellsFrom (s.heap.objs.size + 1) sc.names []).lookup y = some c := fun y hy => by
      obtain ⟨c, hc⟩ := cellsFrom_has sc.names (s.heap.objs.size + 1) y (PySem.mem_of_lookup hy); exact lookup_of_mem hc
    have fw : FW g.H X sc ws hb (envOfC x sc s.heap.objs.size a code) σ h₁ := by
      refine ⟨hbx.trans ke, hbb, ⟨rfl, hkind, rfl, rfl, ⟨_, F.ns, ?_⟩, ?_, ?_⟩, nold' _ (Nat.le_refl _), ?_⟩
      · intro y d' hy hl
        obtain ⟨v, hv, rv⟩ := r y d' hy
        exact ⟨v, bindL_at _ _ _ _ _ hnd' hv hl, rv.ext ke⟩
      · intro y d' hy hl
        obtain ⟨v, hv, rv⟩ := r y d' hy
        have hyp : y ∈ ps := (List.of_mem_zip (PySem.mem_of_lookup hv)).1
        have hcell : sc.names.lookup y = some .cell := by
          rcases ownOk_spec hpo _ hyp with h | h
          · rw [h] at hl; rcases hl with q | q <;> cases q
          · exact h
        obtain ⟨c, hc⟩ := hcells y hcell
        have := C.cell y c hc
        rw [bindC_at _ _ _ _ _ hnd' hv (by show sc.names.lookup y ≠ _; rw [hcell]; decide)] at this
        exact ⟨c, v, hc, this, rv.ext ke⟩
      · intro y z c hy hz
        exact name_of_addr C.apart (PySem.mem_of_lookup hy) (PySem.mem_of_lookup hz)
      · intro y hy
        rcases ownOk_spec hws y hy with h | h
        · exact .inl h
        · obtain ⟨c, hc⟩ := hcells y h
          exact .inr ⟨h, c, _, hc, C.cell y c hc, nold' _ (Nat.le_of_lt (C.above y c (PySem.mem_of_lookup hc)))⟩
    obtain ⟨l, hl1, hl2⟩ := o.stk
    have hfr : (A.frames.map (envOfC x sc s.heap.objs.size a code :: ·)) = some (envOfC x sc s.heap.objs.size a code :: l) := by rw [hl1]; rfl
    refine hret _ _ l h₁ tk _ _ ⟨o.a.handled, ?_, ?_⟩ hfr rfl ⟨_, hfr, fun env' he' => ?_⟩ fw ke ⟨_, F.ns, fun y v hv hl => bindL_at _ _ _ _ _ hnd' hv hl⟩ (nold _ (Nat.le_refl _)) (fun b hb => ?_) fun v s' q => q
    · have := o.a.depth; show A.depth + 1 + n < _; omega
    · have := o.a.units; show A.units + 3 + 3 * n + 100 < _; omega
    · rcases List.mem_cons.mp he' with rfl | he'
      · refine ⟨by show sc.kind ≠ _; rw [hkind]; decide, _, rfl, ?_, ?_⟩
        · cases hq : g.H.get? s.heap.objs.size with
          | none => rfl
          | some oo => exact absurd (Heap.lt_size (o.base _ _ hq)) (Nat.lt_irrefl _)
        · obtain ⟨oo, es, ep, e1, e2, _⟩ := F.ns; exact ⟨oo, e1, es, ep, e2⟩
      · obtain ⟨h1, L, h2, h3, h4⟩ := hl2 env' he'; exact ⟨h1, L, h2, h3, ke.dictAt h4⟩
    · obtain ⟨oo, e, ho⟩ := o.xb b hb; exact ⟨oo, ke.seq ho e, ho⟩
end
end Mine
namespace Mine
open PySem PyProof.Rows PySem.Calls PySem.Spec

theorem ns_det {h : Heap} {a : Addr} {m m' : Str → Option Value} (x : h.Ns a m) (y : h.Ns a m') : m = m' := by
  obtain ⟨o, es, ep, e, d, _, r⟩ := x
  obtain ⟨o', es', ep', e', d', _, r'⟩ := y
  rw [e] at e'; cases e'
  rw [d] at d'; cases d'
  funext z
  rw [← r z, r' z]

/-- X and the frame's own lists -/
def Xo (X : Addr → Prop) (l : List Addr) : Addr → Prop := fun a => X a ∨ a ∈ l

/-- a name of the frame that bears an own list -/
structure Own (Y : Addr → Prop) (sc : Scope) (hb : Heap) (env : Env) (x : Str) (a : Addr) (ds : List PyData) (h : Heap) : Prop where
  loc : sc.names.lookup x = some .local
  nm : ∃ m, h.Ns env.locals m ∧ m x = some (.ref a)
  ls : ∃ vs, h.PlainList a vs ∧ RepAll Y h vs.toList ds
  new : ¬ Old hb a
  inY : Y a

section
variable {H : Heap} {Y : Addr → Prop} {sc : Scope} {ws : List Str} {hb : Heap} {env : Env} {σ : Sig} {prog : Program} {w : World} {A : Around} {E : Value → Shared → Prop} {s : Shared} {x : Str} {a : Addr} {ds : List PyData}

theorem Own.ext {h h' : Heap} (o : Own Y sc hb env x a ds h) (k : Ext H h h') : Own Y sc hb env x a ds h' :=
  ⟨o.loc, let ⟨m, n, e⟩ := o.nm; ⟨m, k.ns n, e⟩, let ⟨vs, p, r⟩ := o.ls; ⟨vs, k.plain p, r.ext k⟩, o.new, o.inY⟩
theorem Own.extB {hq h h' : Heap} (o : Own Y sc hb env x a ds h) (k : ExtB H hq h h') : Own Y sc hb env x a ds h' :=
  ⟨o.loc, let ⟨m, n, e⟩ := o.nm; ⟨m, k.ns n, e⟩, let ⟨vs, p, r⟩ := o.ls; ⟨vs, k.plain p, r.extB k⟩, o.new, o.inY⟩
theorem Own.name {pos : Pos} {Q : Value → Shared → Prop} (o : Own Y sc hb env x a ds s.heap) (e : EnvOK Y sc env s.heap σ) (hd : (x == ("__debug__" : Str)) = false) (q : Q (.ref a) s) : wpAny (model prog w) A (eval (.Name x pos) env) Q E s := by
  obtain ⟨m, hm, hv⟩ := o.nm
  exact wpAny_Name (wpAny_loadName_local (by rw [e.scope]; exact e.kind) (by rw [Env.kindOf, e.scope]; exact o.loc) hm hv q) hd
/-- another name is stored -/
theorem Own.stored {y : Str} {v : Value} {m : Str → Option Value} {h h' : Heap} (o : Own Y sc hb env x a ds h) (hne : x ≠ y) (hm : h.Ns env.locals m) (hm' : h'.Ns env.locals (fun z => if z = y then some v else m z)) (hs : Heap.SameBut env.locals h h') : Own Y sc hb env x a ds h' := by
  obtain ⟨m₀, h₀, e₀⟩ := o.nm
  obtain rfl := ns_det h₀ hm
  obtain ⟨oL, es, ep, hoL, hdL, _⟩ := id hm
  have keep : ∀ b o', SeqO o' → h.get? b = some o' → h'.get? b = some o' := fun b o' ho e => hs.extBut b o' (by rintro rfl; rw [hoL] at e; cases e; exact ho.hard.noDict ⟨_, _, hdL⟩) e
  refine ⟨o.loc, ⟨_, hm', by simp [hne, e₀]⟩, ?_, o.new, o.inY⟩
  obtain ⟨vs, ⟨k, p⟩, r⟩ := o.ls
  exact ⟨vs, ⟨k, keep _ _ ⟨_, _, rfl⟩ p⟩, r.mono (fun _ x => x) fun b o' _ ho e => keep b o' ho e⟩
/-- another own list turns -/
theorem Own.other {b : Addr} {h h' : Heap} (o : Own Y sc hb env x a ds h) (hne : a ≠ b) (hY : Y b) (hL : b ≠ env.locals) (hs : Heap.SameBut b h h') : Own Y sc hb env x a ds h' := by
  refine ⟨o.loc, let ⟨m, n, e⟩ := o.nm; ⟨m, n.sameBut hs (Ne.symm hL), e⟩, ?_, o.new, o.inY⟩
  obtain ⟨vs, ⟨k, p⟩, r⟩ := o.ls
  exact ⟨vs, ⟨k, hs.extBut _ _ hne p⟩, r.mono (fun _ x => x) fun c o' hc ho e => hs.extBut c o' (fun q => hc (q ▸ hY)) e⟩
/-- this list turns -/
theorem Own.turn {h h' : Heap} {vs' : Array Value} {ds' : List PyData} (o : Own Y sc hb env x a ds h) (hL : a ≠ env.locals) (hs : Heap.SameBut a h h') (hp : h'.PlainList a vs') (r : RepAll Y h vs'.toList ds') : Own Y sc hb env x a ds' h' :=
  ⟨o.loc, let ⟨m, n, e⟩ := o.nm; ⟨m, n.sameBut hs (Ne.symm hL), e⟩, ⟨vs', hp, r.mono (fun _ x => x) fun c o' hc ho e => hs.extBut c o' (fun q => hc (q ▸ o.inY)) e⟩, o.new, o.inY⟩
theorem Own.ne_loc {h : Heap} (o : Own Y sc hb env x a ds h) : a ≠ env.locals := by
  rintro rfl
  obtain ⟨m, ⟨oL, es, ep, hoL, hdL, _⟩, _⟩ := o.nm
  obtain ⟨vs, ⟨k, p⟩, _⟩ := o.ls
  rw [p] at hoL; cases hoL; cases hdL

/-- an own list turns: the frame stands -/
theorem FW.turnX {b : Addr} {h h' : Heap} (f : FW H Y sc ws hb env σ h) (hY : Y b) (hn : ¬ Old hb b) (hs : Heap.SameBut b h h') (hseq : ∃ o, h.get? b = some o ∧ SeqO o) : FW H Y sc ws hb env σ h' := by
  obtain ⟨ob, eb, sb⟩ := hseq
  have rk : ∀ {v' d'}, Rep Y h v' d' → Rep Y h' v' d' := fun r' => r'.mono (fun _ x => x) fun c o hc ho e => hs.extBut c o (fun q => hc (q ▸ hY)) e
  have hLne : env.locals ≠ b := by
    rintro rfl; obtain ⟨m, ⟨oL, es, ep, hoL, hdL, _⟩, _⟩ := f.ok.loc; rw [eb] at hoL; cases hoL; exact sb.hard.noDict ⟨_, _, hdL⟩
  have hcne : ∀ c' v', h.IsCell c' v' → c' ≠ b := by
    rintro c' v' ⟨o', e', d'⟩ rfl; rw [eb] at e'; cases e'; obtain ⟨xs, n, d⟩ := sb; rw [d] at d'; cases d'
  refine ⟨f.ext.turn f.base hs hn, f.base, ⟨f.ok.scope, f.ok.kind, f.ok.globals, f.ok.builtins, ?_, ?_, f.ok.apart⟩, f.loc, ?_⟩
  · obtain ⟨m, hm, hl⟩ := f.ok.loc
    exact ⟨m, hm.sameBut hs hLne, fun x d h1 h2 => let ⟨v, p, q⟩ := hl x d h1 h2; ⟨v, p, rk q⟩⟩
  · exact fun y d' hy hyl => let ⟨c', v', e1, e2, e3⟩ := f.ok.cell y d' hy hyl; ⟨c', v', e1, e2.sameBut hs (hcne _ _ e2), rk e3⟩
  · exact fun y hy => (f.wr y hy).imp id fun ⟨a, c', v', b, e, g⟩ => ⟨a, c', v', b, e.sameBut hs (hcne _ _ e), g⟩

/-- storing a local name, with what the store does -/
theorem FW.storeL {x : Str} {v : Value} {d : PyData} {Q : Unit → Shared → Prop} (f : FW H Y sc ws hb env σ s.heap) (hk : sc.names.lookup x = some .local) (r : Rep Y s.heap v d)
    (q : ∀ h' tk, (∀ D, Hk D s.heap h') → (∃ m, s.heap.Ns env.locals m ∧ h'.Ns env.locals (fun z => if z = x then some v else m z) ∧ Heap.SameBut env.locals s.heap h') → FW H Y sc ws hb env ((x, d) :: σ) h' → Q () { s with heap := h', toks := tk }) : wpAny (model prog w) A (storeName env x v) Q E s := by
  have hkind : env.scope.kind = .function := by rw [f.ok.scope]; exact f.ok.kind
  obtain ⟨m, hm, hv⟩ := f.ok.loc
  obtain ⟨oL, es, ep, hoL, hdL, hkL, hmL⟩ := id hm
  refine wpAny_storeName_local (by rw [Env.kindOf, f.ok.scope]; exact hk) hm (fun h' hn' hs' => ?_) (by rw [hkind]; rfl)
  have hard : ∀ D, Hk D s.heap h' := fun D => Hk.of_same hs' (fun o e ho => by rw [hoL] at e; cases e; exact ho.noDict ⟨_, _, hdL⟩) fun _ => by
    obtain ⟨o', es', ep', e', d', _⟩ := hn'; exact ⟨o', e', es', ep', d'⟩
  have rk : ∀ {v' d'}, Rep Y s.heap v' d' → Rep Y h' v' d' := fun r' => r'.mono (fun _ x => x) fun b o _ ho e => (hard (fun _ => False)).hard b o (fun q => q) (.inl ho) e
  have hcne : ∀ c' v', s.heap.IsCell c' v' → c' ≠ env.locals := by
    rintro c' v' ⟨o', e', d'⟩ rfl; rw [hoL] at e'; cases e'; rw [hdL] at d'; cases d'
  refine q h' _ hard ⟨m, hm, hn', hs'⟩ ⟨f.ext.turn f.base hs' f.loc, f.base, ⟨f.ok.scope, f.ok.kind, f.ok.globals, f.ok.builtins, ⟨_, hn', ?_⟩, ?_, f.ok.apart⟩, f.loc, ?_⟩
  · intro y d' hy hyl
    by_cases hyx : y = x
    · subst hyx
      rw [List.lookup_cons_self] at hy; cases hy
      exact ⟨v, by simp, rk r⟩
    · rw [lookup_cons_ne hyx] at hy
      obtain ⟨v', e1, e2⟩ := hv y d' hy hyl
      exact ⟨v', by simp [hyx, e1], rk e2⟩
  · intro y d' hy hyl
    have hyx : y ≠ x := by rintro rfl; rw [hk] at hyl; rcases hyl with q | q <;> cases q
    rw [lookup_cons_ne hyx] at hy
    obtain ⟨c', v', e1, e2, e3⟩ := f.ok.cell y d' hy hyl
    exact ⟨c', v', e1, e2.sameBut hs' (hcne _ _ e2), rk e3⟩
  · exact fun y hy => (f.wr y hy).imp id fun ⟨a, c', v', b, e, g⟩ => ⟨a, c', v', b, e.sameBut hs' (hcne _ _ e), g⟩

/-- storing a local name that then bears what σ says nothing of -/
theorem FW.storeO {x : Str} {v : Value} {Q : Unit → Shared → Prop} (f : FW H Y sc ws hb env σ s.heap) (hk : sc.names.lookup x = some .local) (hx : σ.lookup x = none)
    (q : ∀ h' tk, (∀ D, Hk D s.heap h') → (∃ m, s.heap.Ns env.locals m ∧ h'.Ns env.locals (fun z => if z = x then some v else m z) ∧ Heap.SameBut env.locals s.heap h') → FW H Y sc ws hb env σ h' → Q () { s with heap := h', toks := tk }) : wpAny (model prog w) A (storeName env x v) Q E s := by
  have hkind : env.scope.kind = .function := by rw [f.ok.scope]; exact f.ok.kind
  obtain ⟨m, hm, hv⟩ := f.ok.loc
  obtain ⟨oL, es, ep, hoL, hdL, hkL, hmL⟩ := id hm
  refine wpAny_storeName_local (by rw [Env.kindOf, f.ok.scope]; exact hk) hm (fun h' hn' hs' => ?_) (by rw [hkind]; rfl)
  have hard : ∀ D, Hk D s.heap h' := fun D => Hk.of_same hs' (fun o e ho => by rw [hoL] at e; cases e; exact ho.noDict ⟨_, _, hdL⟩) fun _ => by
    obtain ⟨o', es', ep', e', d', _⟩ := hn'; exact ⟨o', e', es', ep', d'⟩
  have rk : ∀ {v' d'}, Rep Y s.heap v' d' → Rep Y h' v' d' := fun r' => r'.mono (fun _ x => x) fun b o _ ho e => (hard (fun _ => False)).hard b o (fun q => q) (.inl ho) e
  have hcne : ∀ c' v', s.heap.IsCell c' v' → c' ≠ env.locals := by
    rintro c' v' ⟨o', e', d'⟩ rfl; rw [hoL] at e'; cases e'; rw [hdL] at d'; cases d'
  refine q h' _ hard ⟨m, hm, hn', hs'⟩ ⟨f.ext.turn f.base hs' f.loc, f.base, ⟨f.ok.scope, f.ok.kind, f.ok.globals, f.ok.builtins, ⟨_, hn', ?_⟩, ?_, f.ok.apart⟩, f.loc, ?_⟩
  · intro y d' hy hyl
    have hyx : y ≠ x := by rintro rfl; rw [hx] at hy; cases hy
    obtain ⟨v', e1, e2⟩ := hv y d' hy hyl
    exact ⟨v', by simp [hyx, e1], rk e2⟩
  · intro y d' hy hyl
    obtain ⟨c', v', e1, e2, e3⟩ := f.ok.cell y d' hy hyl
    exact ⟨c', v', e1, e2.sameBut hs' (hcne _ _ e2), rk e3⟩
  · exact fun y hy => (f.wr y hy).imp id fun ⟨a, c', v', b, e, g⟩ => ⟨a, c', v', b, e.sameBut hs' (hcne _ _ e), g⟩

/-- a fresh address may be counted among the own -/
theorem FW.avoid {c : Addr} {h : Heap} (f : FW H Y sc ws hb env σ h) (hc : h.objs.size ≤ c) : FW H (fun b => Y b ∨ b = c) sc ws hb env σ h := by
  have rk : ∀ {v' d'}, Rep Y h v' d' → Rep (fun b => Y b ∨ b = c) h v' d' := fun r' => RepW.mono (RepW.low r' hc) (fun b hb => hb.elim .inl fun q => .inr (Nat.le_of_eq q.symm)) fun _ _ _ _ e => e
  refine ⟨f.ext, f.base, ⟨f.ok.scope, f.ok.kind, f.ok.globals, f.ok.builtins, ?_, ?_, f.ok.apart⟩, f.loc, f.wr⟩
  · obtain ⟨m, hm, hl⟩ := f.ok.loc
    exact ⟨m, hm, fun x d h1 h2 => let ⟨v, p, q⟩ := hl x d h1 h2; ⟨v, p, rk q⟩⟩
  · exact fun y d' hy hyl => let ⟨c', v', e1, e2, e3⟩ := f.ok.cell y d' hy hyl; ⟨c', v', e1, e2, rk e3⟩
theorem Own.avoid {c : Addr} {h : Heap} (o : Own Y sc hb env x a ds h) (hc : h.objs.size ≤ c) : Own (fun b => Y b ∨ b = c) sc hb env x a ds h :=
  ⟨o.loc, o.nm, let ⟨vs, p, r⟩ := o.ls; ⟨vs, p, rep_avoid r hc⟩, o.new, .inl o.inY⟩
end
end Mine
namespace Mine
open PySem PyProof.Rows PySem.Calls PySem.Spec

/-- a local name was stored, and nothing else -/
def Stored (env : Env) (x : Str) (h h' : Heap) : Prop := ∃ m v, h.Ns env.locals m ∧ h'.Ns env.locals (fun z => if z = x then some v else m z) ∧ Heap.SameBut env.locals h h'
theorem Stored.hard {env : Env} {x : Str} {h h' : Heap} (k : Stored env x h h') : ∀ b o, Hard o → h.get? b = some o → h'.get? b = some o := by
  obtain ⟨m, v, ⟨oL, es, ep, hoL, hdL, _⟩, _, hs⟩ := k
  exact fun b o ho e => hs.extBut b o (by rintro rfl; rw [hoL] at e; cases e; exact ho.noDict ⟨_, _, hdL⟩) e
theorem Stored.dict {env : Env} {x : Str} {h h' : Heap} (k : Stored env x h h') : ∀ L, DictAt h L → DictAt h' L := by
  obtain ⟨m, v, _, ⟨o', es', ep', e', d', _⟩, hs⟩ := k
  intro L d
  by_cases hL : L = env.locals
  · subst hL; exact ⟨o', e', es', ep', d'⟩
  · obtain ⟨o, e, q⟩ := d; exact ⟨o, hs.extBut L o hL e, q⟩
theorem Stored.old {env : Env} {x : Str} {h h' : Heap} (k : Stored env x h h') : ∀ b, Old h b → Old h' b := by
  obtain ⟨m, v, _, ⟨o', es', ep', e', d', _⟩, hs⟩ := k
  intro b ⟨o, e⟩
  by_cases hL : b = env.locals
  · subst hL; exact ⟨o', e'⟩
  · exact ⟨o, hs.extBut b o hL e⟩
theorem Own.st {Y : Addr → Prop} {sc : Scope} {hb : Heap} {env : Env} {x y : Str} {a : Addr} {ds : List PyData} {h h' : Heap} (o : Own Y sc hb env x a ds h) (hne : x ≠ y) (k : Stored env y h h') : Own Y sc hb env x a ds h' :=
  let ⟨_, _, h1, h2, h3⟩ := k; o.stored hne h1 h2 h3

def skipTo (xs : List Int) (c : Int) (i : Nat) : Nat := i + ((xs.drop i).takeWhile (· == c)).length
theorem skipTo_hit {xs : List Int} {c : Int} {i : Nat} (h : xs[i]? = some c) : skipTo xs c i = skipTo xs c (i + 1) := by
  obtain ⟨hi, rfl⟩ := List.getElem?_eq_some_iff.mp h
  unfold skipTo
  rw [List.drop_eq_getElem_cons hi, List.takeWhile_cons_of_pos (by simp)]
  simp only [List.length_cons]; omega
theorem skipTo_miss {xs : List Int} {c x : Int} {i : Nat} (h : xs[i]? = some x) (hx : (x == c) = false) : skipTo xs c i = i := by
  obtain ⟨hi, rfl⟩ := List.getElem?_eq_some_iff.mp h
  unfold skipTo
  rw [List.drop_eq_getElem_cons hi, List.takeWhile_cons_of_neg (by simp [hx])]
  rfl
theorem skipTo_end {xs : List Int} {c : Int} {i : Nat} (h : xs.length ≤ i) : skipTo xs c i = i := by
  unfold skipTo; rw [List.drop_eq_nil_of_le h]; rfl

section
variable {H : Heap} {Y : Addr → Prop} {sc : Scope} {ws : List Str} {hb : Heap} {env : Env} {σ : Sig} {prog : Program} {w : World} {A : Around} {E : Value → Shared → Prop} {s : Shared}

/-- k += c -/
theorem fw_incL {kx : Str} {p1 p2 pos : Pos} {kk : Nat} {i c : Int} {Q : Flow → Shared → Prop} (f : FW H Y sc ws hb env ((kx, .int i) :: σ) s.heap) (hk : sc.names.lookup kx = some .local)
    (q : ∀ h' tk, Stored env kx s.heap h' → FW H Y sc ws hb env ((kx, .int (i + c)) :: σ) h' → Q .next { s with heap := h', toks := tk }) :
    wpAny (model prog w) A (exec (.AugAssign (.Name kx p1) .Add (.Constant (.int c) kk p2) pos) env) Q E s := by
  obtain ⟨m, hm, hl⟩ := f.ok.loc
  obtain ⟨v, hv, r⟩ := hl kx _ List.lookup_cons_self hk
  obtain ⟨t, rfl⟩ := r.int_inv
  refine wpAny_AugAssign_Name (wpAny_loadName_local (by rw [f.ok.scope]; exact f.ok.kind) (by rw [Env.kindOf, f.ok.scope]; exact hk) hm hv ?_)
  refine wpAny_mkInt (PyProof.Rows.iadd_int ?_)
  refine FW.storeL (s := { s with toks := _ }) f hk (.int (i + c) _) fun h' tk k hs f' => q h' tk ?_ (f'.sub fun y d hy => ?_)
  · obtain ⟨m, h1, h2, h3⟩ := hs; exact ⟨m, _, h1, h2, h3⟩
  · by_cases hyx : y = kx
    · subst hyx; rw [List.lookup_cons_self] at hy ⊢; exact hy
    · rw [lookup_cons_ne hyx] at hy ⊢; rw [lookup_cons_ne hyx]; exact hy

theorem skip_loop {lx kx vx : Str} {p1 p2 p3 p4 p5 p6 p7 p8 pos : Pos} {kk : Nat} {xs : List Int} {c : Int} {i : Nat} {L : Addr} {outer : List Env} {Q : Flow → Shared → Prop}
    (P : Heap → Prop) (hP : ∀ h h', P h → Stored env kx h h' → P h') (hPA : ∀ h, P h → HdOK A h ∧ Stk H A h)
    (f : FW H Y sc ws hb env ((kx, .int i) :: σ) s.heap) (p : P s.heap) (n1 : nameOk sc lx = true) (n2 : nameOk sc kx = true) (n3 : nameOk sc vx = true) (hk : sc.names.lookup kx = some .local)
    (h1 : σ.lookup lx = some (eL .int xs)) (h2 : σ.lookup vx = some (.int c)) (hne1 : lx ≠ kx) (hne2 : vx ≠ kx) (hi : i ≤ xs.length) (hlen : (xs.length : Int) < 2 ^ 62)
    (hfr : A.frames = some (env :: outer)) (hf : env.frame = some L)
    (q1 : ∀ h' tk, skipTo xs c i < xs.length → FW H Y sc ws hb env ((kx, .int (skipTo xs c i : Nat)) :: σ) h' → P h' → Q .next { s with heap := h', toks := tk })
    (q2 : skipTo xs c i = xs.length → ∀ h₁ h' tk e cx, FW H Y sc ws hb env ((kx, .int (xs.length : Nat)) :: σ) h₁ → P h₁ → Ext H h₁ h' → Exc H h₁ e "IndexError" cx (some (rawInt L)) h' → (A.handled = none → cx = .none) →
      E (.ref e) { s with heap := h', toks := tk }) :
    wpAny (model prog w) A (exec (.While (.Compare (.Subscript (.Name lx p1) (.Name kx p2) p3) [.Eq] [.Name vx p4] p5) [.AugAssign (.Name kx p6) .Add (.Constant (.int 1) kk p7) p8] [] pos) env) Q E s := by
  refine wpAny_While (codeAny_whileLoop (fun n s' => ∃ (j : Nat) (h : Heap) (tk : Nat), s' = { s with heap := h, toks := tk } ∧ FW H Y sc ws hb env ((kx, .int (j : Nat)) :: σ) h ∧ P h ∧ j ≤ xs.length ∧ skipTo xs c j = skipTo xs c i ∧ n = xs.length - j) ?_ (xs.length - i) ⟨i, s.heap, s.toks, rfl, f, p, hi, rfl, rfl⟩)
  rintro n s' ⟨j, h, tk, rfl, fj, pj, hj, hsk, rfl⟩
  have l1 : ((kx, PyData.int (j : Nat)) :: σ).lookup lx = some (eL .int xs) := by rw [lookup_cons_ne hne1]; exact h1
  have l2 : ((kx, PyData.int (j : Nat)) :: σ).lookup kx = some (.int (j : Nat)) := List.lookup_cons_self
  have l3 : ((kx, PyData.int (j : Nat)) :: σ).lookup vx = some (.int c) := by rw [lookup_cons_ne hne2]; exact h2
  refine wpAny_isTrue_Compare1 (fw_item (i := j) fj (hPA h pj).1 n1 n2 l1 l2 (by omega) (fun x t hx => ?_) fun hout h₂ tk₂ e cx k₂ x₂ hcx => ?_) (by rfl)
  · refine fw_name fj.ok n3 l3 fun u r => ?_
    obtain ⟨t', rfl⟩ := r.int_inv
    refine PyProof.Rows.eq_int (wpAny_truthy_bool ?_)
    cases hb' : (x == c) with
    | true =>
      rw [if_pos rfl]
      obtain rfl : x = c := by simpa using hb'
      refine wpAny_execs_cons (fw_incL (c := 1) fj hk fun h' tk' st f' => wpAny_execs_nil ?_)
      have hj' := (List.getElem?_eq_some_iff.mp hx).1
      exact ⟨xs.length - (j + 1), by omega, j + 1, h', tk', rfl, by simpa using f', hP _ _ pj st, by omega, (skipTo_hit hx).symm.trans hsk, rfl⟩
    | false =>
      rw [if_neg (by decide)]
      have hj' := (List.getElem?_eq_some_iff.mp hx).1
      have hs := skipTo_miss hx hb'
      rw [hs] at hsk
      exact wpAny_execs_nil (q1 h _ (by omega) (by rw [← hsk]; exact fj) pj)
  · have hjl : j = xs.length := by omega
    subst hjl
    have hs := skipTo_end (xs := xs) (c := c) (Nat.le_refl _)
    rw [hs] at hsk
    show wpAny _ A (noteFrame (.ref e) env) _ _ _
    have k₂' : Ext H h h₂ := Ext.of k₂
    refine exc_note_first hfr ((hPA h pj).2.mono fun _ d => k₂'.dictAt d) hf x₂ (fun b o => o.ext k₂') fun h₃ k₃ x₃ => ?_
    refine exc_back hf x₃ fun h₄ k₄ x₄ => ?_
    exact q2 hsk.symm h h₄ tk₂ e cx fj pj (k₂'.extB (fun _ o => o) (k₃.trans k₄)) x₄ hcx
end
end Mine
namespace Mine
open PySem PyProof.Rows PySem.Calls PySem.Spec

section
variable {H : Heap} {Y : Addr → Prop} {sc : Scope} {ws : List Str} {hb : Heap} {env : Env} {σ : Sig} {prog : Program} {w : World} {A : Around} {E : Value → Shared → Prop} {s : Shared} {x : Str} {a : Addr} {ds : List PyData}

theorem Own.seqo {h : Heap} (o : Own Y sc hb env x a ds h) : ∃ ob, h.get? a = some ob ∧ SeqO ob := let ⟨vs, ⟨n, p⟩, _⟩ := o.ls; ⟨_, p, _, _, rfl⟩
theorem Own.len {h : Heap} (o : Own Y sc hb env x a ds h) : ∃ vs n, IsL h a vs n ∧ vs.size = ds.length ∧ RepAll Y h vs.toList ds := by
  obtain ⟨vs, ⟨n, p⟩, r⟩ := o.ls
  exact ⟨vs, n, p, by simpa using r.length, r⟩
theorem method_list {name : Str} {id : String} {pos : Pos} {args : List (Bool × Sem Value)} {Q : Value → Shared → Prop} {vs : Array Value} {n : Nat} (slot : Slot "list" name id) (ty : typeOf (.builtin id) = pure (.type "method_descriptor"))
    (hl : IsL s.heap a vs n) (h : wpAny (model prog w) A (callWith pos (.builtin id) [.ref a] args []) Q E s) : MethodOnS prog w A E name (.ref a) pos args Q s :=
  ⟨"list", id, F.plainAttrs_list, slot, ty, ⟨_, hl, rfl⟩, fun b e => by cases e; exact ⟨_, hl, rfl⟩, h⟩

/-- x.append(v) -/
theorem own_append {v : Str} {d : PyData} {p1 p2 p3 p4 pos : Pos} {Q : Flow → Shared → Prop} (f : FW H Y sc ws hb env σ s.heap) (o : Own Y sc hb env x a ds s.heap) (hx : (x == ("__debug__" : Str)) = false)
    (n1 : nameOk sc v = true) (h1 : σ.lookup v = some d) (hsz : ds.length < sizeLine) (hline : (p2.endLine == p4.line) = true)
    (hbase : attributeBase (.Name x p1) (Str.ofString "append") env (eval (.Name x p1) env) = eval (.Name x p1) env) (hint : interactive env = false) (hsw : swapsWith (.Call (.Attribute (.Name x p1) (Str.ofString "append") p2) [.Name v p3] [] p4) none pos.line env = pure false)
    (q : ∀ h', Heap.SameBut a s.heap h' → FW H Y sc ws hb env σ h' → Own Y sc hb env x a (ds ++ [d]) h' → Q .next { s with heap := h' }) :
    wpAny (model prog w) A (exec (.Expr (.Call (.Attribute (.Name x p1) (Str.ofString "append") p2) [.Name v p3] [] p4) pos) env) Q E s := by
  obtain ⟨vs, n, hl, hlen, r⟩ := o.len
  refine wpAny_Expr (Call_method1 hbase (by rfl) hline (o.name f.ok hx (method_list F.slot_list_append F.type_list_append hl (P.append_list (fw_name f.ok n1 h1 fun u ru => ⟨vs, n, by omega, hl, ?_⟩))))) hint hsw
  have hs : Heap.SameBut a s.heap (s.heap.update a (Obj.mapSeq fun xs => xs.push u)) := Heap.SameBut.update ..
  refine q _ hs (f.turnX o.inY o.new hs o.seqo) (o.turn (vs' := vs.push u) o.ne_loc hs ⟨_, hl.update _⟩ ?_)
  rw [Array.toList_push]
  exact r.append (.cons ru .nil)

/-- x.extend(l[k:]) -/
theorem own_extend {lx kx : Str} {xs : List Int} {i : Nat} {p1 p2 p3 p4 p5 p6 p7 pos : Pos} {Q : Flow → Shared → Prop} (f : FW H Y sc ws hb env σ s.heap) (o : Own Y sc hb env x a ds s.heap) (hx : (x == ("__debug__" : Str)) = false)
    (n1 : nameOk sc lx = true) (n2 : nameOk sc kx = true) (h1 : σ.lookup lx = some (eL .int xs)) (h2 : σ.lookup kx = some (.int i)) (hi : i ≤ xs.length) (hsz : ds.length + xs.length < sizeLine) (hline : (p2.endLine == p7.line) = true)
    (hbase : attributeBase (.Name x p1) (Str.ofString "extend") env (eval (.Name x p1) env) = eval (.Name x p1) env) (hint : interactive env = false)
    (hsw : swapsWith (.Call (.Attribute (.Name x p1) (Str.ofString "extend") p2) [.Subscript (.Name lx p3) (.Slice (some (.Name kx p4)) none none p5) p6] [] p7) none pos.line env = pure false)
    (q : ∀ h₁ h', Ext H s.heap h₁ → Heap.SameBut a h₁ h' → FW H Y sc ws hb env σ h' → Own Y sc hb env x a (ds ++ (xs.drop i).map .int) h' → Q .next { s with heap := h' }) :
    wpAny (model prog w) A (exec (.Expr (.Call (.Attribute (.Name x p1) (Str.ofString "extend") p2) [.Subscript (.Name lx p3) (.Slice (some (.Name kx p4)) none none p5) p6] [] p7) pos) env) Q E s := by
  obtain ⟨vs, n, hl, hlen, r⟩ := o.len
  refine wpAny_Expr (Call_method1 hbase (by rfl) hline (o.name f.ok hx (method_list F.slot_list_extend F.type_list_extend hl (P.extend_list ?_)))) hint hsw
  refine Subscript_ (fw_name f.ok n1 h1 fun v r₁ => wpAny_Slice (fw_name f.ok n2 h2 fun u r₂ => ?_))
  obtain ⟨t, rfl⟩ := r₂.int_inv
  obtain ⟨b, us, rfl, hxb, hlb, ra⟩ := Rep.list_inv r₁
  have hlenb := ra.length
  simp only [Array.length_toList, List.length_map] at hlenb
  rw [evalPart_none]
  refine wpAny_pure (wpAny_pure ?_)
  refine tail_any (hlb.push _).typeIs slot_list_getitem.lookup (wpAny_getItem_list_slice (hlb.push _) (Heap.IsSliceOf.new ..) (.int _ _) .none .none (by simp) ?_ (by omega)) (by rfl)
  generalize hH : s.heap.push { cls := .type "slice", data := .fields #[.int (i : Int) t, .none, .none] } = G
  have e1 : XExt s.heap G := hH ▸ XExt.push _ _
  have e2 : XExt s.heap (G.push { cls := .type "list", data := .seq (slicePick us (some (i : Int)) none none) }) := fun b o e => XExt.push _ _ _ _ (e1 b o e)
  have hne : a ≠ G.objs.size := fun q => by have := Heap.lt_size (e1 _ _ hl); rw [q] at this; exact Nat.lt_irrefl _ this
  have hpk : (slicePick us (some (i : Int)) none none).toList = us.toList.drop i := by
    rw [slicePick_plain]
    have hc : clipAt us.size (i : Int) = i := by unfold clipAt; rw [if_neg (by omega)]; omega
    show ((us.toList.drop (clipAt us.size (i : Int))).take (us.size - clipAt us.size (i : Int))) = _
    rw [hc]
    exact List.take_of_length_le (by rw [List.length_drop, Array.length_toList]; exact Nat.le_refl _)
  have hsl : (slicePick us (some (i : Int)) none none).size ≤ xs.length := by
    rw [← Array.length_toList, hpk, List.length_drop, Array.length_toList]; omega
  have hl' : IsL (G.push { cls := .type "list", data := .seq (slicePick us (some (i : Int)) none none) }) a vs n := e2 _ _ hl
  refine ⟨_, vs, slicePick us (some (i : Int)) none none, n, 0, by omega, by omega, ?_, rfl, hl', Heap.get?_push_size _ rfl, ?_⟩
  · exact extend_door (by omega)
  · have f' := f.ext' (Ext.of e2)
    have o' := o.ext (H := H) (Ext.of e2)
    have hs : Heap.SameBut a (G.push { cls := .type "list", data := .seq (slicePick us (some (i : Int)) none none) }) ((G.push { cls := .type "list", data := .seq (slicePick us (some (i : Int)) none none) }).update a (Obj.mapSeq fun xs => xs ++ slicePick us (some (i : Int)) none none)) := Heap.SameBut.update ..
    refine q _ _ (Ext.of e2) hs (f'.turnX o.inY o.new hs o'.seqo) (o'.turn (vs' := vs ++ slicePick us (some (i : Int)) none none) o'.ne_loc hs ⟨_, hl'.update _⟩ ?_)
    rw [Array.toList_append, hpk]
    refine (r.xext e2).append ?_
    rw [List.map_drop]
    exact (RepAll.drop i ra).xext e2
end
end Mine
namespace Mine
open PySem PyProof.Rows PySem.Calls PySem.Spec
open AutoSeq1 (wpAny_loadPart')

theorem removeAt_loop (l : Addr) (items : Array Value) (n : Nat) (x : Value) (e : Value → Bool) (j : Nat) (hj : j < items.size) (hit : e items[j] = true) (k : Nat) (hs1 : items.size ≤ sizeLine) :
    ∀ i : Nat, j - i = k → i ≤ j → (∀ m (hm : m < items.size), i ≤ m → m < j → e items[m] = false) → Meets (Builtin.«list.remove.loop» ⟨[.ref l, x, rawInt i], []⟩)
      (fun A R s => s.heap.get? l = some { cls := .type "list", dict := none, data := .seq items n, slots := #[] } ∧ (∀ y, y ∈ items → SeqAt.EqAt A.in1 s y x (e y)) ∧ R (.ok (.ret .none)) { s with heap := s.heap.update l (Obj.mapSeq fun xs => xs.eraseIdxIfInBounds j) }) := by
  induction k with
  | zero =>
    intro i hk hij hno prog w A R s h
    obtain ⟨hp, g, d, tk, os⟩ := s; obtain ⟨hl, he, h⟩ := h
    have hij' : i = j := by omega
    subst hij'
    wp_walk using wpAny_loadPart' hl
    have hi : items[((i : Nat) : Int).toNat]? = some items[i] := by simp [hj]
    rw [hi]
    refine wpAny_bind (he _ (Array.getElem_mem hj) prog w _ _ ?_)
    rw [hit]
    have hz' : (items.eraseIdxIfInBounds i).size ≤ sizeLine + 1 := Nat.le_trans (MeetsSeq.size_erased items _) (Nat.le_succ_of_le hs1)
    wp_walk using (wpAny_updateSeq hl rfl (hz := hs1) (_hz' := hz')), wpAny_loadPart' hl
    simpa using h
  | succ k ih =>
    intro i hk hij hno prog w A R s h
    obtain ⟨hp, g, d, tk, os⟩ := s; obtain ⟨hl, he, h⟩ := h
    have hlt : i < items.size := by omega
    wp_walk using wpAny_loadPart' hl
    have hi : items[((i : Nat) : Int).toNat]? = some items[i] := by simp [hlt]
    have hc : ((i : Int) + 1) = ((i + 1 : Nat) : Int) := by push_cast; rfl
    rw [hi]
    refine wpAny_bind (he _ (Array.getElem_mem hlt) prog w _ _ ?_)
    rw [hno i hlt (Nat.le_refl _) (by omega)]
    wp_walk
    rw [hc]
    exact ⟨plainId_quiet MeetsSeq.plain_remove_loop _, codeAny_builtin MeetsSeq.entry_remove_loop (by
      rw [Around.under_plainId MeetsSeq.plain_remove_loop _]
      exact ih (i + 1) (by omega) (by omega) (fun m hm h1 h2 => hno m hm (by omega) h2) prog w A R _ ⟨hl, he, h⟩)⟩
theorem removeAt (l : Addr) (items : Array Value) (n : Nat) (x : Value) (e : Value → Bool) (j : Nat) (hj : j < items.size) (hit : e items[j] = true) (hno : ∀ m (hm : m < items.size), m < j → e items[m] = false) (hs1 : items.size ≤ sizeLine) :
    Meets (Builtin.«list.remove» ⟨[.ref l, x], []⟩)
      (fun A R s => s.heap.get? l = some { cls := .type "list", dict := none, data := .seq items n, slots := #[] } ∧ (∀ y, y ∈ items → SeqAt.EqAt A.in1 s y x (e y)) ∧ R (.ok (.ret .none)) { s with heap := s.heap.update l (Obj.mapSeq fun xs => xs.eraseIdxIfInBounds j) }) := by
  intro prog w A R s h
  obtain ⟨hp, g, d, tk, os⟩ := s; obtain ⟨hl, he, h⟩ := h
  wp_walk using wpAny_loadPart' hl
  exact ⟨plainId_quiet MeetsSeq.plain_remove_loop _, codeAny_builtin MeetsSeq.entry_remove_loop (by
    rw [Around.under_plainId MeetsSeq.plain_remove_loop _]
    exact removeAt_loop l items n x e j hj hit _ hs1 0 rfl (Nat.zero_le _) (fun m hm _ h2 => hno m hm h2) prog w A R _ ⟨hl, he, h⟩)⟩
theorem removeNo_loop (l : Addr) (items : Array Value) (n : Nat) (x : Value) (e : Value → Bool) (hno : ∀ m (hm : m < items.size), e items[m] = false) (k : Nat) :
    ∀ i : Nat, items.size - i = k → Meets (Builtin.«list.remove.loop» ⟨[.ref l, x, rawInt i], []⟩)
      (fun A R s => s.heap.get? l = some { cls := .type "list", dict := none, data := .seq items n, slots := #[] } ∧ (∀ y, y ∈ items → SeqAt.EqAt A.in1 s y x (e y)) ∧ raisesNew "ValueError" A R s) := by
  induction k with
  | zero =>
    intro i hk prog w A R s h
    obtain ⟨hp, g, d, tk, os⟩ := s; obtain ⟨hl, he, h⟩ := h
    wp_walk using wpAny_loadPart' hl
    have hi : items[((i : Nat) : Int).toNat]? = none := by simp; omega
    rw [hi]
    wp_walk
    exact_raiseError plainExc_ValueError h.1 h.2
  | succ k ih =>
    intro i hk prog w A R s h
    obtain ⟨hp, g, d, tk, os⟩ := s; obtain ⟨hl, he, h⟩ := h
    have hlt : i < items.size := by omega
    wp_walk using wpAny_loadPart' hl
    have hi : items[((i : Nat) : Int).toNat]? = some items[i] := by simp [hlt]
    have hc : ((i : Int) + 1) = ((i + 1 : Nat) : Int) := by push_cast; rfl
    rw [hi]
    refine wpAny_bind (he _ (Array.getElem_mem hlt) prog w _ _ ?_)
    rw [hno i hlt]
    wp_walk
    rw [hc]
    exact ⟨plainId_quiet MeetsSeq.plain_remove_loop _, codeAny_builtin MeetsSeq.entry_remove_loop (by
      rw [Around.under_plainId MeetsSeq.plain_remove_loop _]
      exact ih (i + 1) (by omega) prog w A R _ ⟨hl, he, h⟩)⟩
theorem removeNo (l : Addr) (items : Array Value) (n : Nat) (x : Value) (e : Value → Bool) (hno : ∀ m (hm : m < items.size), e items[m] = false) :
    Meets (Builtin.«list.remove» ⟨[.ref l, x], []⟩)
      (fun A R s => s.heap.get? l = some { cls := .type "list", dict := none, data := .seq items n, slots := #[] } ∧ (∀ y, y ∈ items → SeqAt.EqAt A.in1 s y x (e y)) ∧ raisesNew "ValueError" A R s) := by
  intro prog w A R s h
  obtain ⟨hp, g, d, tk, os⟩ := s; obtain ⟨hl, he, h⟩ := h
  wp_walk using wpAny_loadPart' hl
  exact ⟨plainId_quiet MeetsSeq.plain_remove_loop _, codeAny_builtin MeetsSeq.entry_remove_loop (by
    rw [Around.under_plainId MeetsSeq.plain_remove_loop _]
    exact removeNo_loop l items n x e hno _ 0 rfl prog w A R _ ⟨hl, he, h⟩)⟩

theorem RepAll.eraseIdx {X : Addr → Prop} {h : Heap} : ∀ {vs : List Value} {ds : List PyData} (k : Nat), RepAll X h vs ds → RepAll X h (vs.eraseIdx k) (ds.eraseIdx k)
  | [], _, k, r => by cases r; simp only [List.eraseIdx_nil]; exact .nil
  | v :: vs, _, 0, r => by cases r with | cons a r => exact r
  | v :: vs, _, k + 1, r => by cases r with | cons a r => exact .cons a (RepAll.eraseIdx k r)
theorem idxOf_le {α : Type} [DecidableEq α] {c : α} : ∀ {ys : List α} {m : Nat}, ys[m]? = some c → ys.idxOf c ≤ m
  | [], m, h => by simp at h
  | y :: ys, 0, h => by
    have : y = c := by simpa using h
    subst this; simp
  | y :: ys, m + 1, h => by
    have := idxOf_le (ys := ys) (m := m) (by simpa using h)
    rw [List.idxOf_cons]
    cases hb : (y == c) <;> simp only [cond_false, cond_true] <;> omega
theorem eraseIdx_map' {α β : Type} (f : α → β) : ∀ (ys : List α) (k : Nat), (ys.map f).eraseIdx k = (ys.eraseIdx k).map f
  | [], k => by simp
  | y :: ys, 0 => by simp
  | y :: ys, k + 1 => by simp [eraseIdx_map' f ys k]
theorem toList_eraseIdxIf (xs : Array Value) (k : Nat) : (xs.eraseIdxIfInBounds k).toList = xs.toList.eraseIdx k := by
  unfold Array.eraseIdxIfInBounds
  split
  · rw [Array.toList_eraseIdx]
  · next h => rw [List.eraseIdx_of_length_le (by rw [Array.length_toList]; omega)]

section
variable {H : Heap} {Y : Addr → Prop} {sc : Scope} {ws : List Str} {hb : Heap} {env : Env} {σ : Sig} {prog : Program} {w : World} {A : Around} {E : Value → Shared → Prop} {s : Shared} {x : Str} {a : Addr} {ds : List PyData}

/-- x.pop() -/
theorem own_pop {d : PyData} {p1 p2 p4 : Pos} {Q : Value → Shared → Prop} (f : FW H Y sc ws hb env σ s.heap) (o : Own Y sc hb env x a (ds ++ [d]) s.heap) (hx : (x == ("__debug__" : Str)) = false)
    (hsz : ds.length < sizeLine) (hline : (p2.endLine == p4.line) = true)
    (hbase : attributeBase (.Name x p1) (Str.ofString "pop") env (eval (.Name x p1) env) = eval (.Name x p1) env)
    (q : ∀ v h', Heap.SameBut a s.heap h' → FW H Y sc ws hb env σ h' → Own Y sc hb env x a ds h' → Rep Y h' v d → Q v { s with heap := h' }) :
    wpAny (model prog w) A (eval (.Call (.Attribute (.Name x p1) (Str.ofString "pop") p2) [] [] p4) env) Q E s := by
  obtain ⟨vs, n, hl, hlen, r⟩ := o.len
  rw [List.length_append] at hlen
  simp only [List.length_cons, List.length_nil] at hlen
  obtain ⟨v, hv, rv⟩ := r.get (i := ds.length) (d := d) (by simp)
  refine Call_method0 hbase hline (o.name f.ok hx (method_list F.slot_list_pop F.type_list_pop hl (P.pop_list (y := v) hl (by rw [hlen]; simpa using hv) ?_ (by omega))))
  have hs : Heap.SameBut a s.heap (s.heap.update a (Obj.mapSeq fun xs => xs.eraseIdxIfInBounds (vs.size - 1))) := Heap.SameBut.update ..
  refine q v _ hs (f.turnX o.inY o.new hs o.seqo) (o.turn (vs' := vs.eraseIdxIfInBounds (vs.size - 1)) o.ne_loc hs ⟨_, hl.update _⟩ ?_) (rv.mono (fun _ x => x) fun c o' hc ho e => hs.extBut c o' (fun q => hc (q ▸ o.inY)) e)
  rw [toList_eraseIdxIf]
  have := RepAll.eraseIdx (vs.size - 1) r
  have e : (ds ++ [d]).eraseIdx (vs.size - 1) = ds := by
    rw [hlen, List.eraseIdx_append_of_length_le (by omega)]
    simp
  rw [e] at this; exact this

theorem first_at {α : Type} [DecidableEq α] {vs : Array Value} {ys : List α} {t : Value → Bool} {x : α} (h : vs.toList.map t = ys.map fun y => decide (y = x)) (m : Nat) (hm : m < vs.size) : ∃ y, ys[m]? = some y ∧ t vs[m] = decide (y = x) := by
  have e := congrArg (fun l => l[m]?) h
  simp only [List.getElem?_map] at e
  rw [Array.getElem?_toList, Array.getElem?_eq_getElem hm] at e
  simp only [Option.map_some] at e
  obtain ⟨y, hy, he⟩ := Option.map_eq_some_iff.mp e.symm
  exact ⟨y, hy, he.symm⟩

/-- x.remove(v) -/
theorem own_remove {α : Type} [DecidableEq α] {enc : α → PyData} {k : Nat} (hen : Enc enc k) (hk : k ≤ 60) {v : Str} {c : α} {ys : List α} {p1 p2 p3 p4 pos : Pos} {Q : Flow → Shared → Prop} (f : FW H Y sc ws hb env σ s.heap) (o : Own Y sc hb env x a (ys.map enc) s.heap) (hx : (x == ("__debug__" : Str)) = false)
    (hA : A.handled = none) (hu : A.units + 100 < cLine)
    (n1 : nameOk sc v = true) (h1 : σ.lookup v = some (enc c)) (hsz : ys.length < sizeLine) (hline : (p2.endLine == p4.line) = true)
    (hbase : attributeBase (.Name x p1) (Str.ofString "remove") env (eval (.Name x p1) env) = eval (.Name x p1) env) (hint : interactive env = false) (hsw : swapsWith (.Call (.Attribute (.Name x p1) (Str.ofString "remove") p2) [.Name v p3] [] p4) none pos.line env = pure false)
    (q1 : c ∈ ys → ∀ h', Heap.SameBut a s.heap h' → FW H Y sc ws hb env σ h' → Own Y sc hb env x a ((ys.erase c).map enc) h' → Q .next { s with heap := h' })
    (q2 : c ∉ ys → ∀ h' tk e, Heap.NewExc s.heap h' e "ValueError" → E (.ref e) { s with heap := h', toks := tk }) :
    wpAny (model prog w) A (exec (.Expr (.Call (.Attribute (.Name x p1) (Str.ofString "remove") p2) [.Name v p3] [] p4) pos) env) Q E s := by
  obtain ⟨vs, n, hl, hlen, r⟩ := o.len
  rw [List.length_map] at hlen
  refine wpAny_Expr (Call_method1 hbase (by rfl) hline (o.name f.ok hx (method_list F.slot_list_remove F.type_list_remove hl (seqMethod1_meets F.slot_list_remove F.entry_list_remove (fw_name f.ok n1 h1 fun u ru => ?_))))) hint hsw
  obtain ⟨t, e1, e2⟩ := any_of_rep hen (A := A) (by omega) (by omega) ru r
  refine ⟨⟨_, hl, rfl⟩, F.args_list_remove_2 _ _, ?_⟩
  by_cases hc : c ∈ ys
  · have hj : ys.idxOf c < vs.size := by rw [hlen]; exact List.idxOf_lt_length_iff.mpr hc
    have hit : t vs[ys.idxOf c] = true := by
      obtain ⟨y, hy, ht⟩ := first_at e2 _ hj
      rw [ht]
      have := List.getElem_idxOf (List.idxOf_lt_length_iff.mpr hc)
      rw [List.getElem?_eq_getElem (List.idxOf_lt_length_iff.mpr hc), this] at hy
      cases hy; simp
    have hno : ∀ m (hm : m < vs.size), m < ys.idxOf c → t vs[m] = false := by
      intro m hm hlt
      obtain ⟨y, hy, ht⟩ := first_at e2 _ hm
      rw [ht, decide_eq_false_iff_not]
      rintro rfl
      exact absurd hlt (Nat.not_lt.mpr (idxOf_le hy))
    refine ⟨_, removeAt a vs n u t _ hj hit hno (by omega), hl, fun y hy => e1 y (by simpa using hy), ?_⟩
    have hs : Heap.SameBut a s.heap (s.heap.update a (Obj.mapSeq fun xs => xs.eraseIdxIfInBounds (ys.idxOf c))) := Heap.SameBut.update ..
    refine q1 hc _ hs (f.turnX o.inY o.new hs o.seqo) (o.turn (vs' := vs.eraseIdxIfInBounds (ys.idxOf c)) o.ne_loc hs ⟨_, hl.update _⟩ ?_)
    rw [toList_eraseIdxIf]
    have := RepAll.eraseIdx (ys.idxOf c) r
    rw [List.erase_eq_eraseIdx_of_idxOf rfl, ← eraseIdx_map']
    exact this
  · refine ⟨_, removeNo a vs n u t (fun m hm => ?_), hl, fun y hy => e1 y (by simpa using hy), hA, fun h' tk e x => q2 hc h' tk e x⟩
    obtain ⟨y, hy, ht⟩ := first_at e2 _ hm
    rw [ht, decide_eq_false_iff_not]
    rintro rfl
    exact hc (List.mem_of_getElem? hy)
end
end Mine
namespace Mine
open PySem PyProof.Rows PySem.Calls PySem.Spec
open AutoSeq1 (wpAny_loadPart')

/-- lists of ints, in the order of their first parting -/
def ltL : List Int → List Int → Bool
  | [], [] => false
  | [], _ :: _ => true
  | _ :: _, [] => false
  | x :: xs, y :: ys => if x = y then ltL xs ys else decide (x < y)

def HasInts (items : Array Value) (xs : List Int) : Prop := items.size = xs.length ∧ ∀ (j : Nat) (x : Int), xs[j]? = some x → ∃ t, items[j]? = some (Value.int x t)

theorem lt_loop (l b : Addr) (items items2 : Array Value) (n n2 : Nat) (dd dd2 : Option Addr) (sl sl2 : Array (Option Value)) (xs ys : List Int) (h1 : HasInts items xs) (h2 : HasInts items2 ys) (k : Nat) :
    ∀ i : Nat, xs.length - i = k → i ≤ xs.length → i ≤ ys.length → Meets (Builtin.«list.__eq__.loop» ⟨[.ref l, .ref b, rawInt i, rawInt 0], []⟩)
      (fun A R s => s.heap.get? l = some { cls := .type "list", dict := dd, data := .seq items n, slots := sl } ∧ s.heap.get? b = some { cls := .type "list", dict := dd2, data := .seq items2 n2, slots := sl2 } ∧
        R (.ok (.ret (.bool (ltL (xs.drop i) (ys.drop i))))) s) := by
  have z1 := h1.1
  have z2 := h2.1
  induction k with
  | zero =>
    intro i hk hi hj prog w A R s h
    obtain ⟨hp, g, d, tk, os⟩ := s; obtain ⟨hl, hb, h⟩ := h
    wp_walk using wpAny_loadPart' hl, wpAny_loadPart' hb
    have hi1 : items[((i : Nat) : Int).toNat]? = none := by simp; omega
    have hd : xs.drop i = [] := List.drop_eq_nil_of_le (by omega)
    rw [hi1]
    wp_walk using wpAny_loadPart' hl, wpAny_loadPart' hb
    show R (.ok (.ret (.bool (decide (items.size < items2.size))))) _
    rw [hd] at h
    have e : ltL [] (ys.drop i) = decide (items.size < items2.size) := by
      rw [z1, z2]
      cases hc : ys.drop i with
      | nil => have := congrArg List.length hc; rw [List.length_drop, List.length_nil] at this; unfold ltL; symm; rw [decide_eq_false_iff_not]; omega
      | cons y t => have := congrArg List.length hc; rw [List.length_drop, List.length_cons] at this; unfold ltL; symm; rw [decide_eq_true_iff]; omega
    rw [← e]; exact h
  | succ k ih =>
    intro i hk hi hj prog w A R s h
    obtain ⟨hp, g, d, tk, os⟩ := s; obtain ⟨hl, hb, h⟩ := h
    wp_walk using wpAny_loadPart' hl, wpAny_loadPart' hb
    have hlt : i < xs.length := by omega
    obtain ⟨t1, e1⟩ := h1.2 i xs[i] (List.getElem?_eq_getElem hlt)
    have hi1 : items[((i : Nat) : Int).toNat]? = some (Value.int xs[i] t1) := by simpa using e1
    have hd : xs.drop i = xs[i] :: xs.drop (i + 1) := List.drop_eq_getElem_cons hlt
    rw [hi1]
    by_cases hlt2 : i < ys.length
    · obtain ⟨t2, e2⟩ := h2.2 i ys[i] (List.getElem?_eq_getElem hlt2)
      have hi2 : items2[((i : Nat) : Int).toNat]? = some (Value.int ys[i] t2) := by simpa using e2
      have hd2 : ys.drop i = ys[i] :: ys.drop (i + 1) := List.drop_eq_getElem_cons hlt2
      have hc : ((i : Int) + 1) = ((i + 1 : Nat) : Int) := by push_cast; rfl
      rw [hi2]
      rw [hd, hd2] at h
      unfold ltL at h
      refine wpAny_bind (MeetsSeq.EqGives.int _ _ _ _ prog w _ _ _ _ ?_)
      by_cases hx : xs[i] = ys[i]
      · rw [if_pos hx] at h
        rw [show (xs[i] == ys[i]) = true from by simpa using hx]
        wp_walk
        rw [hc]
        exact ⟨plainId_quiet MeetsSeq3.plain_eq_loop _, codeAny_builtin MeetsSeq3.entry_eq_loop (by
          rw [Around.under_plainId MeetsSeq3.plain_eq_loop _]
          exact ih (i + 1) (by omega) (by omega) (by omega) prog w A R _ ⟨hl, hb, h⟩)⟩
      · rw [if_neg hx] at h
        rw [show (xs[i] == ys[i]) = false from by simpa using hx]
        wp_walk using wpAny_loadPart' hl, wpAny_loadPart' hb
        rw [hi1, hi2]
        refine wpAny_bind (PyProof.Rows.lt_int ?_)
        exact wpAny_pure h
    · have hi2 : items2[((i : Nat) : Int).toNat]? = none := by simp; omega
      have hd2 : ys.drop i = [] := List.drop_eq_nil_of_le (by omega)
      rw [hi2]
      wp_walk using wpAny_loadPart' hl, wpAny_loadPart' hb
      show R (.ok (.ret (.bool (decide (items.size < items2.size))))) _
      rw [hd, hd2] at h
      have e : ltL (xs[i] :: xs.drop (i + 1)) [] = decide (items.size < items2.size) := by
        rw [z1, z2]; unfold ltL; symm; rw [decide_eq_false_iff_not]; omega
      rw [← e]; exact h
theorem gt_loop (l b : Addr) (items items2 : Array Value) (n n2 : Nat) (dd dd2 : Option Addr) (sl sl2 : Array (Option Value)) (xs ys : List Int) (h1 : HasInts items xs) (h2 : HasInts items2 ys) (k : Nat) :
    ∀ i : Nat, xs.length - i = k → i ≤ xs.length → i ≤ ys.length → Meets (Builtin.«list.__eq__.loop» ⟨[.ref l, .ref b, rawInt i, rawInt 4], []⟩)
      (fun A R s => s.heap.get? l = some { cls := .type "list", dict := dd, data := .seq items n, slots := sl } ∧ s.heap.get? b = some { cls := .type "list", dict := dd2, data := .seq items2 n2, slots := sl2 } ∧
        R (.ok (.ret (.bool (ltL (ys.drop i) (xs.drop i))))) s) := by
  have z1 := h1.1
  have z2 := h2.1
  induction k with
  | zero =>
    intro i hk hi hj prog w A R s h
    obtain ⟨hp, g, d, tk, os⟩ := s; obtain ⟨hl, hb, h⟩ := h
    wp_walk using wpAny_loadPart' hl, wpAny_loadPart' hb
    have hi1 : items[((i : Nat) : Int).toNat]? = none := by simp; omega
    have hd : xs.drop i = [] := List.drop_eq_nil_of_le (by omega)
    rw [hi1]
    wp_walk using wpAny_loadPart' hl, wpAny_loadPart' hb
    show R (.ok (.ret (.bool (decide (items2.size < items.size))))) _
    rw [hd] at h
    have e : ltL (ys.drop i) [] = decide (items2.size < items.size) := by
      rw [z1, z2]
      cases hc : ys.drop i with
      | nil => have := congrArg List.length hc; rw [List.length_drop, List.length_nil] at this; unfold ltL; symm; rw [decide_eq_false_iff_not]; omega
      | cons y t => have := congrArg List.length hc; rw [List.length_drop, List.length_cons] at this; unfold ltL; symm; rw [decide_eq_false_iff_not]; omega
    rw [← e]; exact h
  | succ k ih =>
    intro i hk hi hj prog w A R s h
    obtain ⟨hp, g, d, tk, os⟩ := s; obtain ⟨hl, hb, h⟩ := h
    wp_walk using wpAny_loadPart' hl, wpAny_loadPart' hb
    have hlt : i < xs.length := by omega
    obtain ⟨t1, e1⟩ := h1.2 i xs[i] (List.getElem?_eq_getElem hlt)
    have hi1 : items[((i : Nat) : Int).toNat]? = some (Value.int xs[i] t1) := by simpa using e1
    have hd : xs.drop i = xs[i] :: xs.drop (i + 1) := List.drop_eq_getElem_cons hlt
    rw [hi1]
    by_cases hlt2 : i < ys.length
    · obtain ⟨t2, e2⟩ := h2.2 i ys[i] (List.getElem?_eq_getElem hlt2)
      have hi2 : items2[((i : Nat) : Int).toNat]? = some (Value.int ys[i] t2) := by simpa using e2
      have hd2 : ys.drop i = ys[i] :: ys.drop (i + 1) := List.drop_eq_getElem_cons hlt2
      have hc : ((i : Int) + 1) = ((i + 1 : Nat) : Int) := by push_cast; rfl
      rw [hi2]
      rw [hd, hd2] at h
      unfold ltL at h
      refine wpAny_bind (MeetsSeq.EqGives.int _ _ _ _ prog w _ _ _ _ ?_)
      by_cases hx : xs[i] = ys[i]
      · rw [if_pos hx.symm] at h
        rw [show (xs[i] == ys[i]) = true from by simpa using hx]
        wp_walk
        rw [hc]
        exact ⟨plainId_quiet MeetsSeq3.plain_eq_loop _, codeAny_builtin MeetsSeq3.entry_eq_loop (by
          rw [Around.under_plainId MeetsSeq3.plain_eq_loop _]
          exact ih (i + 1) (by omega) (by omega) (by omega) prog w A R _ ⟨hl, hb, h⟩)⟩
      · rw [if_neg (Ne.symm hx)] at h
        rw [show (xs[i] == ys[i]) = false from by simpa using hx]
        wp_walk using wpAny_loadPart' hl, wpAny_loadPart' hb
        rw [hi1, hi2]
        refine wpAny_bind (PyProof.Rows.gt_int ?_)
        exact wpAny_pure h
    · have hi2 : items2[((i : Nat) : Int).toNat]? = none := by simp; omega
      have hd2 : ys.drop i = [] := List.drop_eq_nil_of_le (by omega)
      rw [hi2]
      wp_walk using wpAny_loadPart' hl, wpAny_loadPart' hb
      show R (.ok (.ret (.bool (decide (items2.size < items.size))))) _
      rw [hd, hd2] at h
      have e : ltL [] (xs[i] :: xs.drop (i + 1)) = decide (items2.size < items.size) := by
        rw [z1, z2]; unfold ltL; symm; rw [decide_eq_true_iff]; omega
      rw [← e]; exact h

theorem list_ltAt (l b : Addr) (items items2 : Array Value) (n n2 : Nat) (dd dd2 : Option Addr) (sl sl2 : Array (Option Value)) (xs ys : List Int) (h1 : HasInts items xs) (h2 : HasInts items2 ys) :
    Meets (Builtin.«list.__lt__» ⟨[.ref l, .ref b], []⟩)
      (fun A R s => s.heap.get? l = some { cls := .type "list", dict := dd, data := .seq items n, slots := sl } ∧ s.heap.get? b = some { cls := .type "list", dict := dd2, data := .seq items2 n2, slots := sl2 } ∧
        R (.ok (.ret (.bool (ltL xs ys)))) s) := by
  intro prog w A R s h
  obtain ⟨hp, g, d, tk, os⟩ := s; obtain ⟨hl, hb, h⟩ := h
  have f3 := AutoSeq1.sub_list_list
  wp_walk using wpAny_loadPart' hl, wpAny_loadPart' hb
  exact ⟨plainId_quiet MeetsSeq3.plain_eq_loop _, codeAny_builtin MeetsSeq3.entry_eq_loop (by
    rw [Around.under_plainId MeetsSeq3.plain_eq_loop _]
    exact lt_loop l b items items2 n n2 dd dd2 sl sl2 xs ys h1 h2 _ 0 rfl (Nat.zero_le _) (Nat.zero_le _) prog w A R _ ⟨hl, hb, by simpa using h⟩)⟩
theorem list_gtAt (l b : Addr) (items items2 : Array Value) (n n2 : Nat) (dd dd2 : Option Addr) (sl sl2 : Array (Option Value)) (xs ys : List Int) (h1 : HasInts items xs) (h2 : HasInts items2 ys) :
    Meets (Builtin.«list.__gt__» ⟨[.ref l, .ref b], []⟩)
      (fun A R s => s.heap.get? l = some { cls := .type "list", dict := dd, data := .seq items n, slots := sl } ∧ s.heap.get? b = some { cls := .type "list", dict := dd2, data := .seq items2 n2, slots := sl2 } ∧
        R (.ok (.ret (.bool (ltL ys xs)))) s) := by
  intro prog w A R s h
  obtain ⟨hp, g, d, tk, os⟩ := s; obtain ⟨hl, hb, h⟩ := h
  have f3 := AutoSeq1.sub_list_list
  wp_walk using wpAny_loadPart' hl, wpAny_loadPart' hb
  exact ⟨plainId_quiet MeetsSeq3.plain_eq_loop _, codeAny_builtin MeetsSeq3.entry_eq_loop (by
    rw [Around.under_plainId MeetsSeq3.plain_eq_loop _]
    exact gt_loop l b items items2 n n2 dd dd2 sl sl2 xs ys h1 h2 _ 0 rfl (Nat.zero_le _) (Nat.zero_le _) prog w A R _ ⟨hl, hb, by simpa using h⟩)⟩

section
variable {g : G} {n : Nat}
theorem hasInts {X : Addr → Prop} {h : Heap} {vs : Array Value} {xs : List Int} (r : RepAll X h vs.toList (xs.map .int)) : HasInts vs xs := by
  refine ⟨by have := r.length; simpa using this, fun j x hx => ?_⟩
  obtain ⟨v, hv, rv⟩ := r.get (i := j) (d := .int x) (by rw [List.getElem?_map, hx]; rfl)
  obtain ⟨t, rfl⟩ := rv.int_inv
  exact ⟨t, by simpa using hv⟩
theorem op_ltl {a b : List Int} : Op2 g n (compareOp .Lt) (eL .int a) (eL .int b) (.bool (ltL a b)) := by
  intro X A s E Q v u o r1 r2 q
  obtain ⟨l, vs, rfl, _, hl, ra⟩ := Rep.list_inv r1
  obtain ⟨m, us, rfl, _, hm, rb⟩ := Rep.list_inv r2
  obtain ⟨⟨cls, dd, data, sl⟩, ho, hc, n1, hd⟩ := id hl
  obtain ⟨⟨cls2, dd2, data2, sl2⟩, ho2, hc2, n2, hd2⟩ := id hm
  simp only at hc hd hc2 hd2
  subst hc hd hc2 hd2
  exact richCompare_meets_room (op := .Lt) ⟨_, ho, rfl⟩ ⟨_, ho2, rfl⟩ F.slot_list_lt F.entry_list_lt (F.args_list_lt_2 _ _) (list_ltAt l m vs us n1 n2 dd dd2 sl sl2 a b (hasInts ra) (hasInts rb))
    ⟨ho, ho2, show Value.bool (ltL a b) ≠ Value.notImplemented ∧ Q (.bool (ltL a b)) s from ⟨(fun x => nomatch x), q _ _ (keeps_refl s) (.bool _)⟩⟩ (by have := o.a.units; omega)
theorem op_gtl {a b : List Int} : Op2 g n (compareOp .Gt) (eL .int a) (eL .int b) (.bool (ltL b a)) := by
  intro X A s E Q v u o r1 r2 q
  obtain ⟨l, vs, rfl, _, hl, ra⟩ := Rep.list_inv r1
  obtain ⟨m, us, rfl, _, hm, rb⟩ := Rep.list_inv r2
  obtain ⟨⟨cls, dd, data, sl⟩, ho, hc, n1, hd⟩ := id hl
  obtain ⟨⟨cls2, dd2, data2, sl2⟩, ho2, hc2, n2, hd2⟩ := id hm
  simp only at hc hd hc2 hd2
  subst hc hd hc2 hd2
  exact richCompare_meets_room (op := .Gt) ⟨_, ho, rfl⟩ ⟨_, ho2, rfl⟩ F.slot_list_gt F.entry_list_gt (F.args_list_gt_2 _ _) (list_gtAt l m vs us n1 n2 dd dd2 sl sl2 a b (hasInts ra) (hasInts rb))
    ⟨ho, ho2, show Value.bool (ltL b a) ≠ Value.notImplemented ∧ Q (.bool (ltL b a)) s from ⟨(fun x => nomatch x), q _ _ (keeps_refl s) (.bool _)⟩⟩ (by have := o.a.units; omega)
end
end Mine
namespace Mine
open PySem PyProof.Rows PySem.Calls PySem.Spec
abbrev pw : Program := PySem.Challenge.pw_mq0492_01
def stAt (p : Program) (i : Nat) : Stmt := match p.main.body.drop i with | s :: _ => s | [] => .Pass ⟨0, 0, 0, 0⟩
def fBody : Stmt → List Stmt | .FunctionDef _ _ b _ _ _ _ _ _ _ => b | _ => []
def fScope : Stmt → Scope | .FunctionDef _ _ _ _ _ _ s _ _ _ => s | _ => { kind := .function, names := [], isGenerator := false, isCoroutine := false }
def fArgs : Stmt → Arguments | .FunctionDef _ a _ _ _ _ _ _ _ _ => a | _ => { posonlyargs := [], args := [], vararg := none, kwonlyargs := [], kw_defaults := [], kwarg := none, defaults := [] }
def wBody : Stmt → List Stmt | .While _ b _ _ => b | _ => []
def tBody : Stmt → List Stmt | .Try b _ _ _ _ => b | _ => []
def nth (l : List Stmt) (i : Nat) : Stmt := match l.drop i with | s :: _ => s | [] => .Pass ⟨0, 0, 0, 0⟩
def iElse : Stmt → List Stmt | .If _ _ o _ => o | _ => []
end Mine
namespace Mine
open PySem PyProof.Rows PySem.Calls PySem.Spec

def sldGo : List Int → List Int → List Int × List Int
  | [], ys => ([], ys)
  | x :: xs, [] => (x :: xs, [])
  | x :: xs, y :: ys =>
    if x < y then (x :: (sldGo (xs.dropWhile (· == x)) (y :: ys)).1, (sldGo (xs.dropWhile (· == x)) (y :: ys)).2)
    else if y < x then ((sldGo (x :: xs) (ys.dropWhile (· == y))).1, y :: (sldGo (x :: xs) (ys.dropWhile (· == y))).2)
    else sldGo (xs.dropWhile (· == x)) (ys.dropWhile (· == y))
termination_by xs ys => xs.length + ys.length
decreasing_by
  all_goals
    have h1 := (List.dropWhile_suffix (fun z => z == x) (l := xs)).length_le
    have h2 := (List.dropWhile_suffix (fun z => z == y) (l := ys)).length_le
    simp only [List.length_cons]; omega

theorem sldGo_nil (xs : List Int) : sldGo xs [] = (xs, []) := by cases xs <;> rw [sldGo]
theorem sldGo_len : ∀ (xs ys : List Int), (sldGo xs ys).1.length ≤ xs.length ∧ (sldGo xs ys).2.length ≤ ys.length := by
  intro xs ys
  induction xs, ys using sldGo.induct with
  | case1 ys => rw [sldGo]; simp
  | case2 x xs => rw [sldGo]; simp
  | case3 x xs y ys h ih =>
    have h1 := (List.dropWhile_suffix (fun z => z == x) (l := xs)).length_le
    rw [sldGo, if_pos h]; simp only [List.length_cons] at ih ⊢; omega
  | case4 x xs y ys h h' ih =>
    have h1 := (List.dropWhile_suffix (fun z => z == y) (l := ys)).length_le
    rw [sldGo, if_neg h, if_pos h']; simp only [List.length_cons] at ih ⊢; omega
  | case5 x xs y ys h h' ih =>
    have h1 := (List.dropWhile_suffix (fun z => z == x) (l := xs)).length_le
    have h2 := (List.dropWhile_suffix (fun z => z == y) (l := ys)).length_le
    rw [sldGo, if_neg h, if_neg h']; simp only [List.length_cons]; omega

theorem drop_skip (xs : List Int) (c : Int) (i : Nat) : xs.drop (skipTo xs c i) = (xs.drop i).dropWhile (· == c) := by
  unfold skipTo
  rw [← List.drop_drop]
  generalize xs.drop i = l
  induction l with
  | nil => rfl
  | cons y l ih =>
    cases hb : (y == c) with
    | true => rw [List.takeWhile_cons_of_pos (by simpa using hb), List.dropWhile_cons_of_pos (by simpa using hb)]; simpa using ih
    | false => rw [List.takeWhile_cons_of_neg (by simp [hb]), List.dropWhile_cons_of_neg (by simp [hb])]; rfl
theorem skip_le (xs : List Int) (c : Int) (i : Nat) (h : i ≤ xs.length) : skipTo xs c i ≤ xs.length ∧ i ≤ skipTo xs c i := by
  unfold skipTo
  have := (List.takeWhile_prefix (fun z => z == c) (l := xs.drop i)).length_le
  rw [List.length_drop] at this
  omega
theorem drop_at {xs : List Int} {i : Nat} {x : Int} (h : xs[i]? = some x) : xs.drop i = x :: xs.drop (i + 1) := by
  obtain ⟨hi, rfl⟩ := List.getElem?_eq_some_iff.mp h
  exact List.drop_eq_getElem_cons hi

abbrev scS : Scope := fScope (stAt pw 1)
abbrev wsS : List Str := [Str.ofString "i", Str.ofString "j", Str.ofString "e", Str.ofString "a", Str.ofString "missing", Str.ofString "unexpected"]
abbrev nX : Str := Str.ofString "expected"
abbrev nY : Str := Str.ofString "actual"
abbrev nM : Str := Str.ofString "missing"
abbrev nU : Str := Str.ofString "unexpected"
abbrev nI : Str := Str.ofString "i"
abbrev nJ : Str := Str.ofString "j"
abbrev nE : Str := Str.ofString "e"
abbrev nA : Str := Str.ofString "a"

def Yo (X : Addr → Prop) (M U : Addr) : Addr → Prop := fun b => (X b ∨ b = M) ∨ b = U

structure SS (g : G) (X : Addr → Prop) (hb : Heap) (A : Around) (env : Env) (M U : Addr) (σ : Sig) (ms us : List Int) (h : Heap) : Prop where
  fw : FW g.H (Yo X M U) scS wsS hb env σ h
  om : Own (Yo X M U) scS hb env nM M (ms.map .int) h
  ou : Own (Yo X M U) scS hb env nU U (us.map .int) h
  stk : Stk g.H A h
theorem sub_of {σ σ' : Sig} (h : ∀ p ∈ σ', σ.lookup p.1 = some p.2) : ∀ x d, σ'.lookup x = some d → σ.lookup x = some d := fun x d e => h (x, d) (PySem.mem_of_lookup e)
section
variable {g : G} {X : Addr → Prop} {hb : Heap} {A : Around} {env : Env} {M U : Addr} {σ σ' : Sig} {ms us : List Int} {h h' : Heap}
theorem SS.ext (x : SS g X hb A env M U σ ms us h) (k : Ext g.H h h') : SS g X hb A env M U σ ms us h' := ⟨x.fw.ext' k, x.om.ext k, x.ou.ext k, x.stk.mono fun _ d => k.dictAt d⟩
theorem SS.extB {hq : Heap} (x : SS g X hb A env M U σ ms us h) (hk : ∀ b, Old hb b → Old hq b) (k : ExtB g.H hq h h') : SS g X hb A env M U σ ms us h' := ⟨x.fw.extB hk k, x.om.extB k, x.ou.extB k, x.stk.mono fun _ d => k.dictAt d⟩
theorem SS.sub (x : SS g X hb A env M U σ ms us h) (k : ∀ p ∈ σ', σ.lookup p.1 = some p.2) : SS g X hb A env M U σ' ms us h := ⟨x.fw.sub (sub_of k), x.om, x.ou, x.stk⟩
end

def sg (xs ys : List Int) (i j : Nat) : Sig := [(nI, .int i), (nJ, .int j), (nX, eL .int xs), (nY, eL .int ys)]
def sgi (xs ys : List Int) (i j : Nat) (x y : Int) : Sig := [(nI, .int i), (nJ, .int j), (nX, eL .int xs), (nY, eL .int ys), (nE, .int x), (nA, .int y)]
def sgj (xs ys : List Int) (i j : Nat) (x y : Int) : Sig := [(nJ, .int j), (nI, .int i), (nX, eL .int xs), (nY, eL .int ys), (nE, .int x), (nA, .int y)]

/-- an exception that the function's own frame has seen -/
structure Rz (g : G) (X : Addr → Prop) (hb : Heap) (A : Around) (env : Env) (M U L : Addr) (σ : Sig) (ms us : List Int) (e : Addr) (h : Heap) : Prop where
  ss : SS g X hb A env M U σ ms us h
  exc : ∃ h₁ cx fl, Exc g.H h₁ e "IndexError" cx fl h ∧ (fl = none ∨ fl = some (rawInt L)) ∧ (∀ b, Old h₁ b → Old h b) ∧ (∀ b, Old hb b → Old h₁ b)

section
variable {g : G} {X : Addr → Prop} {hb : Heap} {A : Around} {env : Env} {M U L : Addr} {ms us : List Int} {E : Value → Shared → Prop} {s : Shared} {outer : List Env}

/-- while expected[i] == e: i += 1 -/
theorem loop_i {p1 p2 p3 p4 p5 p6 p7 p8 pos : Pos} {kk : Nat} {xs ys : List Int} {i j : Nat} {x y : Int} {Q : Flow → Shared → Prop}
    (hA : A.handled = none) (hfr : A.frames = some (env :: outer)) (hf : env.frame = some L) (z : SS g X hb A env M U (sgi xs ys i j x y) ms us s.heap) (hi : i ≤ xs.length) (hlen : (xs.length : Int) < 2 ^ 62)
    (q1 : ∀ h' tk, skipTo xs x i < xs.length → SS g X hb A env M U (sgi xs ys (skipTo xs x i) j x y) ms us h' → Q .next { s with heap := h', toks := tk })
    (q2 : skipTo xs x i = xs.length → ∀ h₁ h' tk e, SS g X hb A env M U (sgi xs ys xs.length j x y) ms us h₁ → Ext g.H h₁ h' → Exc g.H h₁ e "IndexError" .none (some (rawInt L)) h' → E (.ref e) { s with heap := h', toks := tk }) :
    wpAny (model g.prog g.w) A (exec (.While (.Compare (.Subscript (.Name nX p1) (.Name nI p2) p3) [.Eq] [.Name nE p4] p5) [.AugAssign (.Name nI p6) .Add (.Constant (.int 1) kk p7) p8] [] pos) env) Q E s := by
  refine skip_loop (H := g.H) (Y := Yo X M U) (sc := scS) (ws := wsS) (hb := hb) (xs := xs) (c := x) (i := i) (σ := [(nJ, .int j), (nX, eL .int xs), (nY, eL .int ys), (nE, .int x), (nA, .int y)])
    (fun h => Own (Yo X M U) scS hb env nM M (ms.map .int) h ∧ Own (Yo X M U) scS hb env nU U (us.map .int) h ∧ Stk g.H A h)
    (fun h h' ⟨a, b, c⟩ k => ⟨a.st (by decide) k, b.st (by decide) k, c.mono k.dict⟩) (fun h p => ⟨.inl hA, p.2.2⟩) z.fw ⟨z.om, z.ou, z.stk⟩ (by rfl) (by rfl) (by rfl) (by rfl) (by rfl) (by rfl) (by decide) (by decide) hi hlen hfr hf
    (fun h' tk hs f p => q1 h' tk hs ⟨f, p.1, p.2.1, p.2.2⟩) (fun hs h₁ h' tk e cx f p k x hcx => ?_)
  obtain rfl := hcx hA
  exact q2 hs h₁ h' tk e ⟨f, p.1, p.2.1, p.2.2⟩ k x

/-- while actual[j] == a: j += 1 -/
theorem loop_j {p1 p2 p3 p4 p5 p6 p7 p8 pos : Pos} {kk : Nat} {xs ys : List Int} {i j : Nat} {x y : Int} {Q : Flow → Shared → Prop} (K : Heap → Prop) (hK : ∀ h h', K h → Stored env nJ h h' → K h') (hKA : ∀ h, K h → HdOK A h)
    (hfr : A.frames = some (env :: outer)) (hf : env.frame = some L) (z : SS g X hb A env M U (sgj xs ys i j x y) ms us s.heap) (hz : K s.heap) (hj : j ≤ ys.length) (hlen : (ys.length : Int) < 2 ^ 62)
    (q1 : ∀ h' tk, skipTo ys y j < ys.length → SS g X hb A env M U (sgj xs ys i (skipTo ys y j) x y) ms us h' → K h' → Q .next { s with heap := h', toks := tk })
    (q2 : skipTo ys y j = ys.length → ∀ h₁ h' tk e cx, SS g X hb A env M U (sgj xs ys i ys.length x y) ms us h₁ → K h₁ → Ext g.H h₁ h' → Exc g.H h₁ e "IndexError" cx (some (rawInt L)) h' → E (.ref e) { s with heap := h', toks := tk }) :
    wpAny (model g.prog g.w) A (exec (.While (.Compare (.Subscript (.Name nY p1) (.Name nJ p2) p3) [.Eq] [.Name nA p4] p5) [.AugAssign (.Name nJ p6) .Add (.Constant (.int 1) kk p7) p8] [] pos) env) Q E s := by
  refine skip_loop (H := g.H) (Y := Yo X M U) (sc := scS) (ws := wsS) (hb := hb) (xs := ys) (c := y) (i := j) (σ := [(nI, .int i), (nX, eL .int xs), (nY, eL .int ys), (nE, .int x), (nA, .int y)])
    (fun h => Own (Yo X M U) scS hb env nM M (ms.map .int) h ∧ Own (Yo X M U) scS hb env nU U (us.map .int) h ∧ Stk g.H A h ∧ K h)
    (fun h h' ⟨a, b, c, d⟩ k => ⟨a.st (by decide) k, b.st (by decide) k, c.mono k.dict, hK _ _ d k⟩) (fun h p => ⟨hKA _ p.2.2.2, p.2.2.1⟩) z.fw ⟨z.om, z.ou, z.stk, hz⟩ (by rfl) (by rfl) (by rfl) (by rfl) (by rfl) (by rfl) (by decide) (by decide) hj hlen hfr hf
    (fun h' tk hs f p => q1 h' tk hs ⟨f, p.1, p.2.1, p.2.2.1⟩ p.2.2.2) (fun hs h₁ h' tk e cx f p k x hcx => ?_)
  exact q2 hs h₁ h' tk e cx ⟨f, p.1, p.2.1, p.2.2.1⟩ p.2.2.2 k x

/-- i += 1 -/
theorem inc_i {p1 p2 pos : Pos} {kk : Nat} {xs ys : List Int} {i j : Nat} {x y : Int} {Q : Flow → Shared → Prop} (z : SS g X hb A env M U (sgi xs ys i j x y) ms us s.heap)
    (q : ∀ h' tk, Stored env nI s.heap h' → SS g X hb A env M U (sgi xs ys (i + 1) j x y) ms us h' → Q .next { s with heap := h', toks := tk }) :
    wpAny (model g.prog g.w) A (exec (.AugAssign (.Name nI p1) .Add (.Constant (.int 1) kk p2) pos) env) Q E s := by
  refine fw_incL z.fw (by rfl) fun h' tk k f => q h' tk k ⟨?_, z.om.st (by decide) k, z.ou.st (by decide) k, z.stk.mono k.dict⟩
  simpa [sgi] using f
theorem inc_j {p1 p2 pos : Pos} {kk : Nat} {xs ys : List Int} {i j : Nat} {x y : Int} {Q : Flow → Shared → Prop} (z : SS g X hb A env M U (sgj xs ys i j x y) ms us s.heap)
    (q : ∀ h' tk, Stored env nJ s.heap h' → SS g X hb A env M U (sgj xs ys i (j + 1) x y) ms us h' → Q .next { s with heap := h', toks := tk }) :
    wpAny (model g.prog g.w) A (exec (.AugAssign (.Name nJ p1) .Add (.Constant (.int 1) kk p2) pos) env) Q E s := by
  refine fw_incL z.fw (by rfl) fun h' tk k f => q h' tk k ⟨?_, z.om.st (by decide) k, z.ou.st (by decide) k, z.stk.mono k.dict⟩
  simpa [sgj] using f
theorem SS.toJ {xs ys : List Int} {i j : Nat} {x y : Int} {h : Heap} (z : SS g X hb A env M U (sgi xs ys i j x y) ms us h) : SS g X hb A env M U (sgj xs ys i j x y) ms us h :=
  z.sub (by intro p hp; simp only [sgj, List.mem_cons, List.not_mem_nil, or_false] at hp; rcases hp with rfl | rfl | rfl | rfl | rfl | rfl <;> rfl)
theorem SS.toS {xs ys : List Int} {i j : Nat} {x y : Int} {h : Heap} (z : SS g X hb A env M U (sgj xs ys i j x y) ms us h) : SS g X hb A env M U (sg xs ys i j) ms us h :=
  z.sub (by intro p hp; simp only [sg, List.mem_cons, List.not_mem_nil, or_false] at hp; rcases hp with rfl | rfl | rfl | rfl <;> rfl)
theorem Rz.of {σ : Sig} {h₁ h' : Heap} {e : Addr} {cx : Value} (z : SS g X hb A env M U σ ms us h₁) (k : Ext g.H h₁ h') (x : Exc g.H h₁ e "IndexError" cx (some (rawInt L)) h') : Rz g X hb A env M U L σ ms us e h' :=
  ⟨z.ext k, h₁, cx, _, x, .inr rfl, fun b o => o.ext k, fun b o => o.ext z.fw.ext⟩
theorem Rz.sub {σ σ' : Sig} {h : Heap} {e : Addr} (r : Rz g X hb A env M U L σ ms us e h) (k : ∀ p ∈ σ', σ.lookup p.1 = some p.2) : Rz g X hb A env M U L σ' ms us e h := ⟨r.ss.sub k, r.exc⟩

/-- the finally suite -/
theorem final_run {p1 p2 p3 p4 p5 p6 p7 p8 p9 p10 p11 pos : Pos} {kk kk2 : Nat} {xs ys : List Int} {i j : Nat} {x y : Int} {Q : Flow → Shared → Prop} (K : Heap → Prop) (hK : ∀ h h', K h → Stored env nJ h h' → K h') (hKA : ∀ h, K h → HdOK A h)
    (hfr : A.frames = some (env :: outer)) (hf : env.frame = some L) (z : SS g X hb A env M U (sgj xs ys i j x y) ms us s.heap) (hz : K s.heap) (hj : j < ys.length) (hlen : (ys.length : Int) < 2 ^ 62)
    (q1 : ∀ h' tk, skipTo ys y (j + 1) < ys.length → SS g X hb A env M U (sgj xs ys i (skipTo ys y (j + 1)) x y) ms us h' → K h' → Q .next { s with heap := h', toks := tk })
    (q2 : skipTo ys y (j + 1) = ys.length → ∀ h₁ h' tk e cx, SS g X hb A env M U (sgj xs ys i ys.length x y) ms us h₁ → K h₁ → Ext g.H h₁ h' → Exc g.H h₁ e "IndexError" cx (some (rawInt L)) h' → E (.ref e) { s with heap := h', toks := tk }) :
    wpAny (model g.prog g.w) A (execs [.AugAssign (.Name nJ p9) .Add (.Constant (.int 1) kk2 p10) p11, .While (.Compare (.Subscript (.Name nY p1) (.Name nJ p2) p3) [.Eq] [.Name nA p4] p5) [.AugAssign (.Name nJ p6) .Add (.Constant (.int 1) kk p7) p8] [] pos] env) Q E s := by
  refine wpAny_execs_cons (inc_j z fun h' tk k z' => wpAny_execs_cons ?_)
  refine loop_j K hK hKA hfr hf z' (hK _ _ hz k) hj hlen (fun h'' tk' hs z'' hz'' => wpAny_execs_nil (q1 h'' tk' hs z'' hz'')) fun hs h₁ h'' tk' e cx z'' hz'' k x => q2 hs h₁ h'' tk' e cx z'' hz'' k x

theorem else_run {p1 p2 p3 p4 p5 p6 p7 p8 p9 p10 pos q1' q2' q3 q4 q5 q6 q7 q8 q9 q10 q11 r1 r2 r3 : Pos} {kk kk2 kk3 kk4 : Nat} {xs ys : List Int} {i j : Nat} {x y : Int} {Q : Flow → Shared → Prop}
    (hA : A.handled = none) (hfr : A.frames = some (env :: outer)) (hf : env.frame = some L) (z : SS g X hb A env M U (sgi xs ys i j x y) ms us s.heap) (hi : i < xs.length) (hj : j < ys.length) (hlx : (xs.length : Int) < 2 ^ 62) (hly : (ys.length : Int) < 2 ^ 62)
    (q1 : ∀ h' tk, skipTo xs x (i + 1) < xs.length → skipTo ys y (j + 1) < ys.length → SS g X hb A env M U (sg xs ys (skipTo xs x (i + 1)) (skipTo ys y (j + 1))) ms us h' → Q .next { s with heap := h', toks := tk })
    (q2 : (skipTo xs x (i + 1) = xs.length ∨ skipTo ys y (j + 1) = ys.length) → ∀ h' tk e, Rz g X hb A env M U L (sg xs ys (skipTo xs x (i + 1)) (skipTo ys y (j + 1))) ms us e h' → E (.ref e) { s with heap := h', toks := tk }) :
    wpAny (model g.prog g.w) A (execs [.AugAssign (.Name nI q9) .Add (.Constant (.int 1) kk3 q10) q11,
      .Try [.While (.Compare (.Subscript (.Name nX q1') (.Name nI q2') q3) [.Eq] [.Name nE q4] q5) [.AugAssign (.Name nI q6) .Add (.Constant (.int 1) kk4 q7) q8] [] r2] [] []
        [.AugAssign (.Name nJ p9) .Add (.Constant (.int 1) kk2 p10) r1, .While (.Compare (.Subscript (.Name nY p1) (.Name nJ p2) p3) [.Eq] [.Name nA p4] p5) [.AugAssign (.Name nJ p6) .Add (.Constant (.int 1) kk p7) p8] [] pos] r3] env) Q E s := by
  have sub2 : ∀ {a b}, ∀ p ∈ sg xs ys a b, (sgj xs ys a b x y).lookup p.1 = some p.2 := by
    intro a b p hp; simp only [sg, List.mem_cons, List.not_mem_nil, or_false] at hp; rcases hp with rfl | rfl | rfl | rfl <;> rfl
  refine wpAny_execs_cons (inc_i z fun h₁ tk₁ k₁ z₁ => wpAny_execs_cons (wpAny_Try_finally (wpAny_execs_cons ?_)))
  refine loop_i hA hfr hf z₁ hi hlx (fun h₂ tk₂ hs z₂ => wpAny_execs_nil ?_) fun hs h₂ h₃ tk₂ e1 z₂ k x1 => ?_
  · -- the first loop ends
    refine wpAny_execs_nil ?_
    refine final_run (fun _ => True) (fun _ _ _ _ => trivial) (fun _ _ => .inl hA) hfr hf z₂.toJ trivial hj hly (fun h₃ tk₃ hs' z₃ _ => wpAny_execs_nil (q1 h₃ tk₃ hs hs' z₃.toS)) fun hs' h₃ h₄ tk₃ e2 cx z₃ _ k3 x3 => ?_
    show wpAny _ A (noteFrame (.ref e2) env) _ _ _
    refine exc_note_again hf x3 (exc_back hf x3 fun h₅ k5 x5 => ?_)
    refine q2 (.inr hs') h₅ tk₃ e2 ((Rz.of z₃ (k3.extB (fun _ o => o) k5) x5).sub ?_)
    rw [hs']; exact sub2
  · -- it raised
    refine exc_note_again hf x1 ⟨ref_ne_byPass _, exc_note_again hf x1 (exc_flight (fr := none) x1 fun h₄ k4 x4 => ?_)⟩
    have z₄ := ((z₂.ext k).extB (fun b o => o.ext z₂.fw.ext) k4).toJ
    refine final_run (A := A.mark (some (.ref e1))) (fun h => Exc g.H h₂ e1 "IndexError" .none (some .none) h ∧ ∀ b, Old h₂ b → Old h b) (fun h h' ⟨a, b⟩ st => ⟨a.hard st.hard, fun c o => st.old _ (b c o)⟩)
      (fun h ⟨a, b⟩ => .inr (let ⟨oe, vs, e1', e2', e3', e4', _⟩ := a.ob; ⟨e1, oe, vs, rfl, e1', e3', e4'⟩)) hfr hf ⟨z₄.fw, z₄.om, z₄.ou, z₄.stk⟩ ⟨x4, fun b o => ?_⟩ hj hly (fun h₅ tk₅ hs' z₅ hz₅ => ?_) fun hs' h₅ h₆ tk₅ e2 cx z₅ hz₅ k5 x5 => ?_
    · obtain ⟨oo, eo⟩ := o.ext k
      obtain ⟨o', e', _⟩ := k4.to b oo o eo
      exact ⟨o', e'⟩
    · refine exc_pass hf hz₅.1 fun h₆ k6 x6 => ?_
      refine q2 (.inl hs) h₆ tk₅ e1 ⟨?_, h₂, _, _, x6, .inr rfl, fun b o => ?_, fun b o => o.ext z₂.fw.ext⟩
      · rw [hs]
        have z₅' : SS g X hb A env M U (sgj xs ys xs.length (skipTo ys y (j + 1)) x y) ms us h₅ := ⟨z₅.fw, z₅.om, z₅.ou, z₅.stk⟩
        exact (z₅'.extB (fun b o => o.ext z₂.fw.ext) k6).toS
      · obtain ⟨oo, eo⟩ := hz₅.2 b o
        obtain ⟨o', e', _⟩ := k6.to b oo o eo
        exact ⟨o', e'⟩
    · show wpAny _ (A.mark (some (.ref e1))) (noteFrame (.ref e2) env) _ _ _
      refine exc_note_again hf x5 (exc_back hf x5 fun h₇ k7 x7 => ?_)
      have z₅' : SS g X hb A env M U (sgj xs ys xs.length ys.length x y) ms us h₅ := ⟨z₅.fw, z₅.om, z₅.ou, z₅.stk⟩
      refine q2 (.inr hs') h₇ tk₅ e2 ((Rz.of z₅' (k5.extB (fun _ o => o) k7) x7).sub ?_)
      rw [hs', hs]; exact sub2

theorem inter_fn {Y : Addr → Prop} {sc : Scope} {env : Env} {h : Heap} {σ : Sig} (e : EnvOK Y sc env h σ) : interactive env = false := by
  have : env.scope.kind = .function := by rw [e.scope]; exact e.kind
  unfold interactive
  rw [this]; rfl
abbrev tryB : List Stmt := tBody (nth (wBody (nth (fBody (stAt pw 1)) 3)) 0)

theorem sg_e {xs ys : List Int} {i j : Nat} {x y : Int} : ∀ p ∈ sgi xs ys i j x y, ((nA, PyData.int y) :: (nE, PyData.int x) :: sg xs ys i j).lookup p.1 = some p.2 := by
  intro p hp; simp only [sgi, List.mem_cons, List.not_mem_nil, or_false] at hp; rcases hp with rfl | rfl | rfl | rfl | rfl | rfl <;> rfl
theorem sgi_sg {xs ys : List Int} {i j : Nat} {x y : Int} : ∀ p ∈ sg xs ys i j, (sgi xs ys i j x y).lookup p.1 = some p.2 := by
  intro p hp; simp only [sg, List.mem_cons, List.not_mem_nil, or_false] at hp; rcases hp with rfl | rfl | rfl | rfl <;> rfl
theorem sgj_sg {xs ys : List Int} {i j : Nat} {x y : Int} : ∀ p ∈ sg xs ys i j, (sgj xs ys i j x y).lookup p.1 = some p.2 := by
  intro p hp; simp only [sg, List.mem_cons, List.not_mem_nil, or_false] at hp; rcases hp with rfl | rfl | rfl | rfl <;> rfl
theorem sge_sg {xs ys : List Int} {i j : Nat} {x : Int} : ∀ p ∈ sg xs ys i j, ((nE, PyData.int x) :: sg xs ys i j).lookup p.1 = some p.2 := by
  intro p hp; simp only [sg, List.mem_cons, List.not_mem_nil, or_false] at hp; rcases hp with rfl | rfl | rfl | rfl <;> rfl

/-- a local name is stored -/
theorem SS.store {σ : Sig} {x : Str} {v : Value} {d : PyData} {Q : Unit → Shared → Prop} (z : SS g X hb A env M U σ ms us s.heap) (hk : scS.names.lookup x = some .local) (h1 : nM ≠ x) (h2 : nU ≠ x) (r : Rep (Yo X M U) s.heap v d)
    (q : ∀ h' tk, SS g X hb A env M U ((x, d) :: σ) ms us h' → Q () { s with heap := h', toks := tk }) : wpAny (model g.prog g.w) A (storeName env x v) Q E s :=
  z.fw.storeL hk r fun h' tk k ⟨m, a, b, c⟩ f => q h' tk ⟨f, z.om.stored h1 a b c, z.ou.stored h2 a b c, z.stk.mono (k (fun _ => False)).dict⟩

theorem body_run {xs ys R1 R2 : List Int} {i j : Nat} {Q : Flow → Shared → Prop}
    (hA : A.handled = none) (hfr : A.frames = some (env :: outer)) (hf : env.frame = some L) (hMU : M ≠ U) (z : SS g X hb A env M U (sg xs ys i j) ms us s.heap) (hi : i ≤ xs.length) (hj : j ≤ ys.length) (hlx : xs.length ≤ 4096) (hly : ys.length ≤ 4096)
    (hR1 : ms ++ (sldGo (xs.drop i) (ys.drop j)).1 = R1) (hR2 : us ++ (sldGo (xs.drop i) (ys.drop j)).2 = R2) (hlm : ms.length ≤ 4096) (hlu : us.length ≤ 4096)
    (q1 : ∀ i' j' ms' us' h' tk, i' ≤ xs.length → j' ≤ ys.length → i + j < i' + j' → ms' ++ (sldGo (xs.drop i') (ys.drop j')).1 = R1 → us' ++ (sldGo (xs.drop i') (ys.drop j')).2 = R2 →
      SS g X hb A env M U (sg xs ys i' j') ms' us' h' → Q .next { s with heap := h', toks := tk })
    (q2 : ∀ i' j' ms' us' h' tk e, i' ≤ xs.length → j' ≤ ys.length → ms' ++ xs.drop i' = R1 → us' ++ ys.drop j' = R2 → Rz g X hb A env M U L (sg xs ys i' j') ms' us' e h' → E (.ref e) { s with heap := h', toks := tk }) :
    wpAny (model g.prog g.w) A (execs tryB env) Q E s := by
  have stop : ∀ {a b : List Int}, a = [] ∨ b = [] → sldGo a b = (a, b) := by
    rintro a b (rfl | rfl)
    · rw [sldGo]
    · exact sldGo_nil a
  have dnil : ∀ {l : List Int} {k : Nat}, k = l.length → l.drop k = [] := fun e => by rw [e]; exact List.drop_length
  have hlx' : (xs.length : Int) < 2 ^ 62 := by omega
  have hly' : (ys.length : Int) < 2 ^ 62 := by omega
  refine wpAny_execs_cons (wpAny_Assign_Name ?_ (by rfl))
  refine fw_item (lx := nX) (kx := nI) (xs := xs) (i := i) z.fw (.inl hA) (by rfl) (by rfl) (by rfl) (by rfl) (by omega) (fun x t hx => ?_) fun hout h' tk e cx k x1 hcx => ?_
  rotate_left
  · have hil : i = xs.length := by omega
    have := stop (a := xs.drop i) (b := ys.drop j) (.inl (dnil hil))
    rw [this] at hR1 hR2
    exact q2 i j ms us h' tk e hi hj hR1 hR2 ⟨z.ext (Ext.of k), s.heap, cx, none, x1, .inl rfl, fun b o => o.ext (H := g.H) (Ext.of k), fun b o => o.ext z.fw.ext⟩
  refine z.store (by rfl) (by decide) (by decide) (.int x t) fun h₁ tk₁ z₁ => ?_
  refine wpAny_execs_cons (wpAny_Assign_Name ?_ (by rfl))
  refine fw_item (lx := nY) (kx := nJ) (xs := ys) (i := j) z₁.fw (.inl hA) (by rfl) (by rfl) (by rfl) (by rfl) (by omega) (fun y t' hy => ?_) fun hout h' tk e cx k x1 hcx => ?_
  rotate_left
  · have hjl : j = ys.length := by omega
    have := stop (a := xs.drop i) (b := ys.drop j) (.inr (dnil hjl))
    rw [this] at hR1 hR2
    exact q2 i j ms us h' tk e hi hj hR1 hR2 ⟨(z₁.sub sge_sg).ext (Ext.of k), h₁, cx, none, x1, .inl rfl, fun b o => o.ext (H := g.H) (Ext.of k), fun b o => o.ext z₁.fw.ext⟩
  refine z₁.store (by rfl) (by decide) (by decide) (.int y t') fun h₂ tk₂ z₂' => ?_
  have z₂ := z₂'.sub (sg_e (xs := xs) (ys := ys) (i := i) (j := j) (x := x) (y := y))
  have hix := (List.getElem?_eq_some_iff.mp hx).1
  have hjy := (List.getElem?_eq_some_iff.mp hy).1
  have gx := skip_le xs x (i + 1) hix
  have gy := skip_le ys y (j + 1) hjy
  rw [drop_at hx, drop_at hy, sldGo] at hR1 hR2
  rw [← drop_skip, ← drop_skip] at hR1 hR2
  refine wpAny_execs_cons (wpAny_If (wpAny_isTrue_Compare1 (fw_name (x := nE) (d := .int x) z₂.fw.ok (by rfl) (by rfl) fun v1 r1 => fw_name (x := nA) (d := .int y) z₂.fw.ok (by rfl) (by rfl) fun v2 r2 => ?_) (by rfl)))
  obtain ⟨t1, rfl⟩ := r1.int_inv
  obtain ⟨t2, rfl⟩ := r2.int_inv
  refine PyProof.Rows.lt_int (wpAny_truthy_bool ?_)
  by_cases hlt : x < y
  · rw [if_pos (by simpa using hlt)]
    rw [if_pos hlt] at hR1 hR2
    refine wpAny_execs_cons (own_append (v := nE) (d := .int x) z₂.fw z₂.om (by rfl) (by rfl) (by rfl) (by rw [List.length_map, sizeLine_eq]; omega) (by rfl) (by rfl) (inter_fn z₂.fw.ok) (by rfl) fun h₃ hs₃ f₃ o₃ => ?_)
    have z₃ : SS g X hb A env M U (sgi xs ys i j x y) (ms ++ [x]) us h₃ := ⟨f₃, by rw [List.map_append]; exact o₃, z₂.ou.other (Ne.symm hMU) z₂.om.inY z₂.om.ne_loc hs₃, z₂.stk.mono fun L ⟨o, e, d⟩ => ⟨o, hs₃.extBut L o (by rintro rfl; obtain ⟨o', e', s'⟩ := z₂.om.seqo; rw [e] at e'; cases e'; exact s'.hard.noDict d) e, d⟩⟩
    refine wpAny_execs_cons (inc_i z₃ fun h₄ tk₄ k₄ z₄ => wpAny_execs_cons ?_)
    refine loop_i hA hfr hf z₄ hix hlx' (fun h₅ tk₅ hs z₅ => wpAny_execs_nil (wpAny_execs_nil ?_)) fun hs h₅ h₆ tk₅ e z₅ k x5 => ?_
    · refine q1 (skipTo xs x (i + 1)) j (ms ++ [x]) us h₅ tk₅ (by omega) hj (by omega) ?_ ?_ (z₅.sub sgi_sg)
      · rw [drop_at hy, List.append_assoc]; exact hR1
      · rw [drop_at hy]; exact hR2
    · have hnil := stop (a := xs.drop (skipTo xs x (i + 1))) (b := y :: ys.drop (j + 1)) (.inl (dnil hs))
      rw [hnil] at hR1 hR2
      refine q2 xs.length j (ms ++ [x]) us h₆ tk₅ e (Nat.le_refl _) hj ?_ ?_ ((Rz.of z₅ k x5).sub sgi_sg)
      · rw [List.append_assoc, ← hs]; exact hR1
      · rw [drop_at hy]; exact hR2
  · rw [if_neg (by simpa using hlt)]
    rw [if_neg hlt] at hR1 hR2
    refine wpAny_execs_cons (wpAny_If (wpAny_isTrue_Compare1 (fw_name (x := nE) (d := .int x) z₂.fw.ok (by rfl) (by rfl) fun v1 r1 => fw_name (x := nA) (d := .int y) z₂.fw.ok (by rfl) (by rfl) fun v2 r2 => ?_) (by rfl)))
    obtain ⟨t1, rfl⟩ := r1.int_inv
    obtain ⟨t2, rfl⟩ := r2.int_inv
    refine PyProof.Rows.gt_int (wpAny_truthy_bool ?_)
    by_cases hgt : y < x
    · rw [if_pos (by simpa using hgt)]
      rw [if_pos hgt] at hR1 hR2
      refine wpAny_execs_cons (own_append (v := nA) (d := .int y) z₂.fw z₂.ou (by rfl) (by rfl) (by rfl) (by rw [List.length_map, sizeLine_eq]; omega) (by rfl) (by rfl) (inter_fn z₂.fw.ok) (by rfl) fun h₃ hs₃ f₃ o₃ => ?_)
      have z₃ : SS g X hb A env M U (sgi xs ys i j x y) ms (us ++ [y]) h₃ := ⟨f₃, z₂.om.other hMU z₂.ou.inY z₂.ou.ne_loc hs₃, by rw [List.map_append]; exact o₃, z₂.stk.mono fun L ⟨o, e, d⟩ => ⟨o, hs₃.extBut L o (by rintro rfl; obtain ⟨o', e', s'⟩ := z₂.ou.seqo; rw [e] at e'; cases e'; exact s'.hard.noDict d) e, d⟩⟩
      refine wpAny_execs_cons (inc_j z₃.toJ fun h₄ tk₄ k₄ z₄ => wpAny_execs_cons ?_)
      refine loop_j (fun _ => True) (fun _ _ _ _ => trivial) (fun _ _ => .inl hA) hfr hf z₄ trivial hjy hly' (fun h₅ tk₅ hs z₅ _ => wpAny_execs_nil (wpAny_execs_nil (wpAny_execs_nil ?_))) fun hs h₅ h₆ tk₅ e cx z₅ _ k x5 => ?_
      · refine q1 i (skipTo ys y (j + 1)) ms (us ++ [y]) h₅ tk₅ hi (by omega) (by omega) ?_ ?_ z₅.toS
        · rw [drop_at hx]; exact hR1
        · rw [drop_at hx, List.append_assoc]; exact hR2
      · have hnil := stop (a := x :: xs.drop (i + 1)) (b := ys.drop (skipTo ys y (j + 1))) (.inr (dnil hs))
        rw [hnil] at hR1 hR2
        refine q2 i ys.length ms (us ++ [y]) h₆ tk₅ e hi (Nat.le_refl _) ?_ ?_ ((Rz.of z₅ k x5).sub sgj_sg)
        · rw [drop_at hx]; exact hR1
        · rw [List.append_assoc, ← hs]; exact hR2
    · rw [if_neg (by simpa using hgt)]
      rw [if_neg hgt] at hR1 hR2
      refine wpAny_mono (else_run (Q := fun f s' => f = .next ∧ Q .next s') hA hfr hf z₂ hix hjy hlx' hly' (fun h₃ tk₃ hs hs' z₃ => ⟨rfl, ?_⟩) fun hor h₃ tk₃ e r => ?_) (fun f s' ⟨hf', hq⟩ => ?_) (fun _ _ x => x)
      · exact q1 _ _ ms us h₃ tk₃ (by omega) (by omega) (by omega) hR1 hR2 z₃
      · have hnil := stop (a := xs.drop (skipTo xs x (i + 1))) (b := ys.drop (skipTo ys y (j + 1))) (hor.imp dnil dnil)
        rw [hnil] at hR1 hR2
        exact q2 _ _ ms us h₃ tk₃ e (by omega) (by omega) hR1 hR2 r
      · subst hf'
        exact wpAny_execs_nil (wpAny_execs_nil hq)
end
end Mine
namespace Mine
open PySem PyProof.Rows PySem.Calls PySem.Spec

theorem isx_sub : isSubtype (.type "IndexError") (.type "IndexError") = pure true := by rw [isSubtype_type]; kernel_rfl
theorem isx_exc : isSubtype (.type "IndexError") (.type "BaseException") = pure true := by rw [isSubtype_type]; kernel_rfl
theorem isx_nt : isSubtype (.type ((Manifest.find? "IndexError").elim "type" fun x => x.metatype)) (.type "tuple") = pure false := by
  rw [show ((Manifest.find? "IndexError").elim "type" fun x => x.metatype) = "type" from by kernel_rfl, isSubtype_type]; kernel_rfl

section
variable {g : G} {n : Nat}

/-- a global name, whatever is handled -/
theorem load_glb' {x : Str} {pos : Pos} {v : Value} {X : Addr → Prop} {A : Around} {sc : Scope} {σ : Sig} {env : Env} {s : Shared} {E : Value → Shared → Prop} {Q : Value → Shared → Prop} (hk : sc.names.lookup x = some .globalImplicit) (hg : Glb g x v)
    (hd : (x == ("__debug__" : Str)) = false) (base : XExt g.H s.heap) (e : EnvOK X sc env s.heap σ) (q : Q v s) : wpAny (model g.prog g.w) A (eval (.Name x pos) env) Q E s := by
  have T := g.top.keeps base
  refine Name_function_global (by rw [e.scope]; exact e.kind) (by rw [Env.kindOf, e.scope]; exact hk) ?_ hd
  rcases hg with hg | ⟨h1, h2, h3⟩
  · exact loadGlobal_global (mg := g.mg) (by rw [e.globals]; exact T.g) hg q
  · exact loadGlobal_builtin (mg := g.mg) (mb := g.mb) (by rw [e.globals]; exact T.g) h1 (by rw [e.builtins]; exact T.b) ((T.builtins x h2).trans h3) q

theorem Old.b {H hq h h' : Heap} (k : ExtB H hq h h') {b : Addr} (ho : Old hq b) (o : Old h b) : Old h' b := let ⟨q, e⟩ := o; let ⟨q', e', _⟩ := k.to b q ho e; ⟨q', e'⟩

theorem sld_fun {a : Addr} {xs ys : List Int} (hdef : DefAt g (Str.ofString "sorted_list_difference") a (fArgs (stAt pw 1)) (fBody (stAt pw 1)) (fScope (stAt pw 1))) (hie : Glb g (Str.ofString "IndexError") (.type "IndexError"))
    (hlx : xs.length ≤ 2048) (hly : ys.length ≤ 2048) : Fun g (n + 1) (.ref a) [eL .int xs, eL .int ys] (.tuple [eL .int (sldGo xs ys).1, eL .int (sldGo xs ys).2]) := by
  intro X A s E Q vs o r q
  obtain ⟨v1, v2, rfl, r1, r2⟩ := r.two_inv
  refine call_raw (hb := s.heap) (ws := wsS) (ps := [nX, nY]) (σ := [(nX, eL .int xs), (nY, eL .int ys)]) hdef (fun _ _ _ => by rfl) (by rfl) (by decide) (by rfl) (by rfl) (by rfl) o (Ext.refl _) o.base ?_ ?_
  · exact fun y d hy => repall_lookup (ps := [nX, nY]) r (by rfl) hy
  intro A' env outer h₁ tk Qf Ef a' hfr hf stk fw ke hns hold xb hq
  have hX : ∀ b, X b → Old s.heap b := fun b hb => let ⟨oo, e, _⟩ := o.xb b hb; ⟨oo, e⟩
  -- i = j = 0
  refine wpAny_execs_cons (wpAny_Assign_two (wpAny_mkInt (wpAny_assign_Name (FW.store (s := { s with heap := h₁, toks := _ }) fw (x := nI) (by decide) (.int 0 _) fun h₂ tk₂ k₂ f₂ => wpAny_assign_Name (FW.store (s := { s with heap := h₂, toks := _ }) f₂ (x := nJ) (by decide) (.int 0 _) fun h₃ tk₃ k₃ f₃ => ?_)))) (by rfl) (by rfl))
  have stk₃ : Stk g.H A' h₃ := stk.mono fun L d => (k₃ (fun _ => False)).dict L ((k₂ (fun _ => False)).dict L d)
  -- missing = []
  refine wpAny_execs_cons (wpAny_Assign_Name (List_ (args_nil (wpAny_newObj_type ?_ (by show (0 : Nat) ≤ sizeLine; exact Nat.zero_le _)))) (by rfl))
  generalize hob : ({ cls := Value.type "list", data := _ } : Obj) = ob
  have hM : ¬ Old s.heap h₃.objs.size := fun ho => by obtain ⟨oo, eo⟩ := ho.ext f₃.ext; exact absurd (Heap.lt_size eo) (Nat.lt_irrefl _)
  have f₄ := (f₃.avoid (c := h₃.objs.size) (Nat.le_refl _)).ext' (Ext.push h₃ ob)
  refine FW.storeO (s := { s with heap := h₃.push ob, toks := _ }) f₄ (x := nM) (by rfl) (by rfl) fun h₅ tk₅ k₅ ⟨m, hm1, hm2, hm3⟩ f₅ => ?_
  have pM : (h₃.push ob).PlainList h₃.objs.size #[] := ⟨0, by rw [← hob]; exact Heap.get?_push_size _ rfl⟩
  have o₅ : Own (fun b => X b ∨ b = h₃.objs.size) scS s.heap env nM h₃.objs.size [] h₅ :=
    ⟨by rfl, ⟨_, hm2, by simp⟩, ⟨#[], let ⟨n, e⟩ := pM; ⟨n, (k₅ (fun _ => False)).hard _ _ (fun q => q) (.inl ⟨_, _, rfl⟩) e⟩, .nil⟩, hM, .inr rfl⟩
  have stk₅ : Stk g.H A' h₅ := stk₃.mono fun L d => (k₅ (fun _ => False)).dict L ((Ext.push (H := g.H) h₃ ob).dictAt d)
  clear hm1 hm2 hm3 pM
  -- unexpected = []
  refine wpAny_execs_cons (wpAny_Assign_Name (List_ (args_nil (wpAny_newObj_type ?_ (by show (0 : Nat) ≤ sizeLine; exact Nat.zero_le _)))) (by rfl))
  generalize hob2 : ({ cls := Value.type "list", data := _ } : Obj) = ob2
  have hU : ¬ Old s.heap h₅.objs.size := fun ho => by obtain ⟨oo, eo⟩ := ho.ext f₅.ext; exact absurd (Heap.lt_size eo) (Nat.lt_irrefl _)
  have hMU : h₃.objs.size ≠ h₅.objs.size := fun q => by obtain ⟨vs, n, hl, _⟩ := o₅.len; have := Heap.lt_size hl; rw [q] at this; exact Nat.lt_irrefl _ this
  have f₆ := (f₅.avoid (c := h₅.objs.size) (Nat.le_refl _)).ext' (Ext.push h₅ ob2)
  have o₆ := (o₅.avoid (c := h₅.objs.size) (Nat.le_refl _)).ext (Ext.push (H := g.H) h₅ ob2)
  refine FW.storeO (s := { s with heap := h₅.push ob2, toks := _ }) f₆ (x := nU) (by rfl) (by rfl) fun h₇ tk₇ k₇ ⟨m, hm1, hm2, hm3⟩ f₇ => ?_
  have pU : (h₅.push ob2).PlainList h₅.objs.size #[] := ⟨0, by rw [← hob2]; exact Heap.get?_push_size _ rfl⟩
  have o₇ : Own (Yo X h₃.objs.size h₅.objs.size) scS s.heap env nU h₅.objs.size ([].map .int) h₇ :=
    ⟨by rfl, ⟨_, hm2, by simp⟩, ⟨#[], let ⟨n, e⟩ := pU; ⟨n, (k₇ (fun _ => False)).hard _ _ (fun q => q) (.inl ⟨_, _, rfl⟩) e⟩, .nil⟩, hU, .inr rfl⟩
  have stk₇ : Stk g.H A' h₇ := stk₅.mono fun L d => (k₇ (fun _ => False)).dict L ((Ext.push (H := g.H) h₅ ob2).dictAt d)
  have z₇ : SS g X s.heap A' env h₃.objs.size h₅.objs.size (sg xs ys 0 0) [] [] h₇ := by
    refine ⟨f₇.sub (sub_of ?_), o₆.stored (by decide) hm1 hm2 hm3, o₇, stk₇⟩
    intro p hp; simp only [sg, List.mem_cons, List.not_mem_nil, or_false] at hp; rcases hp with rfl | rfl | rfl | rfl <;> rfl
  generalize h₃.objs.size = M at *
  generalize h₅.objs.size = U at *
  clear hm1 hm2 hm3 pU o₇ f₇ o₆ f₆ o₅ f₅ f₄ hob hob2
  -- the loop
  obtain ⟨hlen1, hlen2⟩ := sldGo_len xs ys
  generalize hR1 : (sldGo xs ys).1 = R1 at *
  generalize hR2 : (sldGo xs ys).2 = R2 at *
  refine wpAny_execs_cons (wpAny_While (codeAny_whileLoop (fun n s' => ∃ (i j : Nat) (ms us : List Int) (h : Heap) (tk : Nat), s' = { s with heap := h, toks := tk } ∧ SS g X s.heap A' env M U (sg xs ys i j) ms us h ∧ i ≤ xs.length ∧ j ≤ ys.length ∧
    ms ++ (sldGo (xs.drop i) (ys.drop j)).1 = R1 ∧ us ++ (sldGo (xs.drop i) (ys.drop j)).2 = R2 ∧ n = xs.length + ys.length - (i + j)) ?_ (xs.length + ys.length) ⟨0, 0, [], [], h₇, _, rfl, z₇, Nat.zero_le _, Nat.zero_le _, hR1, hR2, rfl⟩))
  rintro n' s' ⟨i, j, ms, us, h, tk', rfl, z, hi, hj, e1, e2, rfl⟩
  have lm : ms.length ≤ R1.length := by rw [← e1, List.length_append]; omega
  have lu : us.length ≤ R2.length := by rw [← e2, List.length_append]; omega
  refine isTrue_plain (wpAny_pure (wpAny_truthy_bool ?_)) (by rfl)
  rw [if_pos rfl]
  refine wpAny_execs_cons (wpAny_Try_except (body_run a'.handled hfr hf hMU z hi hj (by omega) (by omega) e1 e2 (by omega) (by omega) (fun i' j' ms' us' h' tk'' hi' hj' hlt e1' e2' z' => ?_) fun i' j' ms' us' h' tk'' e hi' hj' e1' e2' rz => ?_))
  · refine wpAny_execs_nil (wpAny_execs_nil ?_)
    exact ⟨xs.length + ys.length - (i' + j'), by omega, i', j', ms', us', h', tk'', rfl, z', hi', hj', e1', e2', rfl⟩
  · obtain ⟨z', hq₁, cx, fl, x, hfl, hk1, hk2⟩ := rz
    refine exc_note hfr z'.stk hf x hk1 hfl fun h₈ k₈ x₈ => exc_flight (fr := none) x₈ fun h₉ k₉ x₉ => ?_
    have z₉ := (z'.extB hk2 k₈).extB hk2 k₉
    refine wpAny_handleBy_builtin (X := "IndexError") (T := "IndexError") (b := true) isx_exc isx_nt isx_sub (load_glb' (by rfl) hie (by rfl) (z₉.fw.ext.base z₉.fw.base) z₉.fw.ok ⟨rfl, x₉.typeIs, ?_⟩)
    rw [if_pos rfl]
    refine exc_flight (fr := none) x₉ fun h₁₀ k₁₀ x₁₀ => ?_
    have z₁₀ := z₉.extB hk2 k₁₀
    refine wpAny_execs_cons (own_extend (lx := nX) (kx := nI) (xs := xs) (i := i') z₁₀.fw z₁₀.om (by rfl) (by rfl) (by rfl) (by rfl) (by rfl) hi' (by rw [List.length_map, sizeLine_eq]; have : ms'.length ≤ R1.length := (by rw [← e1', List.length_append]; omega); omega) (by rfl) (by rfl) (inter_fn z₁₀.fw.ok) (by rfl) fun ha hb' ka hs f o1 => ?_)
    have o2 := (z₁₀.ou.ext ka).other (Ne.symm hMU) z₁₀.om.inY z₁₀.om.ne_loc hs
    refine wpAny_execs_cons (own_extend (lx := nY) (kx := nJ) (xs := ys) (i := j') f o2 (by rfl) (by rfl) (by rfl) (by rfl) (by rfl) hj' (by rw [List.length_map, sizeLine_eq]; have : us'.length ≤ R2.length := (by rw [← e2', List.length_append]; omega); omega) (by rfl) (by rfl) (inter_fn f.ok) (by rfl) fun hc hd' kc hs' f' o2' => ?_)
    have o1' := (o1.ext kc).other hMU o2.inY o2.ne_loc hs'
    rw [← List.map_append, e1'] at o1'
    rw [← List.map_append, e2'] at o2'
    refine wpAny_execs_cons (wpAny_Break ?_)
    -- return (missing, unexpected)
    refine wpAny_execs_cons (wpAny_Return_some (Tuple_ (args_cons (o1'.name f'.ok (by rfl) (args_cons (o2'.name f'.ok (by rfl) (args_nil (wpAny_newObj_type ?_ (by show (2 : Nat) ≤ sizeLine; decide)))) (by rfl))) (by rfl))))
    obtain ⟨vm, pm, rm⟩ := o1'.ls
    obtain ⟨vu, pu, ru⟩ := o2'.ls
    refine hq _ _ (q _ _ (keeps_both (f'.ext.trans (Ext.push _ _))) ?_)
    have sub : ∀ b, X b → Yo X M U b := fun b hb => .inl (.inl hb)
    refine Rep.of_tuple (vs := #[.ref M, .ref U]) (fun hx => ?_) ⟨_, Heap.get?_push_size _ rfl, rfl, 0, rfl⟩ (.cons (Rep.of_list (fun hx => o1'.new (hX _ hx)) ((Ext.push (H := g.H) _ _).plain pm).isList ((rm.mono sub fun _ _ _ _ e => e).xext (XExt.push _ _))) (.cons (Rep.of_list (fun hx => o2'.new (hX _ hx)) ((Ext.push (H := g.H) _ _).plain pu).isList ((ru.mono sub fun _ _ _ _ e => e).xext (XExt.push _ _))) .nil))
    obtain ⟨oo, eo⟩ := (hX _ hx).ext f'.ext
    exact absurd (Heap.lt_size eo) (Nat.lt_irrefl _)
end
end Mine
namespace Mine
open PySem PyProof.Rows PySem.Calls PySem.Spec

def uldGo {α : Type} [DecidableEq α] : List α → List α → List α → List α × List α
  | [], m, act => (m, act)
  | x :: r, m, act => if x ∈ act then uldGo r m (act.erase x) else uldGo r (m ++ [x]) act
theorem uldGo_len {α : Type} [DecidableEq α] : ∀ (r m act : List α), (uldGo r m act).1.length ≤ r.length + m.length ∧ (uldGo r m act).2.length ≤ act.length ∧ m.length ≤ (uldGo r m act).1.length
  | [], m, act => by simp [uldGo]
  | x :: r, m, act => by
    unfold uldGo
    split
    · have := uldGo_len r m (act.erase x)
      have h2 := List.length_erase_le (a := x) (l := act)
      simp only [List.length_cons]; omega
    · have := uldGo_len r (m ++ [x]) act
      simp only [List.length_cons, List.length_append, List.length_nil] at this ⊢; omega

theorem ive_sub : isSubtype (.type "ValueError") (.type "ValueError") = pure true := by rw [isSubtype_type]; kernel_rfl
theorem ive_exc : isSubtype (.type "ValueError") (.type "BaseException") = pure true := by rw [isSubtype_type]; kernel_rfl
theorem ive_nt : isSubtype (.type ((Manifest.find? "ValueError").elim "type" fun x => x.metatype)) (.type "tuple") = pure false := by
  rw [show ((Manifest.find? "ValueError").elim "type" fun x => x.metatype) = "type" from by kernel_rfl, isSubtype_type]; kernel_rfl

/-- a call that may turn its two lists, which are fresh -/
def FunM (g : G) (n : Nat) (f : Value) (xs ys : List PyData) (d : PyData) : Prop :=
  ∀ (X : Addr → Prop) (A : Around) (s : Shared) (E : Value → Shared → Prop) (Q : Value → Shared → Prop) (hb : Heap) (a b : Addr) (va vb : Array Value), Ok g n X A s → Ext g.H hb s.heap → XExt g.H hb → (∀ c, X c → Old hb c) → ¬ Old hb a → ¬ Old hb b → a ≠ b →
    s.heap.PlainList a va → s.heap.PlainList b vb → RepAll (fun c => (X c ∨ c = a) ∨ c = b) s.heap va.toList xs → RepAll (fun c => (X c ∨ c = a) ∨ c = b) s.heap vb.toList ys →
    (∀ v h' tk, Ext g.H hb h' → Rep X h' v d → Q v { s with heap := h', toks := tk }) → wpAny (model g.prog g.w) A (call f [.ref a, .ref b]) Q E s

abbrev scU : Scope := fScope (stAt pw 2)
abbrev nT : Str := Str.ofString "item"
abbrev wsU : List Str := [nM, nT]

structure UU {α : Type} (enc : α → PyData) (g : G) (Y : Addr → Prop) (hb : Heap) (A : Around) (env : Env) (a b M : Addr) (σ : Sig) (xs ys ms : List α) (h : Heap) : Prop where
  fw : FW g.H Y scU wsU hb env σ h
  oe : Own Y scU hb env nX a (xs.map enc) h
  oa : Own Y scU hb env nY b (ys.map enc) h
  om : Own Y scU hb env nM M (ms.map enc) h
  stk : Stk g.H A h
section
variable {α : Type} {enc : α → PyData} {g : G} {Y : Addr → Prop} {hb : Heap} {A : Around} {env : Env} {a b M : Addr} {σ σ' : Sig} {xs ys ms : List α} {h h' : Heap}
theorem UU.extB {hq : Heap} (x : UU enc g Y hb A env a b M σ xs ys ms h) (hk : ∀ b, Old hb b → Old hq b) (k : ExtB g.H hq h h') : UU enc g Y hb A env a b M σ xs ys ms h' :=
  ⟨x.fw.extB hk k, x.oe.extB k, x.oa.extB k, x.om.extB k, x.stk.mono fun _ d => k.dictAt d⟩
theorem UU.ext (x : UU enc g Y hb A env a b M σ xs ys ms h) (k : Ext g.H h h') : UU enc g Y hb A env a b M σ xs ys ms h' :=
  ⟨x.fw.ext' k, x.oe.ext k, x.oa.ext k, x.om.ext k, x.stk.mono fun _ d => k.dictAt d⟩
theorem stk_but {H : Heap} {c : Addr} (s : Stk H A h) (hs : Heap.SameBut c h h') (hc : ∃ o, h.get? c = some o ∧ SeqO o) : Stk H A h' :=
  s.mono fun L ⟨o, e, d⟩ => ⟨o, hs.extBut L o (by rintro rfl; obtain ⟨o', e', s'⟩ := hc; rw [e] at e'; cases e'; exact s'.hard.noDict d) e, d⟩
end

section
variable {g : G} {n : Nat}

theorem uld_fun {α : Type} [DecidableEq α] {enc : α → PyData} {k : Nat} (hen : Enc enc k) (hke : k ≤ 60) {f : Addr} {xs ys : List α} (hdef : DefAt g (Str.ofString "unorderable_list_difference") f (fArgs (stAt pw 2)) (fBody (stAt pw 2)) (fScope (stAt pw 2))) (hve : Glb g (Str.ofString "ValueError") (.type "ValueError"))
    (hlx : xs.length ≤ 2048) (hly : ys.length ≤ 2048) : FunM g (n + 1) (.ref f) (xs.map enc) (ys.map enc) (.tuple [eL enc (uldGo xs.reverse [] ys).1, eL enc (uldGo xs.reverse [] ys).2]) := by
  intro X A s E Q hb a b va vb o hbx hbb hXo hna hnb hab pa pb ra rb q
  have o1 : Ok g (n + 1) (fun c => (X c ∨ c = a) ∨ c = b) A s := by
    refine ⟨o.a, o.base, ?_, o.stk⟩
    rintro c ((hc | rfl) | rfl)
    · exact o.xb c hc
    · obtain ⟨n, e⟩ := pa; exact ⟨_, e, _, _, rfl⟩
    · obtain ⟨n, e⟩ := pb; exact ⟨_, e, _, _, rfl⟩
  refine call_raw (X := fun c => (X c ∨ c = a) ∨ c = b) (hb := hb) (ws := wsU) (ps := [nX, nY]) (σ := []) hdef (fun _ _ _ => by rfl) (by rfl) (by decide) (by rfl) (by rfl) (by rfl) o1 hbx hbb (fun y d hy => by cases hy) ?_
  intro A' env outer h₁ tk Qf Ef a' hfr hf stk fw ke hns hold xb hq
  obtain ⟨m₀, hm₀, hl₀⟩ := hns
  have oe₁ : Own (fun c => (X c ∨ c = a) ∨ c = b) scU hb env nX a (xs.map enc) h₁ := ⟨by rfl, ⟨m₀, hm₀, hl₀ _ _ (by rfl) (by rfl)⟩, ⟨va, ke.plain pa, ra.ext ke⟩, hna, .inl (.inr rfl)⟩
  have oa₁ : Own (fun c => (X c ∨ c = a) ∨ c = b) scU hb env nY b (ys.map enc) h₁ := ⟨by rfl, ⟨m₀, hm₀, hl₀ _ _ (by rfl) (by rfl)⟩, ⟨vb, ke.plain pb, rb.ext ke⟩, hnb, .inr rfl⟩
  -- missing = []
  refine wpAny_execs_cons (wpAny_Assign_Name (List_ (args_nil (wpAny_newObj_type ?_ (by show (0 : Nat) ≤ sizeLine; exact Nat.zero_le _)))) (by rfl))
  generalize hob : ({ cls := Value.type "list", data := _ } : Obj) = ob
  have hM : ¬ Old hb h₁.objs.size := fun ho => by obtain ⟨oo, eo⟩ := ho.ext fw.ext; exact absurd (Heap.lt_size eo) (Nat.lt_irrefl _)
  have hnea : a ≠ h₁.objs.size := fun q => by obtain ⟨vs, n, hl, _⟩ := oe₁.len; have := Heap.lt_size hl; rw [q] at this; exact Nat.lt_irrefl _ this
  have hneb : b ≠ h₁.objs.size := fun q => by obtain ⟨vs, n, hl, _⟩ := oa₁.len; have := Heap.lt_size hl; rw [q] at this; exact Nat.lt_irrefl _ this
  have f₂ := (fw.avoid (c := h₁.objs.size) (Nat.le_refl _)).ext' (Ext.push h₁ ob)
  have oe₂ := (oe₁.avoid (c := h₁.objs.size) (Nat.le_refl _)).ext (Ext.push (H := g.H) h₁ ob)
  have oa₂ := (oa₁.avoid (c := h₁.objs.size) (Nat.le_refl _)).ext (Ext.push (H := g.H) h₁ ob)
  refine FW.storeO (s := { s with heap := h₁.push ob, toks := _ }) f₂ (x := nM) (by rfl) (by rfl) fun h₃ tk₃ k₃ ⟨m, hm1, hm2, hm3⟩ f₃ => ?_
  have pM : (h₁.push ob).PlainList h₁.objs.size #[] := ⟨0, by rw [← hob]; exact Heap.get?_push_size _ rfl⟩
  have om₃ : Own (fun c => ((X c ∨ c = a) ∨ c = b) ∨ c = h₁.objs.size) scU hb env nM h₁.objs.size (([] : List α).map enc) h₃ :=
    ⟨by rfl, ⟨_, hm2, by simp⟩, ⟨#[], let ⟨n, e⟩ := pM; ⟨n, (k₃ (fun _ => False)).hard _ _ (fun q => q) (.inl ⟨_, _, rfl⟩) e⟩, .nil⟩, hM, .inr rfl⟩
  have z₃ : UU enc g (fun c => ((X c ∨ c = a) ∨ c = b) ∨ c = h₁.objs.size) hb A' env a b h₁.objs.size [] xs ys [] h₃ :=
    ⟨f₃, oe₂.stored (by decide) hm1 hm2 hm3, oa₂.stored (by decide) hm1 hm2 hm3, om₃, stk.mono fun L d => (k₃ (fun _ => False)).dict L ((Ext.push (H := g.H) h₁ ob).dictAt d)⟩
  obtain ⟨Y, hY⟩ : ∃ Y : Addr → Prop, (fun c => ((X c ∨ c = a) ∨ c = b) ∨ c = h₁.objs.size) = Y := ⟨_, rfl⟩
  have subY : ∀ c, X c → Y c := by rw [← hY]; exact fun c hc => .inl (.inl (.inl hc))
  rw [hY] at z₃
  generalize h₁.objs.size = M at *
  clear hm1 hm2 hm3 pM om₃ f₃ oe₂ oa₂ f₂ oe₁ oa₁ hob
  obtain ⟨L1, L2, _⟩ := uldGo_len xs.reverse [] ys
  rw [List.length_reverse] at L1
  simp only [List.length_nil] at L1
  generalize hR : uldGo xs.reverse [] ys = R at *
  -- the loop
  refine wpAny_execs_cons (wpAny_While (codeAny_whileLoop (fun n s' => ∃ (r ms us : List α) (h : Heap) (tk : Nat), s' = { s with heap := h, toks := tk } ∧ UU enc g Y hb A' env a b M [] r.reverse us ms h ∧
    uldGo r ms us = R ∧ us.length ≤ ys.length ∧ r.length ≤ xs.length ∧ n = r.length) ?_ xs.length ⟨xs.reverse, [], ys, h₃, _, rfl, by rw [List.reverse_reverse]; exact z₃, hR, Nat.le_refl _, by simp, by simp⟩))
  rintro n' s' ⟨r, ms, us, h, tk', rfl, z, eR, lus, lr, rfl⟩
  have hL := uldGo_len r ms us
  rw [eR] at hL
  obtain ⟨ve, ne, hle, hlen, re⟩ := z.oe.len
  rw [List.length_map, List.length_reverse] at hlen
  refine isTrue_plain (z.oe.name z.fw.ok (by rfl) (wpAny_truthy_list (items := ve) ⟨_, hle, rfl, ne, rfl⟩ ?_ ?_)) (by rfl)
  · omega
  cases r with
  | nil =>
    have : ve.isEmpty = true := by rw [Array.isEmpty_iff_size_eq_zero]; simpa using hlen
    rw [this]
    simp only [Bool.not_true, Bool.false_eq_true, if_false]
    refine wpAny_execs_nil ?_
    unfold uldGo at eR
    subst eR
    refine wpAny_execs_cons (wpAny_Return_some (Tuple_ (args_cons (z.om.name (s := { s with heap := h, toks := _ }) z.fw.ok (by rfl) (args_cons (z.oa.name (s := { s with heap := h, toks := _ }) z.fw.ok (by rfl) (args_nil (wpAny_newObj_type ?_ (by show (2 : Nat) ≤ sizeLine; decide)))) (by rfl))) (by rfl))))
    obtain ⟨vm, pm, rm⟩ := z.om.ls
    obtain ⟨vu, pu, ru⟩ := z.oa.ls
    refine hq _ _ (q _ _ _ (z.fw.ext.trans (Ext.push _ _)) ?_)
    refine Rep.of_tuple (vs := #[.ref M, .ref b]) (fun hx => ?_) ⟨_, Heap.get?_push_size _ rfl, rfl, 0, rfl⟩ (.cons (Rep.of_list (fun hx => z.om.new (hXo _ hx)) ((Ext.push (H := g.H) _ _).plain pm).isList ((rm.mono subY fun _ _ _ _ e => e).xext (XExt.push _ _))) (.cons (Rep.of_list (fun hx => z.oa.new (hXo _ hx)) ((Ext.push (H := g.H) _ _).plain pu).isList ((ru.mono subY fun _ _ _ _ e => e).xext (XExt.push _ _))) .nil))
    obtain ⟨oo, eo⟩ := (hXo _ hx).ext z.fw.ext
    exact absurd (Heap.lt_size eo) (Nat.lt_irrefl _)
  | cons x r =>
    have hne : ve.isEmpty = false := by
      cases hb' : ve.isEmpty with
      | false => rfl
      | true => rw [Array.isEmpty_iff_size_eq_zero] at hb'; simp only [List.length_cons] at hlen; omega
    rw [hne]
    simp only [Bool.not_false, if_true]
    simp only [List.length_cons] at lr hL
    have oe' := z.oe
    rw [List.reverse_cons, List.map_append, List.map_cons, List.map_nil] at oe'
    refine wpAny_execs_cons (wpAny_Assign_Name (own_pop (s := { s with heap := h, toks := _ }) (ds := r.reverse.map enc) (d := enc x) z.fw oe' (by rfl) (by rw [List.length_map, List.length_reverse, sizeLine_eq]; omega) (by rfl) (by rfl) fun v h₄ hs₄ f₄ o₄ rv => ?_) (by rfl))
    have oa₄ := z.oa.other (Ne.symm hab) z.oe.inY z.oe.ne_loc hs₄
    have om₄ := z.om.other (Ne.symm hnea) z.oe.inY z.oe.ne_loc hs₄
    have stk₄ := stk_but z.stk hs₄ z.oe.seqo
    refine FW.storeL (s := { s with heap := h₄, toks := _ }) f₄ (x := nT) (by rfl) rv fun h₅ tk₅ k₅ ⟨m, hm1, hm2, hm3⟩ f₅ => ?_
    have z₅ : UU enc g Y hb A' env a b M [(nT, enc x)] r.reverse us ms h₅ := ⟨f₅, o₄.stored (by decide) hm1 hm2 hm3, oa₄.stored (by decide) hm1 hm2 hm3, om₄.stored (by decide) hm1 hm2 hm3, stk₄.mono (k₅ (fun _ => False)).dict⟩
    clear hm1 hm2 hm3
    have hun := a'.units
    have lms : ms.length ≤ xs.length := by omega
    refine wpAny_execs_cons (wpAny_Try_except (wpAny_execs_cons (own_remove (s := { s with heap := h₅, toks := _ }) hen hke (v := nT) (c := x) z₅.fw z₅.oa (by rfl) a'.handled (by omega) (by rfl) (by rfl) (by rw [sizeLine_eq]; omega) (by rfl) (by rfl) (inter_fn z₅.fw.ok) (by rfl) (fun hin h₆ hs₆ f₆ o₆ => ?_) fun hout h₆ tk₆ e xx => ?_)))
    · refine wpAny_execs_nil (wpAny_execs_nil (wpAny_execs_nil ?_))
      refine ⟨r.length, by simp, r, ms, us.erase x, h₆, _, rfl, ⟨f₆.sub (fun _ _ h => by cases h), z₅.oe.other hab z₅.oa.inY z₅.oa.ne_loc hs₆, o₆, z₅.om.other (Ne.symm hneb) z₅.oa.inY z₅.oa.ne_loc hs₆, stk_but z₅.stk hs₆ z₅.oa.seqo⟩, ?_, ?_, by omega, rfl⟩
      · rw [← eR]; conv => rhs; unfold uldGo
        rw [if_pos hin]
      · have := List.length_erase_le (a := x) (l := us); omega
    · have hyp : XExt g.H h₅ := z₅.fw.ext.base z₅.fw.base
      have x₆ := exc_new hyp xx
      have k₆ : Ext g.H h₅ h₆ := Ext.of xx.keeps
      have z₆ := z₅.ext k₆
      have hold5 : ∀ c, Old hb c → Old h₅ c := fun c o => o.ext z₅.fw.ext
      refine exc_note hfr z₆.stk hf x₆ (fun c o => o.ext k₆) (.inl rfl) fun h₈ k₈ x₈ => exc_flight (fr := none) x₈ fun h₉ k₉ x₉ => ?_
      have z₉ := (z₆.extB hold5 k₈).extB hold5 k₉
      refine wpAny_handleBy_builtin (X := "ValueError") (T := "ValueError") (b := true) ive_exc ive_nt ive_sub (load_glb' (by rfl) hve (by rfl) (z₉.fw.ext.base z₉.fw.base) z₉.fw.ok ⟨rfl, x₉.typeIs, ?_⟩)
      rw [if_pos rfl]
      refine exc_flight (fr := none) x₉ fun h₁₀ k₁₀ x₁₀ => ?_
      have z₁₀ := z₉.extB hold5 k₁₀
      refine wpAny_execs_cons (own_append (s := { s with heap := h₁₀, toks := _ }) (v := nT) (d := enc x) z₁₀.fw z₁₀.om (by rfl) (by rfl) (by rfl) (by rw [List.length_map, sizeLine_eq]; omega) (by rfl) (by rfl) (inter_fn z₁₀.fw.ok) (by rfl) fun h₁₁ hs f' o' => ?_)
      refine wpAny_execs_nil (wpAny_execs_nil ?_)
      refine ⟨r.length, by simp, r, ms ++ [x], us, h₁₁, _, rfl, ⟨f'.sub (fun _ _ h => by cases h), z₁₀.oe.other hnea z₁₀.om.inY z₁₀.om.ne_loc hs, z₁₀.oa.other hneb z₁₀.om.inY z₁₀.om.ne_loc hs, by rw [List.map_append]; exact o', stk_but z₁₀.stk hs z₁₀.om.seqo⟩, ?_, lus, by omega, rfl⟩
      rw [← eR]; conv => rhs; unfold uldGo
      rw [if_neg hout]
end
end Mine
namespace Mine
open PySem PyProof.Rows PySem.Calls PySem.Spec

theorem RepW.old {X : Addr → Prop} {h : Heap} {b : Bool} {vs : List Value} {ds : List PyData} (r : RepW X h b vs ds) : RepW (fun c => X c ∨ ¬ Old h c) h b vs ds := by
  induction r with
  | bool b => exact .bool b
  | int i t => exact .int i t
  | list x e c d _ ih => exact .list (fun q => q.elim x fun q => q ⟨_, e⟩) e c d ih
  | tuple x e c d _ ih => exact .tuple (fun q => q.elim x fun q => q ⟨_, e⟩) e c d ih
  | nil => exact .nil
  | cons _ _ i1 i2 => exact .cons i1 i2
theorem Rep.avoidO {X : Addr → Prop} {h : Heap} {v : Value} {d : PyData} {a : Addr} (r : Rep X h v d) (ha : ¬ Old h a) : Rep (fun c => X c ∨ c = a) h v d :=
  RepW.mono (RepW.old r) (fun b hb => hb.elim .inl fun q => .inr (q ▸ ha)) fun _ _ _ _ e => e
theorem RepAll.avoidO {X : Addr → Prop} {h : Heap} {v : List Value} {d : List PyData} {a : Addr} (r : RepAll X h v d) (ha : ¬ Old h a) : RepAll (fun c => X c ∨ c = a) h v d :=
  RepW.mono (RepW.old r) (fun b hb => hb.elim .inl fun q => .inr (q ▸ ha)) fun _ _ _ _ e => e
theorem EnvOK.avoidO {X : Addr → Prop} {sc : Scope} {env : Env} {h : Heap} {σ : Sig} {a : Addr} (e : EnvOK X sc env h σ) (ha : ¬ Old h a) : EnvOK (fun c => X c ∨ c = a) sc env h σ where
  scope := e.scope
  kind := e.kind
  globals := e.globals
  builtins := e.builtins
  loc := let ⟨m, a, b⟩ := e.loc; ⟨m, a, fun x d h1 h2 => let ⟨v, p, q⟩ := b x d h1 h2; ⟨v, p, q.avoidO ha⟩⟩
  cell := fun x d h1 h2 => let ⟨c, v, p, q, r⟩ := e.cell x d h1 h2; ⟨c, v, p, q, r.avoidO ha⟩
  apart := e.apart

section
variable {g : G} {n : Nat} {sc : Scope} {σ : Sig}
theorem ev_lst {es : List Expr} {pos : Pos} {ds : List PyData} (h : EvL g n sc σ es ds) (hsz : ds.length ≤ sizeLine := by exact Nat.le_of_ble_eq_true (by rfl)) : Ev g n sc σ (.List es pos) (.list ds) := ev_list h hsz
theorem ev_tup {es : List Expr} {k : Nat} {pos : Pos} {ds : List PyData} (h : EvL g n sc σ es ds) (hsz : ds.length ≤ sizeLine := by exact Nat.le_of_ble_eq_true (by rfl)) : Ev g n sc σ (.Tuple es k pos) (.tuple ds) := ev_tuple h hsz
theorem evf_lst {es : List Expr} {pos : Pos} {ds : List PyData} (h : EvL g n sc σ es ds) (hsz : ds.length ≤ sizeLine := by exact Nat.le_of_ble_eq_true (by rfl)) : EvF g n sc σ (.List es pos) ds := evf_list h hsz
theorem ev_call_m {x : Str} {f : Addr} {params : Arguments} {body : List Stmt} {fsc : Scope} {p pos : Pos} {e1 e2 : Expr} {xs ys : List PyData} {d : PyData} (hk : sc.names.lookup x = some .globalImplicit) (hg : DefAt g x f params body fsc) (hd : (x == ("__debug__" : Str)) = false)
    (h1 : EvF g n sc σ e1 xs) (h2 : EvF g n sc σ e2 ys) (hF : FunM g n (.ref f) xs ys d) (he : ∀ env, starEach [e1, e2] env = (false, eval e1 env) :: starEach [e2] env := by intro _; rfl) (he2 : ∀ env, starEach [e2] env = [(false, eval e2 env)] := by intro _; rfl) :
    Ev g n sc σ (.Call (.Name x p) [e1, e2] [] pos) d := by
  intro X A env s E Q o ev q
  refine Call_ (load_glb hk (.inl hg.glb) hd o ev ?_) (by rfl)
  obtain ⟨ob, pm, code, doc, hh1, hh2, hh3⟩ := hg.obj
  refine callWith_def hh2 (args_cons (h1 X A env s E _ o ev fun a va s₁ k₁ na pa ra => ?_) (he env)) (he env)
  have o₁ := o.keeps k₁
  have ke₁ := keeps_ext k₁
  have ok₁ : Ok g n (fun c => X c ∨ c = a) A s₁ := by
    refine ⟨o₁.a, o₁.base, ?_, o₁.stk⟩
    rintro c (hc | rfl)
    · exact o₁.xb c hc
    · obtain ⟨n, e⟩ := pa; exact ⟨_, e, _, _, rfl⟩
  refine args_cons (h2 _ A env s₁ E _ ok₁ ((ev.avoidO na).ext ke₁) fun b vb s₂ k₂ nb pb rb => args_nil ⟨(ok₁.keeps k₂).base _ _ hh1, ?_⟩) (he2 env)
  have ke₂ := keeps_ext k₂
  have hab : a ≠ b := by rintro rfl; obtain ⟨n, e⟩ := pa; exact nb ⟨_, e⟩
  have o₂ := o₁.keeps k₂
  refine hF X A s₂ E Q s.heap a b va vb o₂ (ke₁.trans ke₂) o.base (fun c hc => let ⟨oo, e, _⟩ := o.xb c hc; ⟨oo, e⟩) na (fun ho => nb (ho.ext ke₁)) hab (ke₂.plain pa) pb ((ra.avoidO nb).ext ke₂) rb fun v h' tk k' r' => q v _ ?_ r'
  obtain ⟨h₁, t₁, rfl, _⟩ := k₁
  obtain ⟨h₂, t₂, rfl, _⟩ := k₂
  exact ⟨h', tk, rfl, k'⟩
end
end Mine
namespace Mine
open PySem PyProof.Rows PySem.Calls PySem.Spec

section
variable {g : G} {n : Nat} {sc : Scope} {σ : Sig}
/-- one clause with a name for a target -/
theorem compN {α β : Type} {enc : α → PyData} {enc' : β → PyData} {xs : List α} {p : α → Bool} {fn : α → β} {x : Str} {px : Pos} {elt iter : Expr} {ifs : List Expr} {scope : Scope} {pos : Pos}
    (hs : scopeOk scope = true) (hfree : freeOk scope sc σ = true) (hap : apartOk scope σ = true) (hws : ownOk scope [x] = true) (hit : EvIt g n sc σ (.Name x px) iter (xs.map enc))
    (htest : ∀ v, v ∈ xs → Tests g n (relabelS scope sc) ((x, enc v) :: σ) ifs (p v))
    (helt : ∀ v, v ∈ xs → p v = true → Ev g n (relabelS scope sc) ((x, enc v) :: σ) elt (enc' (fn v)))
    (hsz : xs.length ≤ sizeLine) (hf : ∀ env x, foldedSetIterable iter env x = pure x := by intro _ _; rfl) :
    Comp g n sc σ (.ListComp elt [⟨.Name x px, iter, ifs, 0⟩] scope pos) (((xs.filter p).map fn).map enc') :=
  comp1 (ws := [x]) (fun v => [(x, enc v)]) hs hfree hap hws hit (fun v => asg_name (List.mem_cons_self ..)) (fun v q hq => by simp at hq; subst hq; simp) htest helt hsz hf
theorem compM {α β : Type} {enc : α → PyData} {enc' : β → PyData} {xs : List α} {fn : α → β} {x : Str} {px : Pos} {elt iter : Expr} {scope : Scope} {pos : Pos}
    (hs : scopeOk scope = true) (hfree : freeOk scope sc σ = true) (hap : apartOk scope σ = true) (hws : ownOk scope [x] = true) (hit : EvIt g n sc σ (.Name x px) iter (xs.map enc))
    (helt : ∀ v, v ∈ xs → Ev g n (relabelS scope sc) ((x, enc v) :: σ) elt (enc' (fn v)))
    (hsz : xs.length ≤ sizeLine) (hf : ∀ env x, foldedSetIterable iter env x = pure x := by intro _ _; rfl) :
    Comp g n sc σ (.ListComp elt [⟨.Name x px, iter, [], 0⟩] scope pos) ((xs.map fn).map enc') := by
  have := compN (p := fun _ => true) hs hfree hap hws hit (fun v _ => tests_nil) (fun v hv _ => helt v hv) hsz hf (enc' := enc') (fn := fn) (pos := pos)
  rw [List.filter_eq_self.mpr (fun _ _ => rfl)] at this
  exact this
theorem compF {α : Type} {enc : α → PyData} {xs : List α} {p : α → Bool} {x : Str} {px : Pos} {elt iter : Expr} {ifs : List Expr} {scope : Scope} {pos : Pos}
    (hs : scopeOk scope = true) (hfree : freeOk scope sc σ = true) (hap : apartOk scope σ = true) (hws : ownOk scope [x] = true) (hit : EvIt g n sc σ (.Name x px) iter (xs.map enc))
    (htest : ∀ v, v ∈ xs → Tests g n (relabelS scope sc) ((x, enc v) :: σ) ifs (p v))
    (helt : ∀ v, v ∈ xs → p v = true → Ev g n (relabelS scope sc) ((x, enc v) :: σ) elt (enc v))
    (hsz : xs.length ≤ sizeLine) (hf : ∀ env x, foldedSetIterable iter env x = pure x := by intro _ _; rfl) :
    Comp g n sc σ (.ListComp elt [⟨.Name x px, iter, ifs, 0⟩] scope pos) ((xs.filter p).map enc) := by
  have := compN (fn := id) hs hfree hap hws hit htest (fun v hv hp => helt v hv hp) hsz hf (enc' := enc) (pos := pos)
  rw [List.map_id] at this
  exact this
theorem pySlice_all {α : Type} (xs : List α) : pySlice xs none none = xs := by unfold pySlice; simp
theorem evf_copy {α : Type} {enc : α → PyData} {xs : List α} {value : Expr} {p pos : Pos} (h1 : Ev g n sc σ value (eL enc xs)) (hsz : xs.length ≤ sizeLine) : EvF g n sc σ (.Subscript value (.Slice none none none p) pos) (xs.map enc) := by
  have := evf_slice (p := p) (pos := pos) h1 part_none part_none hsz
  rw [pySlice_all] at this
  exact this
theorem getD_at {xs : List Int} {i : Nat} (h : i < xs.length) : xs[i]? = some (xs.getD i 0) := by simp [List.getD, h]
theorem range4 : rangeL 0 4 1 = [0, 1, 2, 3] := by decide +kernel
theorem ev_idx {xs : List Int} {i : Int} {value slice : Expr} {pos : Pos} (h1 : Ev g n sc σ value (eL .int xs)) (h2 : Ev g n sc σ slice (.int i)) (h0 : 0 ≤ i) (hx : i.toNat < xs.length) (hfit : i < 2 ^ 63)
    (hsl : ∀ o i, subscripted slice false o i = operate [o, i] (getItem o i) := by intro _ _; rfl) : Ev g n sc σ (.Subscript value slice pos) (.int (xs.getD i.toNat 0)) := ev_item (enc := .int) h1 h2 h0 (getD_at hx) hfit hsl
end

section
variable {g : G} {n : Nat} {sc : Scope} {σ : Sig}
theorem ev_itemD {α : Type} {enc : α → PyData} {xs : List α} {d : α} {i : Int} {value slice : Expr} {pos : Pos} (h1 : Ev g n sc σ value (eL enc xs)) (h2 : Ev g n sc σ slice (.int i)) (h0 : 0 ≤ i) (hx : i.toNat < xs.length) (hfit : i < 2 ^ 63)
    (hsl : ∀ o i, subscripted slice false o i = operate [o, i] (getItem o i) := by intro _ _; rfl) : Ev g n sc σ (.Subscript value slice pos) (enc (xs.getD i.toNat d)) := ev_item (enc := enc) h1 h2 h0 (by simp [List.getD, hx]) hfit hsl

/-- two clauses with names for targets, a test behind the second, the second's item kept -/
theorem compFlatF {α γ : Type} {enc : α → PyData} {enc2 : γ → PyData} {xs : List α} {ys : α → List γ} {p : α → γ → Bool} {x y : Str} {px py : Pos} {elt iter iter2 : Expr} {ifs : List Expr} {scope : Scope} {pos : Pos}
    (hs : scopeOk scope = true) (hfree : freeOk scope sc σ = true) (hap : apartOk scope σ = true) (hws : ownOk scope [x, y] = true) (hxy : x ≠ y) (hy : σ.lookup y = none)
    (hit : EvIt g n sc σ (.Name x px) iter (xs.map enc)) (hit2 : ∀ v, v ∈ xs → EvIt g n (relabelS scope sc) ((x, enc v) :: σ) (.Name y py) iter2 ((ys v).map enc2))
    (htest : ∀ v, v ∈ xs → ∀ u, u ∈ ys v → Tests g n (relabelS scope sc) ((y, enc2 u) :: (x, enc v) :: σ) ifs (p v u))
    (helt : ∀ v, v ∈ xs → ∀ u, u ∈ ys v → Ev g n (relabelS scope sc) ((y, enc2 u) :: (x, enc v) :: σ) elt (enc2 u))
    (hsz : (xs.flatMap fun v => (ys v).filter (p v)).length ≤ sizeLine) (hf : ∀ env x, foldedSetIterable iter env x = pure x := by intro _ _; rfl) (hf2 : ∀ env x, foldedSetIterable iter2 env x = pure x := by intro _ _; rfl) :
    Comp g n sc σ (.ListComp elt [⟨.Name x px, iter, [], 0⟩, ⟨.Name y py, iter2, ifs, 0⟩] scope pos) ((xs.flatMap fun v => (ys v).filter (p v)).map enc2) := by
  have := comp2 (ws := [x, y]) (p := p) (enc2 := enc2) (enc' := enc2) (fn := fun _ u => u) (ys := ys) (pos := pos) (fun v => [(x, enc v)]) (fun u => [(y, enc2 u)]) hs hfree hap hws hit (fun v => asg_name (List.mem_cons_self ..)) (fun v q hq => by simp at hq; subst hq; simp)
    hit2 (fun u => asg_name (List.mem_cons_of_mem _ (List.mem_cons_self ..))) (fun v z d hz u => ?_) htest (fun v hv u hu _ => helt v hv u hu) (by simpa only [List.map_id'] using hsz) hf hf2
  · simpa only [List.map_id'] using this
  · have hzy : z ≠ y := by
      rintro rfl
      have : ((x, enc v) :: σ).lookup z = some d := hz
      rw [lookup_cons_ne (Ne.symm hxy), hy] at this; cases this
    show ((y, enc2 u) :: ((x, enc v) :: σ)).lookup z = some d
    rw [lookup_cons_ne hzy]; exact hz
theorem Ret.sub {sc : Scope} {ws : List Str} {σ σ' : Sig} {body : List Stmt} {d : PyData} (h : Ret g n sc ws σ' body d) (k : ∀ p ∈ σ', σ.lookup p.1 = some p.2) : Ret g n sc ws σ body d :=
  fun X hb A env s E Q a b f x q => h X hb A env s E Q a b (f.sub (sub_of k)) x q
theorem execs_sub {ws : List Str} {σ' : Sig} (k : ∀ p ∈ σ', σ.lookup p.1 = some p.2) : Execs g n sc ws σ [] σ' := fun X hb A env s E Q a b f x q => wpAny_execs_nil (q s.heap s.toks (fun D => Hk.refl D _) (f.sub (sub_of k)))
def enumP {α : Type} (xs : List α) : List (Int × α) := xs.mapIdx fun i x => ((i : Int), x)
theorem enumL_map {α : Type} (f : α → PyData) (xs : List α) : enumL (xs.map f) = (enumP xs).map (eP .int f) := by
  unfold enumL enumP
  apply List.ext_getElem?
  intro i
  simp only [List.getElem?_mapIdx, List.getElem?_map, Option.map_map]
  rfl
end

theorem mem_rangeL {a b c x : Int} (hc : 0 < c) (h : x ∈ rangeL a b c) : a ≤ x ∧ x < b := by
  unfold rangeL at h
  obtain ⟨i, hi, rfl⟩ := List.mem_map.mp h
  rw [List.mem_range] at hi
  unfold Builtin.Range.rangeSize at hi
  rw [if_pos hc] at hi
  by_cases hab : a < b
  · rw [if_pos hab] at hi
    have h1 : (i : Int) ≤ (b - a - 1) / c := by omega
    have h2 : (i : Int) * c ≤ b - a - 1 := Int.le_trans (Int.mul_le_mul_of_nonneg_right h1 (Int.le_of_lt hc)) (Int.ediv_mul_le _ (by omega))
    have h3 : 0 ≤ (i : Int) * c := Int.mul_nonneg (by omega) (Int.le_of_lt hc)
    omega
  · rw [if_neg hab] at hi; simp at hi
theorem len_rangeL {a b c : Int} (hc : 0 < c) (ha : 0 ≤ a) (hb : 0 ≤ b) : ((rangeL a b c).length : Int) ≤ b := by
  unfold rangeL
  rw [List.length_map, List.length_range]
  unfold Builtin.Range.rangeSize
  rw [if_pos hc]
  split
  · have : (b - a - 1) / c ≤ b - a - 1 := Int.ediv_le_self _ (by omega)
    omega
  · omega

end Mine
namespace Mine
open PySem PyProof.Rows PySem.Calls PySem.Spec

structure Gt1 (g : G) : Prop where
  range : Glb g (Str.ofString "range") (.type "range")
  len : Glb g (Str.ofString "len") (.builtin "len")
  sum : Glb g (Str.ofString "sum") (.builtin "sum")
  sorted : Glb g (Str.ofString "sorted") (.builtin "sorted")
  enum : Glb g (Str.ofString "enumerate") (.type "enumerate")
  ie : Glb g (Str.ofString "IndexError") (.type "IndexError")
  ve : Glb g (Str.ofString "ValueError") (.type "ValueError")
structure Dt1 (g : G) (s u c ad su cl ba : Addr) : Prop where
  s : DefAt g (Str.ofString "sorted_list_difference") s (fArgs (stAt pw 1)) (fBody (stAt pw 1)) (fScope (stAt pw 1))
  u : DefAt g (Str.ofString "unorderable_list_difference") u (fArgs (stAt pw 2)) (fBody (stAt pw 2)) (fScope (stAt pw 2))
  c : DefAt g (Str.ofString "three_way_cmp") c (fArgs (stAt pw 3)) (fBody (stAt pw 3)) (fScope (stAt pw 3))
  ad : DefAt g (Str.ofString "_law_add") ad (fArgs (stAt pw 5)) (fBody (stAt pw 5)) (fScope (stAt pw 5))
  su : DefAt g (Str.ofString "_law_sums") su (fArgs (stAt pw 6)) (fBody (stAt pw 6)) (fScope (stAt pw 6))
  cl : DefAt g (Str.ofString "_law_clear") cl (fArgs (stAt pw 7)) (fBody (stAt pw 7)) (fScope (stAt pw 7))
  ba : DefAt g (Str.ofString "_law_bases") ba (fArgs (stAt pw 8)) (fBody (stAt pw 8)) (fScope (stAt pw 8))

def addF (a b : List Int) : List Int := sortI ((sldGo a b).1 ++ (sldGo a b).2)
def sumsF (rows : List (List Int)) : List (List Int) := rows.foldl (fun s r => s ++ s.map fun one => addF one r) [[]]
def uF {α : Type} [DecidableEq α] (xs ys : List α) : List α × List α := uldGo xs.reverse [] ys
def endOf (v : List Int) : List Int := pySlice v (some (-1)) none
def clr1 (rest base : List Int) : List Int := if (uF (endOf base) rest).1 = [] then addF rest base else rest
def clearF (row : List Int) (bases : List (List Int)) : List Int := bases.foldl clr1 row
def stepF (bases : List (List Int)) (row : List Int) : List (List Int) := if clearF row bases = [] then bases else (bases.map fun base => clearF base [clearF row bases]) ++ [clearF row bases]
def basesF (rows : List (List Int)) : List (List Int) := rows.foldl stepF []
def outF (names : List Int) (bases : List (List Int)) : List (List Int) := names.flatMap fun name => bases.filter fun base => decide (endOf base = [name])
def cmpL (x y : List Int) : Int := b2i (ltL y x) - b2i (ltL x y)

/-- a kind of vectors that adding keeps -/
structure Clo (S : List Int → Prop) : Prop where
  nil : S []
  add : ∀ a b, S a → S b → S (addF a b)
  len : ∀ a, S a → a.length < 32

section
variable {S : List Int → Prop}
theorem Clo.clr1 (C : Clo S) {a b : List Int} (ha : S a) (hb : S b) : S (clr1 a b) := by unfold Mine.clr1; split; exact C.add _ _ ha hb; exact ha
theorem Clo.clear (C : Clo S) : ∀ {bases : List (List Int)} {row : List Int}, S row → (∀ b ∈ bases, S b) → S (clearF row bases)
  | [], row, h, _ => h
  | b :: bs, row, h, hb => C.clear (bases := bs) (C.clr1 h (hb b (List.mem_cons_self ..))) fun x hx => hb x (List.mem_cons_of_mem _ hx)
theorem Clo.step (C : Clo S) {bases : List (List Int)} {row : List Int} (h : S row) (hb : ∀ b ∈ bases, S b) : ∀ b ∈ stepF bases row, S b := by
  unfold stepF
  split
  · exact hb
  · intro b hm
    rcases List.mem_append.mp hm with hm | hm
    · obtain ⟨x, hx, rfl⟩ := List.mem_map.mp hm
      exact C.clear (hb x hx) fun y hy => by rw [List.mem_singleton.mp hy]; exact C.clear h hb
    · rw [List.mem_singleton.mp hm]; exact C.clear h hb
theorem Clo.sums (C : Clo S) : ∀ {rows : List (List Int)} {acc : List (List Int)}, (∀ r ∈ rows, S r) → (∀ a ∈ acc, S a) → ∀ v ∈ rows.foldl (fun s r => s ++ s.map fun one => addF one r) acc, S v
  | [], acc, _, h => h
  | r :: rows, acc, hr, h => C.sums (rows := rows) (fun x hx => hr x (List.mem_cons_of_mem _ hx)) fun v hv => by
    rcases List.mem_append.mp hv with hv | hv
    · exact h v hv
    · obtain ⟨x, hx, rfl⟩ := List.mem_map.mp hv; exact C.add _ _ (h x hx) (hr r (List.mem_cons_self ..))
theorem Clo.bases (C : Clo S) : ∀ {rows : List (List Int)} {acc : List (List Int)}, (∀ r ∈ rows, S r) → (∀ a ∈ acc, S a) → ∀ v ∈ rows.foldl stepF acc, S v
  | [], acc, _, h => h
  | r :: rows, acc, hr, h => C.bases (rows := rows) (fun x hx => hr x (List.mem_cons_of_mem _ hx)) (C.step (hr r (List.mem_cons_self ..)) h)
end
theorem foldl_take {α β : Type} (f : β → α → β) (b : β) {l : List α} {i : Nat} {x : α} (h : l[i]? = some x) : (l.take (i + 1)).foldl f b = f ((l.take i).foldl f b) x := by
  obtain ⟨hi, rfl⟩ := List.getElem?_eq_some_iff.mp h
  rw [List.take_succ_eq_append_getElem hi, List.foldl_append]; rfl
theorem sums_len (rows : List (List Int)) : ∀ acc : List (List Int), (rows.foldl (fun s r => s ++ s.map fun one => addF one r) acc).length = 2 ^ rows.length * acc.length := by
  induction rows with
  | nil => intro acc; simp
  | cons r rows ih => intro acc; rw [List.foldl_cons, ih, List.length_append, List.length_map, List.length_cons, Nat.pow_succ]; rw [Nat.mul_assoc]; congr 1; omega

section
variable {g : G} {n : Nat} {s u c ad su cl ba : Addr} {S : List Int → Prop}
theorem add_fun (G : Gt1 g) (D : Dt1 g s u c ad su cl ba) {a b : List Int} (ha : a.length < 32) (hb : b.length < 32) : Fun g (n + 2) (.ref ad) [eL .int a, eL .int b] (eL .int (addF a b)) := by
  have hl := sldGo_len a b
  refine fun_def (ws := [Str.ofString "lacks", Str.ofString "over"]) (ps := [Str.ofString "one", Str.ofString "two"]) D.ad (fun vs hv pm code doc => ?_) (by rfl) (by decide) (by rfl) (by rfl) (by rfl) ?_
  · match vs, hv with | [_, _], _ => rfl
  refine ret_cons (exec_tuple (ds := [eL .int (sldGo a b).1, eL .int (sldGo a b).2]) (ev_call_f (by rfl) D.s (by rfl) (evl_cons (ev_name (by rfl) (by rfl)) (evl_cons (ev_name (by rfl) (by rfl)) evl_nil)) (sld_fun D.s G.ie (by omega) (by omega))) (asg_tuple (asgl_cons (asg_name (by decide)) (asgl_cons (asg_name (by decide)) asgl_nil)))) ?_
  refine ret_return (ev_call_b (by rfl) G.sorted (by rfl) (evl_cons (ev_binop (a := eL .int (sldGo a b).1) (b := eL .int (sldGo a b).2) (ev_name (by rfl) (by rfl)) (ev_name (by rfl) (by rfl)) (op_addl (by rw [sizeLine_eq]; omega))) evl_nil) (fun_sorted (by rw [List.length_append]; omega)))

theorem cmpl_fun (D : Dt1 g s u c ad su cl ba) {x y : List Int} : Fun g (n + 1) (.ref c) [eL .int x, eL .int y] (.int (cmpL x y)) := by
  refine fun_def (ws := []) (ps := [Str.ofString "x", Str.ofString "y"]) D.c (fun vs hv pm code doc => ?_) (by rfl) (by decide) (by rfl) (by rfl) (by rfl) ?_
  · match vs, hv with | [_, _], _ => rfl
  · exact ret_return (ev_binop (ev_cmp (a := eL .int x) (b := eL .int y) (ev_name (by rfl) (by rfl)) (ev_name (by rfl) (by rfl)) op_gtl) (ev_cmp (a := eL .int x) (b := eL .int y) (ev_name (by rfl) (by rfl)) (ev_name (by rfl) (by rfl)) op_ltl) op_subb)
end
end Mine
namespace Mine
open PySem PyProof.Rows PySem.Calls PySem.Spec

abbrev mSums : Str := Str.ofString "sums"
abbrev mRows : Str := Str.ofString "rows"
abbrev mRow : Str := Str.ofString "row"
abbrev mRest : Str := Str.ofString "rest"
abbrev mBases : Str := Str.ofString "bases"
abbrev mBase : Str := Str.ofString "base"
abbrev mNames : Str := Str.ofString "names"

section
variable {g : G} {n : Nat} {s u c ad su cl ba : Addr} {S : List Int → Prop}
theorem at_map {α : Type} {f : α → PyData} {l : List α} {i : Nat} {d : PyData} (h : (l.map f)[i]? = some d) : ∃ x, l[i]? = some x ∧ d = f x := by
  rw [List.getElem?_map] at h
  obtain ⟨x, hx, rfl⟩ := Option.map_eq_some_iff.mp h
  exact ⟨x, hx, rfl⟩
theorem mem_take {α : Type} {l : List α} {i : Nat} {x : α} (h : x ∈ l.take i) : x ∈ l := List.mem_of_mem_take h

theorem sums_fun (G : Gt1 g) (D : Dt1 g s u c ad su cl ba) (C : Clo S) {rows : List (List Int)} (hr : ∀ r ∈ rows, S r) (hl : rows.length ≤ 5) : Fun g (n + 3) (.ref su) [eL (eL .int) rows] (eL (eL .int) (sumsF rows)) := by
  refine fun_def (ws := [mSums, mRow]) (ps := [mRows]) D.su (fun vs hv pm code doc => ?_) (by rfl) (by decide) (by rfl) (by rfl) (by rfl) ?_
  · match vs, hv with | [_], _ => rfl
  refine ret_cons (exec_assign (d := eL (eL .int) [[]]) (by decide) (ev_lst (evl_cons (ev_lst evl_nil) evl_nil))) ?_
  refine ret_cons (exec_for (ds := rows.map (eL .int)) (fun i => [(mSums, eL (eL .int) (sumsF (rows.take i))), (mRows, eL (eL .int) rows)]) (evit_list (ev_name (by rfl) (by rfl))) (fun i d hd => ?_)) ?_
  · obtain ⟨r, hri, rfl⟩ := at_map hd
    have hrm : r ∈ rows := List.mem_of_getElem? hri
    have hS : ∀ v ∈ sumsF (rows.take i), S v := C.sums (fun x hx => hr x (mem_take hx)) fun a ha => by rw [List.mem_singleton.mp ha]; exact C.nil
    have hsl : (sumsF (rows.take i)).length ≤ 32 := by
      unfold sumsF; rw [sums_len]
      have h1 : (rows.take i).length ≤ 5 := by rw [List.length_take]; omega
      calc 2 ^ (rows.take i).length * [([] : List Int)].length ≤ 2 ^ 5 * 1 := Nat.mul_le_mul (Nat.pow_le_pow_right (by decide) h1) (by decide)
        _ = 32 := by decide
    refine ⟨[(mRow, eL .int r)], asg_name (by decide), execs_cons (Exec.sub (exec_assign (d := eL (eL .int) (sumsF (rows.take (i + 1)))) (by decide) (Ev.cast (ev_binop (a := eL (eL .int) (sumsF (rows.take i))) (b := eL (eL .int) ((sumsF (rows.take i)).map fun one => addF one r)) (ev_name (by rfl) (by rfl)) (Comp.ev (compM (enc := eL .int) (enc' := eL .int) (xs := sumsF (rows.take i)) (by rfl) (by rfl) (by rfl) (by rfl) (evit_list (ev_name (by rfl) (by rfl))) (fun one ho => ev_call_f (by rfl) D.ad (by rfl) (evl_cons (ev_name (by rfl) (by rfl)) (evl_cons (ev_name (by rfl) (by rfl)) evl_nil)) (add_fun G D (C.len _ (hS one ho)) (C.len _ (hr r hrm)))) (by rw [sizeLine_eq]; omega))) (op_addl (by rw [List.length_map, sizeLine_eq]; omega))) ?_)) (sub_of ?_)) execs_nil⟩
    · unfold sumsF; rw [foldl_take _ _ hri]
    · intro p hp; simp only [List.mem_cons, List.not_mem_nil, or_false] at hp; rcases hp with rfl | rfl <;> rfl
  rw [List.length_map, List.take_length]
  exact ret_return (ev_name (by rfl) (by rfl))

theorem end_ev {sc : Scope} {σ : Sig} {v : List Int} {e : Expr} {kk : Nat} {p1 p2 p3 pos : Pos} (h : Ev g n sc σ e (eL .int v)) (hl : v.length < 64) : EvF g n sc σ (.Subscript e (.Slice (some (.UnaryOp .USub (.Constant (.int 1) kk p1) p2)) none none p3) pos) ((endOf v).map .int) :=
  evf_slice (enc := .int) h (part_some (ev_neg ev_int)) part_none (by rw [sizeLine_eq]; omega)
theorem end_len (v : List Int) : (endOf v).length ≤ v.length := pySlice_len _ _ _

theorem clear_take {row : List Int} {bases : List (List Int)} {i : Nat} {b : List Int} (h : bases[i]? = some b) : clearF row (bases.take (i + 1)) = clr1 (clearF row (bases.take i)) b := foldl_take _ _ h
theorem clr1_pos {rest b : List Int} (h : (uF (endOf b) rest).1 = []) : clr1 rest b = addF rest b := if_pos h
theorem clr1_neg {rest b : List Int} (h : ¬ (uF (endOf b) rest).1 = []) : clr1 rest b = rest := if_neg h

theorem clear_fun (G : Gt1 g) (D : Dt1 g s u c ad su cl ba) (C : Clo S) {row : List Int} {bases : List (List Int)} (hr : S row) (hb : ∀ b ∈ bases, S b) : Fun g (n + 3) (.ref cl) [eL .int row, eL (eL .int) bases] (eL .int (clearF row bases)) := by
  refine fun_def (ws := [mRest, mBase]) (ps := [mRow, mBases]) D.cl (fun vs hv pm code doc => ?_) (by rfl) (by decide) (by rfl) (by rfl) (by rfl) ?_
  · match vs, hv with | [_, _], _ => rfl
  refine ret_cons (exec_assign (d := eL .int row) (by decide) (ev_name (by rfl) (by rfl))) ?_
  refine ret_cons (exec_for (ds := bases.map (eL .int)) (fun i => [(mRest, eL .int (clearF row (bases.take i))), (mRow, eL .int row), (mBases, eL (eL .int) bases)]) (evit_list (ev_name (by rfl) (by rfl))) (fun i d hd => ?_)) ?_
  · obtain ⟨b, hbi, rfl⟩ := at_map hd
    have hbm := hb b (List.mem_of_getElem? hbi)
    have hS : S (clearF row (bases.take i)) := C.clear hr fun x hx => hb x (mem_take hx)
    have l1 := C.len _ hS
    have l2 := C.len _ hbm
    have l3 := end_len b
    refine ⟨[(mBase, eL .int b)], asg_name (by decide), execs_cons (exec_if (bb := decide ((uF (endOf b) (clearF row (bases.take i))).1 = [])) (tst_cmp (a := eL .int (uF (endOf b) (clearF row (bases.take i))).1) (b := eL .int []) (ev_tupitem (ds := [eL .int (uF (endOf b) (clearF row (bases.take i))).1, eL .int (uF (endOf b) (clearF row (bases.take i))).2]) (i := 0) (ev_call_m (by rfl) D.u (by rfl) (end_ev (ev_name (by rfl) (by rfl)) (by omega)) (evf_copy (enc := .int) (ev_name (by rfl) (by rfl)) (by rw [sizeLine_eq]; omega)) (uld_fun encI (by decide) D.u G.ve (by omega) (by omega))) ev_int (by decide) (by rfl) (by decide)) (ev_lst evl_nil) (op_eq (encL encI) (by decide)))
      (fun hc => execs_cons (Exec.sub (exec_assign (d := eL .int (clearF row (bases.take (i + 1)))) (by decide) (Ev.cast (ev_call_f (by rfl) D.ad (by rfl) (evl_cons (ev_name (by rfl) (by rfl)) (evl_cons (ev_name (by rfl) (by rfl)) evl_nil)) (add_fun G D l1 l2)) ?_)) (sub_of ?_)) execs_nil) (fun hc => execs_sub ?_)) execs_nil⟩
    · rw [clear_take hbi, clr1_pos (by simpa using hc)]
    · intro p hp; simp only [List.mem_cons, List.not_mem_nil, or_false] at hp; rcases hp with rfl | rfl | rfl <;> rfl
    · have e : clearF row (bases.take (i + 1)) = clearF row (bases.take i) := by rw [clear_take hbi, clr1_neg (by simpa using hc)]
      rw [e]
      intro p hp; simp only [List.mem_cons, List.not_mem_nil, or_false] at hp; rcases hp with rfl | rfl | rfl <;> rfl
  rw [List.length_map, List.take_length]
  exact ret_return (ev_name (by rfl) (by rfl))

theorem bases_fun (G : Gt1 g) (D : Dt1 g s u c ad su cl ba) (C : Clo S) {rows : List (List Int)} {names : List Int} (hr : ∀ r ∈ rows, S r) (hl : rows.length ≤ 5) (hn : names.length ≤ 64) : Fun g (n + 4) (.ref ba) [eL (eL .int) rows, eL .int names] (eL (eL .int) (outF names (basesF rows))) := by
  have CC : ∀ {r : List Int} {bs : List (List Int)}, S r → (∀ b ∈ bs, S b) → Fun g (n + 3) (.ref cl) [eL .int r, eL (eL .int) bs] (eL .int (clearF r bs)) := fun h1 h2 => clear_fun G D C h1 h2
  have blen : ∀ (l : List (List Int)) (acc : List (List Int)), (l.foldl stepF acc).length ≤ l.length + acc.length := by
    intro l
    induction l with
    | nil => intro acc; simp
    | cons r l ih =>
      intro acc
      rw [List.foldl_cons]
      have h1 := ih (stepF acc r)
      have h2 : (stepF acc r).length ≤ acc.length + 1 := by unfold stepF; split <;> simp
      simp only [List.length_cons]; omega
  refine fun_def (ws := [mBases, mRow, mRest]) (ps := [mRows, mNames]) D.ba (fun vs hv pm code doc => ?_) (by rfl) (by decide) (by rfl) (by rfl) (by rfl) ?_
  · match vs, hv with | [_, _], _ => rfl
  refine ret_cons (exec_assign (d := eL (eL .int) []) (by decide) (ev_lst evl_nil)) ?_
  refine ret_cons (exec_for (ds := rows.map (eL .int)) (fun i => [(mBases, eL (eL .int) (basesF (rows.take i))), (mRows, eL (eL .int) rows), (mNames, eL .int names)]) (evit_list (ev_name (by rfl) (by rfl))) (fun i d hd => ?_)) ?_
  · obtain ⟨r, hri, rfl⟩ := at_map hd
    have hrm := hr r (List.mem_of_getElem? hri)
    have hS : ∀ v ∈ basesF (rows.take i), S v := C.bases (fun x hx => hr x (mem_take hx)) fun a ha => by cases ha
    have hsl : (basesF (rows.take i)).length ≤ 5 := by
      have h1 := blen (rows.take i) []
      have h2 : (rows.take i).length ≤ 5 := by rw [List.length_take]; omega
      simp only [List.length_nil] at h1; unfold basesF; omega
    have hrest := C.clear hrm hS
    have e1 : basesF (rows.take (i + 1)) = stepF (basesF (rows.take i)) r := foldl_take _ _ hri
    refine ⟨[(mRow, eL .int r)], asg_name (by decide), execs_cons (exec_assign (d := eL .int (clearF r (basesF (rows.take i)))) (by decide) (ev_call_f (by rfl) D.cl (by rfl) (evl_cons (ev_name (by rfl) (by rfl)) (evl_cons (ev_name (by rfl) (by rfl)) evl_nil)) (CC hrm hS)))
      (execs_cons (exec_if (bb := !decide (clearF r (basesF (rows.take i)) = [])) (tst_cmp (a := eL .int (clearF r (basesF (rows.take i)))) (b := eL .int []) (ev_name (by rfl) (by rfl)) (ev_lst evl_nil) (op_ne (encL encI) (by decide)))
        (fun hc => execs_cons (Exec.sub (exec_assign (d := eL (eL .int) (basesF (rows.take (i + 1)))) (by decide) (Ev.cast (ev_binop (a := eL (eL .int) ((basesF (rows.take i)).map fun base => clearF base [clearF r (basesF (rows.take i))])) (b := eL (eL .int) [clearF r (basesF (rows.take i))])
          (Comp.ev (compM (enc := eL .int) (enc' := eL .int) (xs := basesF (rows.take i)) (by rfl) (by rfl) (by rfl) (by rfl) (evit_list (ev_name (by rfl) (by rfl))) (fun b hb => ev_call_f (by rfl) D.cl (by rfl) (ds := [eL .int b, eL (eL .int) [clearF r (basesF (rows.take i))]]) (evl_cons (ev_name (by rfl) (by rfl)) (evl_cons (ev_lst (evl_cons (ev_name (by rfl) (by rfl)) evl_nil)) evl_nil)) (CC (hS b hb) (fun x hx => by rw [List.mem_singleton.mp hx]; exact hrest))) (by rw [sizeLine_eq]; omega))) (ev_lst (evl_cons (ev_name (by rfl) (by rfl)) evl_nil)) (op_addl (by rw [List.length_map, sizeLine_eq]; simp; omega))) ?_)) (sub_of ?_)) execs_nil) (fun hc => execs_sub ?_)) execs_nil)⟩
    · rw [e1]; unfold stepF; rw [if_neg (by simpa using hc)]
    · intro p hp; simp only [List.mem_cons, List.not_mem_nil, or_false] at hp; rcases hp with rfl | rfl | rfl <;> rfl
    · have e : basesF (rows.take (i + 1)) = basesF (rows.take i) := by rw [e1]; unfold stepF; rw [if_pos (by simpa using hc)]
      rw [e]
      intro p hp; simp only [List.mem_cons, List.not_mem_nil, or_false] at hp; rcases hp with rfl | rfl | rfl <;> rfl
  rw [List.length_map, List.take_length]
  have hB : ∀ v ∈ basesF rows, S v := C.bases hr fun a ha => by cases ha
  have hbl : (basesF rows).length ≤ 5 := by have := blen rows []; simp only [List.length_nil] at this; unfold basesF; omega
  have hfl : (outF names (basesF rows)).length ≤ names.length * 5 := by
    unfold outF
    clear hn
    induction names with
    | nil => simp
    | cons x l ih =>
      rw [List.flatMap_cons, List.length_append, List.length_cons]
      have := List.length_filter_le (fun base => decide (endOf base = [x])) (basesF rows)
      omega
  refine ret_return (Comp.ev (compFlatF (enc := .int) (enc2 := eL .int) (xs := names) (ys := fun _ => basesF rows) (p := fun name base => decide (endOf base = [name])) (by rfl) (by rfl) (by rfl) (by rfl) (by decide) (by rfl) (evit_list (ev_name (by rfl) (by rfl))) (fun _ _ => evit_list (ev_name (by rfl) (by rfl))) (fun name _ base hb => tests_one (tst_cmp (a := eL .int (endOf base)) (b := eL .int [name]) (EvF.ev (end_ev (ev_name (by rfl) (by rfl)) (by have := C.len _ (hB base hb); omega))) (ev_lst (evl_cons (ev_name (by rfl) (by rfl)) evl_nil)) (op_eq (encL encI) (by decide)))) (fun name _ base _ => ev_name (by rfl) (by rfl)) (by unfold outF at hfl; rw [sizeLine_eq]; omega)))
end
end Mine
namespace Mine
open PySem PyProof.Rows PySem.Calls PySem.Spec

section
variable {g : G} {n : Nat} {sc : Scope} {σ : Sig}
theorem tst_or_nil {pos : Pos} : Tst g n sc σ (.BoolOp .Or [] pos) false := fun X A env s E Q o ev q => isTrue_or_nil (q s (keeps_refl s))
theorem tst_or {e : Expr} {rest : List Expr} {a b : Bool} {pos : Pos} (h : Tst g n sc σ e a) (h2 : a = false → Tst g n sc σ (.BoolOp .Or rest pos) b) : Tst g n sc σ (.BoolOp .Or (e :: rest) pos) (a || b) := by
  intro X A env s E Q o ev q
  refine isTrue_or (h X A env s E _ o ev fun s' k => ?_)
  cases a with
  | true => exact q s' k
  | false => exact h2 rfl X A env s' E Q (o.keeps k) (ev.ext (keeps_ext k)) fun s'' k' => q s'' (keeps_trans k k')
end

def sumAt (ns : List Int) (k m : Int) : Int := ((rangeL k ns.length m).map fun i => ns.getD i.toNat 0).sum
def drawnF (ns : List Int) : List Int := (rangeL 0 5 1).map fun k => sumAt ns k 5 + k
def namesF (drawn : List Int) : List Int := ((enumP (sortI drawn)).filter fun p => !(pySlice (sortI drawn) none (some p.1)).contains p.2).map fun p => p.2
def marksF (ns : List Int) : List Int := (rangeL 0 4 1).map fun k => sumAt ns k 4 + [7, 25, 30, 12].getD k.toNat 0
def markedF (drawn : List Int) (mark : Int) : List Int := ((rangeL 0 5 1).filter fun j => decide ((mark.fdiv (2 ^ j.toNat)).fmod 2 = 1)).map fun j => drawn.getD j.toNat 0
def rowsF (names drawn marks : List Int) : List (List Int) := marks.map fun mark => names.filter fun x => (markedF drawn mark).contains x
def bitsF (rows : List (List Int)) (c x : Int) : Int := (((rangeL 0 4 1).filter fun k => (rows.getD k.toNat []).contains x).map fun k => (c.fdiv (2 ^ k.toNat)).fmod 2).sum
def oddF (names : List Int) (rows : List (List Int)) : List (List Int) := (rangeL 0 16 1).map fun c => names.filter fun x => decide ((bitsF rows c x).fmod 2 = 1)
def topsF (odd : List (List Int)) : List Int := (odd.filter fun one => !decide (one = [])).map fun one => one.getLastD 0
def hasL (l : List (List Int)) (v : List Int) : Bool := @List.contains (List Int) instBEqOfDecidableEq l v
def loneF (odd : List (List Int)) : List (List Int) := ((enumP odd).filter fun p => (!hasL (pySlice odd none (some p.1)) p.2) && (decide ((p.2.filter fun x => (topsF odd).contains x) = endOf p.2) && true)).map fun p => p.2
def dueF (names : List Int) (odd : List (List Int)) : List (List Int) := outF names (loneF odd)
def farF (names : List Int) : Int := names.getLastD 0 + 1
def oftenF (due : List (List Int)) : Int := 2 ^ (4 - (due.length : Int)).toNat
def repF (span : List (List Int)) (often : Int) : List (List Int) := (List.replicate often.toNat span).flatten
def fallF (span : List (List Int)) : List (List Int) := span.map fun one => (sortI one).reverse
def nearF (fall : List (List Int)) : List (List Int × List Int) := (rangeL 0 ((fall.length : Int) - 1) 1).map fun c => (fall.getD c.toNat [], fall.getD (c + 1).toNat [])
def backF (rows : List (List Int)) : List (List Int) := (rangeL 0 4 1).map fun k => rows.getD (3 - k).toNat []

theorem range5 : rangeL 0 5 1 = [0, 1, 2, 3, 4] := by decide +kernel
theorem range16 : rangeL 0 16 1 = [0, 1, 2, 3, 4, 5, 6, 7, 8, 9, 10, 11, 12, 13, 14, 15] := by decide +kernel
theorem mem4 {k : Int} (h : k ∈ rangeL 0 4 1) : 0 ≤ k ∧ k < 4 := mem_rangeL (by decide) h
theorem mem5 {k : Int} (h : k ∈ rangeL 0 5 1) : 0 ≤ k ∧ k < 5 := mem_rangeL (by decide) h
theorem small_all : ∀ m : Fin 64, ∀ k : Fin 5, Builtin.Range.small (k.1 : Int) (m.1 : Int) 4 = true ∧ Builtin.Range.small (k.1 : Int) (m.1 : Int) 5 = true := by decide +kernel
theorem small_at {k : Int} {m : Nat} (hk : 0 ≤ k ∧ k < 5) (hm : m < 64) : Builtin.Range.small k (m : Int) 4 = true ∧ Builtin.Range.small k (m : Int) 5 = true := by
  have := small_all ⟨m, hm⟩ ⟨k.toNat, by omega⟩
  simp only at this
  rw [show ((k.toNat : Nat) : Int) = k from by omega] at this
  exact this

/-- all that the plain law must give -/
structure Ok1 (S : List Int → Prop) (names : List Int) (rows odd due : List (List Int)) : Prop where
  clo : Clo S
  nln : 0 < names.length
  nle : names.length ≤ 5
  rS : ∀ r ∈ rows, S r
  rl : rows.length = 4
  oS : ∀ v ∈ odd, S v
  dS : ∀ v ∈ due, S v
  dl : due.length ≤ 4
  h1 : sumsF rows = odd
  h2 : outF names (basesF rows) = due
  h3 : outF names (basesF (backF rows)) = due
  h4 : uF (odd ++ [[farF names]]) (repF (sumsF due) (oftenF due) ++ [[farF names, farF names]]) = ([[farF names]], [[farF names, farF names]])
  h5 : ((fallF (sumsF due)).map fun one => cmpL one one) = (List.replicate (sumsF due).length [(0 : Int)]).flatten
  h6 : ((nearF (fallF (sumsF due))).map fun p => (cmpL p.1 p.2, cmpL p.2 p.1)) = (List.replicate (nearF (fallF (sumsF due))).length [((-1 : Int), (1 : Int))]).flatten
end Mine
namespace Mine
open PySem PyProof.Rows PySem.Calls PySem.Spec

abbrev mScript : Str := Str.ofString "script"
abbrev mDrawn : Str := Str.ofString "drawn"
abbrev mMarks : Str := Str.ofString "marks"
abbrev mOdd : Str := Str.ofString "odd"
abbrev mTops : Str := Str.ofString "tops"
abbrev mLone : Str := Str.ofString "lone"
abbrev mDue : Str := Str.ofString "due"
abbrev mSpan : Str := Str.ofString "span"
abbrev mFar : Str := Str.ofString "far"
abbrev mOften : Str := Str.ofString "often"
abbrev mFalling : Str := Str.ofString "falling"
abbrev mNear : Str := Str.ofString "near"
abbrev wsA : List Str := [mDrawn, mNames, mMarks, mRows, mOdd, mTops, mLone, mDue, mSpan, mFar, mOften, mFalling, mNear]
abbrev scA : Scope := fScope (stAt pw 9)
theorem len5 {α : Type} (f : Int → α) : ((rangeL 0 5 1).map f).length = 5 := by rw [List.length_map, range5]; rfl
theorem len4 {α : Type} (f : Int → α) : ((rangeL 0 4 1).map f).length = 4 := by rw [List.length_map, range4]; rfl
theorem len16 {α : Type} (f : Int → α) : ((rangeL 0 16 1).map f).length = 16 := by rw [List.length_map, range16]; rfl

section
variable {g : G} {n : Nat} {s u c ad su cl ba : Addr} {S : List Int → Prop}

/-- sum([script[i] for i in range(k, len(script), m)]) -/
theorem sumAt_ev (G : Gt1 g) {sc : Scope} {σ : Sig} {k m : Int} {ns : List Int} {e : Expr} (hk : 0 ≤ k ∧ k < 5) (hn : ns.length < 64)
    (h : Ev g n sc σ e (eL .int ((rangeL k ns.length m).map fun i => ns.getD i.toNat 0))) {p pos : Pos} (hkk : sc.names.lookup (Str.ofString "sum") = some .globalImplicit) (he : ∀ env, starEach [e] env = [(false, eval e env)] := by intro _; rfl) :
    Ev g n sc σ (.Call (.Name (Str.ofString "sum") p) [e] [] pos) (.int (sumAt ns k m)) := ev_call_b hkk G.sum (by rfl) (evl_cons h evl_nil (fun env => he env)) fun_sum (fun env => he env)

theorem law_head (G : Gt1 g) {ns : List Int} (hn : ns.length < 64) {d : PyData}
    (h : Ret g (n + 4) scA wsA [(mDrawn, eL .int (drawnF ns)), (mScript, eL .int ns)] ((fBody (stAt pw 9)).drop 1) d) : Ret g (n + 4) scA wsA [(mScript, eL .int ns)] (fBody (stAt pw 9)) d := by
  refine ret_cons (exec_comp (out := (drawnF ns).map .int) (by decide) (compM (enc := .int) (enc' := .int) (xs := rangeL 0 5 1) (fn := fun k => sumAt ns k 5 + k) (by rfl) (by rfl) (by rfl) (by rfl) (evit_range1 (by rfl) G.range ev_int (hsm := by decide +kernel)) (fun k hk => ev_binop (sumAt_ev G (mem5 hk) hn (Comp.ev (compM (enc := .int) (enc' := .int) (xs := rangeL k ns.length 5) (fn := fun i => ns.getD i.toNat 0) (by rfl) (by rfl) (by rfl) (by rfl) (evit_range3 (by rfl) G.range (ev_name (by rfl) (by rfl)) (ev_call_b (by rfl) G.len (by rfl) (evl_cons (ev_name (by rfl) (by rfl)) evl_nil) (fun_len (enc := .int) (xs := ns) (by omega))) ev_int (hc := by decide) (hc2 := by decide) (hsm := (small_at (mem5 hk) hn).2))
    (fun i hi => ev_idx (ev_name (by rfl) (by rfl)) (ev_name (by rfl) (by rfl)) (by have := mem_rangeL (by decide) hi; have := mem5 hk; omega) (by have := mem_rangeL (by decide) hi; have := mem5 hk; omega) (by have := mem_rangeL (by decide) hi; omega)) (by have := len_rangeL (a := k) (b := ns.length) (c := 5) (by decide) (mem5 hk).1 (by omega); rw [sizeLine_eq]; omega))) (by rfl)) (ev_name (by rfl) (by rfl)) op_add) (by decide +kernel))) h

theorem pow_all : ∀ i : Fin 5, ((2 : Int) ^ i.1 ≠ 0 ∧ ((2 : Int) ^ i.1).natAbs < 1073741824) := by decide
theorem pow_ok {j : Int} (h : 0 ≤ j ∧ j < 5) : (2 : Int) ^ j.toNat ≠ 0 ∧ ((2 : Int) ^ j.toNat).natAbs < 1073741824 := pow_all ⟨j.toNat, by omega⟩
/-- c // 2 ** j % 2 -/
theorem bit_ev {sc : Scope} {σ : Sig} {e f : Expr} {x j : Int} {k1 k2 : Nat} {p1 p2 p3 p4 p5 : Pos} (h1 : Ev g n sc σ e (.int x)) (h2 : Ev g n sc σ f (.int j)) (hj : 0 ≤ j ∧ j < 5) :
    Ev g n sc σ (.BinOp (.BinOp e .FloorDiv (.BinOp (.Constant (.int 2) k1 p1) .Pow f p2) p3) .Mod (.Constant (.int 2) k2 p4) p5) (.int ((x.fdiv (2 ^ j.toNat)).fmod 2)) :=
  ev_binop (ev_binop h1 (ev_binop ev_int h2 (op_pow hj.1 (by omega) (by decide))) (op_div (pow_ok hj).1 (pow_ok hj).2)) ev_int (op_mod (by decide))
theorem tst_and2 {sc : Scope} {σ : Sig} {e f : Expr} {a b : Bool} {pos : Pos} (h : Tst g n sc σ e a) (h2 : Tst g n sc σ f b) : Tst g n sc σ (.BoolOp .And [e, f] pos) (a && (b && true)) := tst_and h fun _ => tst_and h2 fun _ => tst_and_nil

theorem law_mid (G : Gt1 g) (D : Dt1 g s u c ad su cl ba) {ns : List Int} (hn : ns.length < 64) {names drawn marks : List Int} {rows odd : List (List Int)} {d : PyData} (e0 : drawn = drawnF ns) (e1 : names = namesF drawn) (e2 : marks = marksF ns) (e3 : rows = rowsF names drawn marks) (e4 : odd = oddF names rows)
    (hnl : names.length ≤ 5) (h : Ret g (n + 4) scA wsA [(mOdd, eL (eL .int) odd), (mRows, eL (eL .int) rows), (mNames, eL .int names)] ((fBody (stAt pw 9)).drop 5) d) :
    Ret g (n + 4) scA wsA [(mDrawn, eL .int drawn), (mScript, eL .int ns)] ((fBody (stAt pw 9)).drop 1) d := by
  have ld : drawn.length = 5 := by rw [e0]; exact len5 _
  have lm : marks.length = 4 := by rw [e2]; exact len4 _
  have lr : rows.length = 4 := by rw [e3]; unfold rowsF; rw [List.length_map, lm]
  have ls : (sortI drawn).length = 5 := by rw [(sortI_perm drawn).length_eq, ld]
  -- names
  refine ret_cons (exec_comp (out := names.map .int) (by decide) (Comp.cast (comp1 (ws := [Str.ofString "i", Str.ofString "x"]) (enc := eP .int .int) (enc' := .int) (xs := enumP (sortI drawn)) (p := fun p => !(pySlice (sortI drawn) none (some p.1)).contains p.2) (fn := fun p => p.2) (fun p => [(Str.ofString "x", .int p.2), (Str.ofString "i", .int p.1)]) (by rfl) (by rfl) (by rfl) (by rfl)
    (by rw [← enumL_map]; exact evit_enum (by rfl) G.enum (ev_call_b (by rfl) G.sorted (by rfl) (evl_cons (ev_name (by rfl) (by rfl)) evl_nil) (fun_sorted (by omega)))) (fun p => asg_tuple (asgl_cons (asg_name (by decide)) (asgl_cons (asg_name (by decide)) asgl_nil))) (fun p q hq => by simp only [List.mem_cons, List.not_mem_nil, or_false] at hq; rcases hq with rfl | rfl <;> simp)
    (fun p _ => tests_one (tst_cmp (a := .int p.2) (b := eL .int (pySlice (sortI drawn) none (some p.1))) (ev_name (by rfl) (by rfl)) (ev_slice (enc := .int) (ev_call_b (by rfl) G.sorted (by rfl) (evl_cons (ev_name (by rfl) (by rfl)) evl_nil) (fun_sorted (by omega))) part_none (part_some (ev_name (by rfl) (by rfl))) (by rw [sizeLine_eq]; omega)) (op_notIn encI (by decide)))) (fun p _ _ => ev_name (by rfl) (by rfl)) (by unfold enumP; rw [List.length_mapIdx, sizeLine_eq]; omega)) (by rw [e1]; rfl))) ?_
  -- marks
  refine ret_cons (exec_comp (out := marks.map .int) (by decide) (Comp.cast (compM (enc := .int) (enc' := .int) (xs := rangeL 0 4 1) (fn := fun k => sumAt ns k 4 + [7, 25, 30, 12].getD k.toNat 0) (by rfl) (by rfl) (by rfl) (by rfl) (evit_range1 (by rfl) G.range ev_int (hsm := by decide +kernel)) (fun k hk => ev_binop (sumAt_ev G (by have := mem4 hk; omega) hn (Comp.ev (compM (enc := .int) (enc' := .int) (xs := rangeL k ns.length 4) (fn := fun i => ns.getD i.toNat 0) (by rfl) (by rfl) (by rfl) (by rfl) (evit_range3 (by rfl) G.range (ev_name (by rfl) (by rfl)) (ev_call_b (by rfl) G.len (by rfl) (evl_cons (ev_name (by rfl) (by rfl)) evl_nil) (fun_len (enc := .int) (xs := ns) (by omega))) ev_int (hc := by decide) (hc2 := by decide) (hsm := (small_at (by have := mem4 hk; omega) hn).1))
    (fun i hi => ev_idx (ev_name (by rfl) (by rfl)) (ev_name (by rfl) (by rfl)) (by have := mem_rangeL (by decide) hi; have := mem4 hk; omega) (by have := mem_rangeL (by decide) hi; have := mem4 hk; omega) (by have := mem_rangeL (by decide) hi; omega)) (by have := len_rangeL (a := k) (b := ns.length) (c := 4) (by decide) (mem4 hk).1 (by omega); rw [sizeLine_eq]; omega))) (by rfl)) (ev_idx (xs := [7, 25, 30, 12]) (ev_lst (evl_cons ev_int (evl_cons ev_int (evl_cons ev_int (evl_cons ev_int evl_nil))))) (ev_name (by rfl) (by rfl)) (mem4 hk).1 (by have := mem4 hk; show _ < 4; omega) (by have := mem4 hk; omega)) op_add) (by decide +kernel)) (by rw [e2]; rfl))) ?_
  -- rows
  refine ret_cons (exec_comp (out := rows.map (eL .int)) (by decide) (Comp.cast (compM (enc := .int) (enc' := eL .int) (xs := marks) (fn := fun mark => names.filter fun x => (markedF drawn mark).contains x) (by rfl) (by rfl) (by rfl) (by rfl) (evit_list (ev_name (by rfl) (by rfl))) (fun mark _ => Comp.ev (compF (enc := .int) (xs := names) (p := fun x => (markedF drawn mark).contains x) (by rfl) (by rfl) (by rfl) (by rfl) (evit_list (ev_name (by rfl) (by rfl)))
    (fun x _ => tests_one (tst_cmp (a := .int x) (b := eL .int (markedF drawn mark)) (ev_name (by rfl) (by rfl)) (Comp.ev (compN (enc := .int) (enc' := .int) (xs := rangeL 0 5 1) (p := fun j => decide ((mark.fdiv (2 ^ j.toNat)).fmod 2 = 1)) (fn := fun j => drawn.getD j.toNat 0) (by rfl) (by rfl) (by rfl) (by rfl) (evit_range1 (by rfl) G.range ev_int (hsm := by decide +kernel)) (fun j hj => tests_one (tst_cmp (bit_ev (ev_name (by rfl) (by rfl)) (ev_name (by rfl) (by rfl)) (mem5 hj)) ev_int (op_eq encI (by decide)))) (fun j hj _ => ev_idx (ev_name (by rfl) (by rfl)) (ev_name (by rfl) (by rfl)) (mem5 hj).1 (by have := mem5 hj; omega) (by have := mem5 hj; omega)) (by decide +kernel))) (op_in encI (by decide)))) (fun x _ _ => ev_name (by rfl) (by rfl)) (by rw [sizeLine_eq]; omega))) (by rw [sizeLine_eq]; omega)) (by rw [e3]; rfl))) ?_
  -- odd
  refine ret_cons (exec_comp (out := odd.map (eL .int)) (by decide) (Comp.cast (compM (enc := .int) (enc' := eL .int) (xs := rangeL 0 16 1) (fn := fun c => names.filter fun x => decide ((bitsF rows c x).fmod 2 = 1)) (by rfl) (by rfl) (by rfl) (by rfl) (evit_range1 (by rfl) G.range ev_int (hsm := by decide +kernel)) (fun c _ => Comp.ev (compF (enc := .int) (xs := names) (p := fun x => decide ((bitsF rows c x).fmod 2 = 1)) (by rfl) (by rfl) (by rfl) (by rfl) (evit_list (ev_name (by rfl) (by rfl)))
    (fun x _ => tests_one (tst_cmp (ev_binop (a := .int (bitsF rows c x)) (ev_call_b (by rfl) G.sum (by rfl) (evl_cons (Comp.ev (compN (enc := .int) (enc' := .int) (xs := rangeL 0 4 1) (p := fun k => (rows.getD k.toNat []).contains x) (fn := fun k => (c.fdiv (2 ^ k.toNat)).fmod 2) (by rfl) (by rfl) (by rfl) (by rfl) (evit_range1 (by rfl) G.range ev_int (hsm := by decide +kernel)) (fun k hk => tests_one (tst_cmp (a := .int x) (b := eL .int (rows.getD k.toNat [])) (ev_name (by rfl) (by rfl)) (ev_itemD (enc := eL .int) (xs := rows) (d := []) (ev_name (by rfl) (by rfl)) (ev_name (by rfl) (by rfl)) (mem4 hk).1 (by have := mem4 hk; omega) (by have := mem4 hk; omega)) (op_in encI (by decide)))) (fun k hk _ => bit_ev (ev_name (by rfl) (by rfl)) (ev_name (by rfl) (by rfl)) (by have := mem4 hk; omega)) (by decide +kernel))) evl_nil) fun_sum) ev_int (op_mod (by decide))) ev_int (op_eq encI (by decide)))) (fun x _ _ => ev_name (by rfl) (by rfl)) (by rw [sizeLine_eq]; omega))) (by decide +kernel)) (by rw [e4]; rfl))) ?_
  refine Ret.sub h ?_
  intro p hp; simp only [List.mem_cons, List.not_mem_nil, or_false] at hp; rcases hp with rfl | rfl | rfl <;> rfl
end
end Mine
namespace Mine
open PySem PyProof.Rows PySem.Calls PySem.Spec

section
variable {g : G} {n : Nat} {s u c ad su cl ba : Addr} {S : List Int → Prop}
theorem ev_last {sc : Scope} {σ : Sig} {v : List Int} {e : Expr} {kk : Nat} {p1 p2 pos : Pos} (h : Ev g n sc σ e (eL .int v)) (h0 : v ≠ []) (hl : v.length < 64) : Ev g n sc σ (.Subscript e (.UnaryOp .USub (.Constant (.int 1) kk p1) p2) pos) (.int (v.getLastD 0)) := by
  have hp := List.length_pos_iff.mpr h0
  refine ev_item_neg (enc := .int) (xs := v) (i := -1) (x := v.getLastD 0) h (ev_neg ev_int) (by decide) (by omega) ?_ (by decide)
  rw [List.getLastD_eq_getLast?, List.getLast?_eq_some_getLast h0, List.getLast_eq_getElem]
  have : (-1 + (v.length : Int)).toNat = v.length - 1 := by omega
  rw [this, List.getElem?_eq_getElem (by omega)]; rfl

theorem sums_len16 {l : List (List Int)} (h : l.length ≤ 4) : (sumsF l).length ≤ 16 := by
  unfold sumsF; rw [sums_len]
  calc 2 ^ l.length * [([] : List Int)].length ≤ 2 ^ 4 * 1 := Nat.mul_le_mul (Nat.pow_le_pow_right (by decide) h) (by decide)
    _ = 16 := by decide
theorem small_up : ∀ m : Fin 33, Builtin.Range.small 0 ((m.1 : Int) - 1) 1 = true := by decide +kernel
theorem fall_len (l : List (List Int)) : (fallF l).length = l.length := List.length_map ..

theorem law_tail (G : Gt1 g) (D : Dt1 g s u c ad su cl ba) {names : List Int} {rows odd due : List (List Int)} (K : Ok1 S names rows odd due) (ho : odd.length = 16) (hd : due = dueF names odd) :
    Ret g (n + 4) scA wsA [(mOdd, eL (eL .int) odd), (mRows, eL (eL .int) rows), (mNames, eL .int names)] ((fBody (stAt pw 9)).drop 5) (.bool true) := by
  have C := K.clo
  have knl := K.nle
  have krl := K.rl
  have kdl := K.dl
  have ol : ∀ v ∈ odd, v.length < 32 := fun v hv => C.len _ (K.oS v hv)
  refine ret_if (bb := !decide (sumsF rows = odd)) (tst_cmp (a := eL (eL .int) (sumsF rows)) (b := eL (eL .int) odd) (ev_call_f (by rfl) D.su (by rfl) (evl_cons (ev_name (by rfl) (by rfl)) evl_nil) (sums_fun (n := n + 1) G D C K.rS (by omega))) (ev_name (by rfl) (by rfl)) (op_ne (encL (encL encI)) (by decide))) (fun hb => absurd K.h1 (by simpa using hb)) (fun _ => ?_)
  show Ret _ _ _ _ _ (_ :: _) _
  -- tops
  refine ret_cons (exec_comp (out := (topsF odd).map .int) (by decide) (compN (enc := eL .int) (enc' := .int) (xs := odd) (p := fun one => !decide (one = [])) (fn := fun one => one.getLastD 0) (by rfl) (by rfl) (by rfl) (by rfl) (evit_list (ev_name (by rfl) (by rfl))) (fun one _ => tests_one (tst_cmp (a := eL .int one) (b := eL .int []) (ev_name (by rfl) (by rfl)) (ev_lst evl_nil) (op_ne (encL encI) (by decide)))) (fun one h1 hp => ev_last (ev_name (by rfl) (by rfl)) (by simpa using hp) (by have := ol one h1; omega)) (by rw [sizeLine_eq]; omega))) ?_
  -- lone
  have elen : (enumP odd).length = 16 := by unfold enumP; rw [List.length_mapIdx, ho]
  have emem : ∀ p ∈ enumP odd, p.2 ∈ odd := by
    intro p hp
    obtain ⟨i, hi, rfl⟩ := List.mem_mapIdx.mp hp
    exact List.getElem_mem hi
  refine ret_cons (exec_comp (out := (loneF odd).map (eL .int)) (by decide) (comp1 (ws := [Str.ofString "c", Str.ofString "one"]) (enc := eP .int (eL .int)) (enc' := eL .int) (xs := enumP odd) (p := fun p => (!hasL (pySlice odd none (some p.1)) p.2) && (decide ((p.2.filter fun x => (topsF odd).contains x) = endOf p.2) && true)) (fn := fun p => p.2) (fun p => [(Str.ofString "one", eL .int p.2), (Str.ofString "c", .int p.1)]) (by rfl) (by rfl) (by rfl) (by rfl)
    (by rw [← enumL_map]; exact evit_enum (by rfl) G.enum (ev_name (by rfl) (by rfl))) (fun p => asg_tuple (asgl_cons (asg_name (by decide)) (asgl_cons (asg_name (by decide)) asgl_nil))) (fun p q hq => by simp only [List.mem_cons, List.not_mem_nil, or_false] at hq; rcases hq with rfl | rfl <;> simp)
    (fun p hp => tests_one (tst_and2 (tst_cmp (a := eL .int p.2) (b := eL (eL .int) (pySlice odd none (some p.1))) (ev_name (by rfl) (by rfl)) (ev_slice (enc := eL .int) (ev_name (by rfl) (by rfl)) part_none (part_some (ev_name (by rfl) (by rfl))) (by rw [sizeLine_eq]; omega)) (op_notIn (encL encI) (by decide)))
      (tst_cmp (a := eL .int (p.2.filter fun x => (topsF odd).contains x)) (b := eL .int (endOf p.2)) (Comp.ev (compF (enc := .int) (xs := p.2) (by rfl) (by rfl) (by rfl) (by rfl) (evit_list (ev_name (by rfl) (by rfl))) (fun x _ => tests_one (tst_cmp (a := .int x) (b := eL .int (topsF odd)) (ev_name (by rfl) (by rfl)) (ev_name (by rfl) (by rfl)) (op_in encI (by decide)))) (fun x _ _ => ev_name (by rfl) (by rfl)) (by have := ol _ (emem p hp); rw [sizeLine_eq]; omega))) (EvF.ev (end_ev (ev_name (by rfl) (by rfl)) (by have := ol _ (emem p hp); omega))) (op_eq (encL encI) (by decide))))) (fun p _ _ => ev_name (by rfl) (by rfl)) (by rw [elen, sizeLine_eq]; omega))) ?_
  -- due
  have lmem : ∀ v ∈ loneF odd, v ∈ odd := by
    intro v hv
    unfold loneF at hv
    obtain ⟨p, hp, rfl⟩ := List.mem_map.mp hv
    exact emem p (List.mem_filter.mp hp).1
  refine ret_cons (exec_comp (out := due.map (eL .int)) (by decide) (Comp.cast (compFlatF (enc := .int) (enc2 := eL .int) (xs := names) (ys := fun _ => loneF odd) (p := fun name base => decide (endOf base = [name])) (by rfl) (by rfl) (by rfl) (by rfl) (by decide) (by rfl) (evit_list (ev_name (by rfl) (by rfl))) (fun _ _ => evit_list (ev_name (by rfl) (by rfl))) (fun name _ base hb => tests_one (tst_cmp (a := eL .int (endOf base)) (b := eL .int [name]) (EvF.ev (end_ev (ev_name (by rfl) (by rfl)) (by have := ol _ (lmem base hb); omega))) (ev_lst (evl_cons (ev_name (by rfl) (by rfl)) evl_nil)) (op_eq (encL encI) (by decide)))) (fun name _ base _ => ev_name (by rfl) (by rfl))
    (by have : (names.flatMap fun v => (loneF odd).filter fun base => decide (endOf base = [v])) = due := hd.symm
        rw [this, sizeLine_eq]; omega)) (by rw [hd]; rfl))) ?_
  have bl : (backF rows).length = 4 := len4 _
  have bS : ∀ r ∈ backF rows, S r := by
    intro r hr
    obtain ⟨k, hk, rfl⟩ := List.mem_map.mp hr
    have hm := mem4 hk
    have hlt : (3 - k).toNat < rows.length := by omega
    rw [List.getD_eq_getElem?_getD, List.getElem?_eq_getElem hlt]
    exact K.rS _ (List.getElem_mem hlt)
  refine ret_if (bb := (!decide (outF names (basesF rows) = due)) || ((!decide (outF names (basesF (backF rows)) = due)) || false)) (tst_or (tst_cmp (a := eL (eL .int) (outF names (basesF rows))) (b := eL (eL .int) due) (ev_call_f (by rfl) D.ba (by rfl) (evl_cons (ev_name (by rfl) (by rfl)) (evl_cons (ev_name (by rfl) (by rfl)) evl_nil)) (bases_fun (n := n) G D C K.rS (by omega) (by omega))) (ev_name (by rfl) (by rfl)) (op_ne (encL (encL encI)) (by decide))) fun _ => tst_or (tst_cmp (a := eL (eL .int) (outF names (basesF (backF rows)))) (b := eL (eL .int) due) (ev_call_f (by rfl) D.ba (by rfl) (evl_cons (Comp.ev (compM (enc := .int) (enc' := eL .int) (xs := rangeL 0 4 1) (fn := fun k => rows.getD (3 - k).toNat []) (by rfl) (by rfl) (by rfl) (by rfl) (evit_range1 (by rfl) G.range ev_int (hsm := by decide +kernel)) (fun k hk => ev_itemD (enc := eL .int) (xs := rows) (d := []) (ev_name (by rfl) (by rfl)) (ev_binop ev_int (ev_name (by rfl) (by rfl)) op_sub) (by have := mem4 hk; omega) (by have := mem4 hk; omega) (by have := mem4 hk; omega)) (by decide +kernel))) (evl_cons (ev_name (by rfl) (by rfl)) evl_nil)) (bases_fun (n := n) (rows := backF rows) G D C bS (by omega) (by omega))) (ev_name (by rfl) (by rfl)) (op_ne (encL (encL encI)) (by decide))) fun _ => tst_or_nil)
    (fun hb => absurd hb (by rw [K.h2, K.h3]; simp)) (fun _ => ?_)
  show Ret _ _ _ _ _ (_ :: _) _
  -- span, far, often
  refine ret_cons (exec_assign (d := eL (eL .int) (sumsF due)) (by decide) (ev_call_f (by rfl) D.su (by rfl) (evl_cons (ev_name (by rfl) (by rfl)) evl_nil) (sums_fun (n := n + 1) G D C K.dS (by omega)))) ?_
  refine ret_cons (exec_assign (d := .int (farF names)) (by decide) (ev_binop (ev_last (v := names) (ev_name (by rfl) (by rfl)) (by have := K.nln; intro h; rw [h] at this; cases this) (by omega)) ev_int op_add)) ?_
  refine ret_cons (exec_assign (d := .int (oftenF due)) (by decide) (ev_binop ev_int (ev_binop ev_int (ev_call_b (by rfl) G.len (by rfl) (evl_cons (ev_name (by rfl) (by rfl)) evl_nil) (fun_len (enc := eL .int) (xs := due) (by omega))) op_sub) (op_pow (by omega) (by omega) (by decide)))) ?_
  have sl := sums_len16 kdl
  have of0 : 0 ≤ oftenF due ∧ oftenF due ≤ 16 := by
    unfold oftenF
    have h1 : (4 - (due.length : Int)).toNat < 5 := by omega
    have := (by decide : ∀ i : Fin 5, (0 : Int) ≤ 2 ^ i.1 ∧ (2 : Int) ^ i.1 ≤ 16) ⟨_, h1⟩
    exact this
  have rl : (repF (sumsF due) (oftenF due)).length ≤ 256 := by
    unfold repF
    rw [List.length_flatten, List.map_replicate, List.sum_replicate_nat]
    calc (oftenF due).toNat * (sumsF due).length ≤ 16 * 16 := Nat.mul_le_mul (by omega) sl
      _ = 256 := by decide
  refine ret_if (bb := !decide (uF (odd ++ [[farF names]]) (repF (sumsF due) (oftenF due) ++ [[farF names, farF names]]) = ([[farF names]], [[farF names, farF names]]))) (tst_cmp (a := eP (eL (eL .int)) (eL (eL .int)) (uF (odd ++ [[farF names]]) (repF (sumsF due) (oftenF due) ++ [[farF names, farF names]]))) (b := eP (eL (eL .int)) (eL (eL .int)) ([[farF names]], [[farF names, farF names]]))
    (ev_call_m (by rfl) D.u (by rfl) (evf_addl (f := eL .int) (xs := odd) (ys := [[farF names]]) (ev_name (by rfl) (by rfl)) (ev_lst (evl_cons (ev_lst (evl_cons (ev_name (by rfl) (by rfl)) evl_nil)) evl_nil)) (by rw [sizeLine_eq, ho]; simp only [List.length_cons, List.length_nil]; omega)) (evf_addl (f := eL .int) (xs := repF (sumsF due) (oftenF due)) (ys := [[farF names, farF names]]) (ev_mull (f := eL .int) (xs := sumsF due) (ev_name (by rfl) (by rfl)) (ev_name (by rfl) (by rfl)) (by omega) (by omega) (Nat.le_trans (Nat.mul_le_mul sl (show (oftenF due).toNat ≤ 16 by omega)) (by decide))) (ev_lst (evl_cons (ev_lst (evl_cons (ev_name (by rfl) (by rfl)) (evl_cons (ev_name (by rfl) (by rfl)) evl_nil))) evl_nil)) (by rw [sizeLine_eq]; simp only [List.length_cons, List.length_nil]; omega)) (uld_fun (encL encI) (by decide) D.u G.ve (by rw [List.length_append, ho]; simp only [List.length_cons, List.length_nil]; omega) (by rw [List.length_append]; simp only [List.length_cons, List.length_nil]; omega)))
    (ev_tup (evl_cons (ev_lst (evl_cons (ev_lst (evl_cons (ev_name (by rfl) (by rfl)) evl_nil)) evl_nil)) (evl_cons (ev_lst (evl_cons (ev_lst (evl_cons (ev_name (by rfl) (by rfl)) (evl_cons (ev_name (by rfl) (by rfl)) evl_nil))) evl_nil)) evl_nil))) (op_ne (encP (encL (encL encI)) (encL (encL encI))) (by decide))) (fun hb => absurd K.h4 (by simpa using hb)) (fun _ => ?_)
  show Ret _ _ _ _ _ (_ :: _) _
  -- falling, near
  have spS : ∀ v ∈ sumsF due, S v := C.sums K.dS fun a ha => by rw [List.mem_singleton.mp ha]; exact C.nil
  refine ret_cons (exec_comp (out := (fallF (sumsF due)).map (eL .int)) (by decide) (compM (enc := eL .int) (enc' := eL .int) (xs := sumsF due) (fn := fun one => (sortI one).reverse) (by rfl) (by rfl) (by rfl) (by rfl) (evit_list (ev_name (by rfl) (by rfl))) (fun one h1 => ev_sorted_rev (by rfl) G.sorted (ev_name (by rfl) (by rfl)) (by have := C.len _ (spS one h1); omega)) (by rw [sizeLine_eq]; omega))) ?_
  have fl := fall_len (sumsF due)
  have hsu := small_up ⟨(sumsF due).length, by omega⟩
  simp only at hsu
  have nl : (nearF (fallF (sumsF due))).length ≤ 16 := by
    unfold nearF
    rw [List.length_map]
    by_cases h0 : (0 : Int) ≤ ((fallF (sumsF due)).length : Int) - 1
    · have := len_rangeL (a := 0) (b := ((fallF (sumsF due)).length : Int) - 1) (c := 1) (by decide) (by decide) h0; omega
    · have : rangeL 0 (((fallF (sumsF due)).length : Int) - 1) 1 = [] := by
        apply List.eq_nil_iff_forall_not_mem.mpr
        intro x hx; have := mem_rangeL (by decide) hx; omega
      rw [this]; simp
  refine ret_cons (exec_comp (out := (nearF (fallF (sumsF due))).map (eP (eL .int) (eL .int))) (by decide) (Comp.cast (compM (enc := .int) (enc' := eP (eL .int) (eL .int)) (xs := rangeL 0 (((sumsF due).length : Int) - 1) 1) (fn := fun c => ((fallF (sumsF due)).getD c.toNat [], (fallF (sumsF due)).getD (c + 1).toNat [])) (by rfl) (by rfl) (by rfl) (by rfl) (evit_range1 (by rfl) G.range (ev_binop (ev_call_b (by rfl) G.len (by rfl) (evl_cons (ev_name (by rfl) (by rfl)) evl_nil) (fun_len (enc := eL .int) (xs := sumsF due) (by omega))) ev_int op_sub) (hsm := hsu))
    (fun c hc => ev_tup (evl_cons (ev_itemD (enc := eL .int) (xs := fallF (sumsF due)) (d := []) (ev_name (by rfl) (by rfl)) (ev_name (by rfl) (by rfl)) (by have := mem_rangeL (by decide) hc; omega) (by have := mem_rangeL (by decide) hc; omega) (by have := mem_rangeL (by decide) hc; omega)) (evl_cons (ev_itemD (enc := eL .int) (xs := fallF (sumsF due)) (d := []) (ev_name (by rfl) (by rfl)) (ev_binop (ev_name (by rfl) (by rfl)) ev_int op_add) (by have := mem_rangeL (by decide) hc; omega) (by have := mem_rangeL (by decide) hc; omega) (by have := mem_rangeL (by decide) hc; omega)) evl_nil))) (by unfold nearF at nl; rw [List.length_map, fl] at nl; rw [sizeLine_eq]; omega)) (by unfold nearF; rw [fl]))) ?_
  have MM : ∀ {x y : List Int}, Fun g (n + 4) (.ref c) [eL .int x, eL .int y] (.int (cmpL x y)) := fun {x y} => cmpl_fun (n := n + 3) D
  refine ret_if (bb := !decide (((fallF (sumsF due)).map fun one => cmpL one one) = (List.replicate ((sumsF due).length : Int).toNat [(0 : Int)]).flatten)) (tst_cmp (a := eL .int ((fallF (sumsF due)).map fun one => cmpL one one)) (b := eL .int (List.replicate ((sumsF due).length : Int).toNat [(0 : Int)]).flatten) (Comp.ev (compM (enc := eL .int) (enc' := .int) (xs := fallF (sumsF due)) (fn := fun one => cmpL one one) (by rfl) (by rfl) (by rfl) (by rfl) (evit_list (ev_name (by rfl) (by rfl))) (fun one _ => ev_call_f (by rfl) D.c (by rfl) (evl_cons (ev_name (by rfl) (by rfl)) (evl_cons (ev_name (by rfl) (by rfl)) evl_nil)) MM) (by rw [sizeLine_eq]; omega)))
    (ev_mull (f := .int) (xs := [0]) (ev_lst (evl_cons ev_int evl_nil)) (ev_call_b (by rfl) G.len (by rfl) (evl_cons (ev_name (by rfl) (by rfl)) evl_nil) (fun_len (enc := eL .int) (xs := sumsF due) (by omega))) (by omega) (by omega) (by simp only [List.length_cons, List.length_nil]; omega)) (op_ne (encL encI) (by decide))) (fun hb => absurd K.h5 (by rw [Int.toNat_natCast] at hb; simpa using hb)) (fun _ => ?_)
  show Ret _ _ _ _ _ (_ :: _) _
  have hfin : decide (((nearF (fallF (sumsF due))).map fun p => (cmpL p.1 p.2, cmpL p.2 p.1)) = (List.replicate ((nearF (fallF (sumsF due))).length : Int).toNat [((-1 : Int), (1 : Int))]).flatten) = true := by rw [Int.toNat_natCast]; simp only [K.h6, decide_true]
  rw [← hfin]
  refine ret_return (ev_cmp (a := eL (eP .int .int) ((nearF (fallF (sumsF due))).map fun p => (cmpL p.1 p.2, cmpL p.2 p.1))) (b := eL (eP .int .int) (List.replicate ((nearF (fallF (sumsF due))).length : Int).toNat [((-1 : Int), (1 : Int))]).flatten)
    (Ev.cast (Comp.ev (comp1 (ws := [Str.ofString "one", Str.ofString "two"]) (enc := eP (eL .int) (eL .int)) (enc' := eP .int .int) (xs := nearF (fallF (sumsF due))) (p := fun _ => true) (fn := fun p => (cmpL p.1 p.2, cmpL p.2 p.1)) (fun p => [(Str.ofString "two", eL .int p.2), (Str.ofString "one", eL .int p.1)]) (by rfl) (by rfl) (by rfl) (by rfl) (evit_list (ev_name (by rfl) (by rfl))) (fun p => asg_tuple (asgl_cons (asg_name (by decide)) (asgl_cons (asg_name (by decide)) asgl_nil))) (fun p q hq => by simp only [List.mem_cons, List.not_mem_nil, or_false] at hq; rcases hq with rfl | rfl <;> simp) (fun p _ => tests_nil)
      (fun p _ _ => ev_tup (evl_cons (ev_call_f (by rfl) D.c (by rfl) (evl_cons (ev_name (by rfl) (by rfl)) (evl_cons (ev_name (by rfl) (by rfl)) evl_nil)) MM) (evl_cons (ev_call_f (by rfl) D.c (by rfl) (evl_cons (ev_name (by rfl) (by rfl)) (evl_cons (ev_name (by rfl) (by rfl)) evl_nil)) MM) evl_nil))) (by rw [sizeLine_eq]; omega))) (by rw [List.filter_eq_self.mpr (fun _ _ => rfl)]; rfl))
    (ev_mull (f := eP .int .int) (xs := [((-1 : Int), (1 : Int))]) (ev_lst (evl_cons (ev_tup (evl_cons (ev_neg ev_int) (evl_cons ev_int evl_nil))) evl_nil)) (ev_call_b (by rfl) G.len (by rfl) (evl_cons (ev_name (by rfl) (by rfl)) evl_nil) (fun_len (enc := eP (eL .int) (eL .int)) (xs := nearF (fallF (sumsF due))) (by omega))) (by omega) (by omega) (by simp only [List.length_cons, List.length_nil]; omega)) (op_eq (encL (encP encI encI)) (by decide)))
end
end Mine
namespace Mine
open PySem PyProof.Rows PySem.Calls PySem.Spec

def names1 (ns : List Int) : List Int := namesF (drawnF ns)
def rows1 (ns : List Int) : List (List Int) := rowsF (names1 ns) (drawnF ns) (marksF ns)
def odd1 (ns : List Int) : List (List Int) := oddF (names1 ns) (rows1 ns)
def due1 (ns : List Int) : List (List Int) := dueF (names1 ns) (odd1 ns)

section
variable {g : G} {n : Nat} {s u c ad su cl ba : Addr} {S : List Int → Prop}
theorem law_fun (G : Gt1 g) (D : Dt1 g s u c ad su cl ba) {la : Addr} (hdef : DefAt g (Str.ofString "law") la (fArgs (stAt pw 9)) (fBody (stAt pw 9)) (fScope (stAt pw 9))) {ns : List Int} (hn : ns.length < 64) (K : Ok1 S (names1 ns) (rows1 ns) (odd1 ns) (due1 ns)) :
    Fun g (n + 5) (.ref la) [eL .int ns] (.bool true) := by
  refine fun_def (ws := wsA) (ps := [mScript]) hdef (fun vs hv pm code doc => ?_) (by rfl) (by decide) (by rfl) (by rfl) (by rfl) ?_
  · match vs, hv with | [_], _ => rfl
  exact law_head (n := n) G hn (law_mid (n := n) G D hn (names := names1 ns) (rows := rows1 ns) (odd := odd1 ns) (marks := marksF ns) rfl rfl rfl rfl rfl K.nle (law_tail (n := n) G D K (len16 _) rfl))
end
end Mine
namespace Mine
open PySem PyProof.Rows PySem.Calls PySem.Spec

/-- the names at the mask's bits -/
def V : List Int → Nat → List Int
  | [], _ => []
  | x :: xs, a => if a.testBit 0 then x :: V xs (a >>> 1) else V xs (a >>> 1)

theorem V_sub : ∀ (names : List Int) (a : Nat), (V names a).Sublist names
  | [], _ => .slnil
  | x :: xs, a => by
    unfold V
    split
    · exact (V_sub xs _).cons₂ x
    · exact (V_sub xs _).cons x
theorem V_zero : ∀ (names : List Int), V names 0 = []
  | [] => rfl
  | x :: xs => by unfold V; simp [V_zero xs]

theorem dw_none {x : Int} {A : List Int} (h : ∀ y ∈ A, x < y) : A.dropWhile (· == x) = A := by
  cases A with
  | nil => rfl
  | cons y A => rw [List.dropWhile_cons_of_neg]; have := h y (List.mem_cons_self ..); simp; omega
theorem sld_left {x : Int} {A B : List Int} (hA : ∀ y ∈ A, x < y) (hB : ∀ y ∈ B, x < y) : sldGo (x :: A) B = (x :: (sldGo A B).1, (sldGo A B).2) := by
  cases B with
  | nil => rw [sldGo_nil, sldGo_nil]
  | cons y B => rw [sldGo, if_pos (hB y (List.mem_cons_self ..)), dw_none hA]
theorem sld_right {y : Int} {A B : List Int} (hA : ∀ z ∈ A, y < z) (hB : ∀ z ∈ B, y < z) : sldGo A (y :: B) = ((sldGo A B).1, y :: (sldGo A B).2) := by
  cases A with
  | nil => rw [sldGo]; cases B <;> rw [sldGo]
  | cons x A =>
    have := hA x (List.mem_cons_self ..)
    rw [sldGo, if_neg (by omega), if_pos this, dw_none hB]
theorem sld_both {x : Int} {A B : List Int} (hA : ∀ y ∈ A, x < y) (hB : ∀ y ∈ B, x < y) : sldGo (x :: A) (x :: B) = sldGo A B := by
  rw [sldGo, if_neg (by omega), if_neg (by omega), dw_none hA, dw_none hB]

theorem sld_V : ∀ {names : List Int} (_ : names.Pairwise (· < ·)) (a b : Nat), ((sldGo (V names a) (V names b)).1 ++ (sldGo (V names a) (V names b)).2).Perm (V names (a ^^^ b))
  | [], _, a, b => by simp [V, sldGo]
  | x :: xs, h, a, b => by
    rw [List.pairwise_cons] at h
    have hx : ∀ c, ∀ y ∈ V xs c, x < y := fun c y hy => h.1 y ((V_sub xs c).subset hy)
    have ih := sld_V h.2 (a >>> 1) (b >>> 1)
    rw [← Nat.shiftRight_xor_distrib] at ih
    unfold V
    rw [Nat.testBit_xor]
    cases ha : a.testBit 0 <;> cases hb : b.testBit 0 <;> simp only [Bool.false_eq_true, if_false, if_true, Bool.xor_true, Bool.xor_false, Bool.not_true, Bool.not_false]
    · exact ih
    · rw [sld_right (hx _) (hx _)]
      exact List.perm_middle.trans (ih.cons x)
    · rw [sld_left (hx _) (hx _)]
      exact ih.cons x
    · rw [sld_both (hx _) (hx _)]; exact ih
theorem add_V {names : List Int} (h : names.Pairwise (· < ·)) (a b : Nat) : addF (V names a) (V names b) = V names (a ^^^ b) := by
  unfold addF
  symm
  refine sortI_eq (sld_V h a b).symm ?_
  exact ((h.imp fun h => Int.le_of_lt h)).sublist (V_sub names _)
end Mine
namespace Mine
open PySem PyProof.Rows PySem.Calls PySem.Spec

theorem mem_V : ∀ {names : List Int} (_ : names.Pairwise (· < ·)) {i : Nat} {x : Int} (a : Nat), names[i]? = some x → (x ∈ V names a ↔ a.testBit i = true)
  | [], _, i, x, a, h => by simp at h
  | y :: ys, hp, 0, x, a, h => by
    rw [List.pairwise_cons] at hp
    have : y = x := by simpa using h
    subst this
    have hn : y ∉ V ys (a >>> 1) := fun hm => by have := hp.1 y ((V_sub ys _).subset hm); omega
    unfold V
    cases hb : a.testBit 0 <;> simp [hn]
  | y :: ys, hp, i + 1, x, a, h => by
    rw [List.pairwise_cons] at hp
    have h' : ys[i]? = some x := by simpa using h
    have hne : x ≠ y := fun e => by have := hp.1 x (List.mem_of_getElem? h'); omega
    have ih := mem_V hp.2 (a >>> 1) h'
    rw [Nat.testBit_shiftRight] at ih
    rw [show 1 + i = i + 1 from Nat.add_comm 1 i] at ih
    unfold V
    cases hb : a.testBit 0 <;> simp [hne, ih]
theorem V_inj {names : List Int} (hp : names.Pairwise (· < ·)) {a b : Nat} (ha : a < 2 ^ names.length) (hb : b < 2 ^ names.length) (h : V names a = V names b) : a = b := by
  apply Nat.eq_of_testBit_eq
  intro i
  by_cases hi : i < names.length
  · have hx : names[i]? = some names[i] := List.getElem?_eq_getElem hi
    have h1 := mem_V hp a hx
    have h2 := mem_V hp b hx
    rw [h] at h1
    have := h1.symm.trans h2
    cases h3 : a.testBit i <;> cases h4 : b.testBit i <;> simp_all
  · have e1 : a.testBit i = false := Nat.testBit_lt_two_pow (Nat.lt_of_lt_of_le ha (Nat.pow_le_pow_right (by decide) (by omega)))
    have e2 : b.testBit i = false := Nat.testBit_lt_two_pow (Nat.lt_of_lt_of_le hb (Nat.pow_le_pow_right (by decide) (by omega)))
    rw [e1, e2]

theorem endOf_eq (v : List Int) : endOf v = v.getLast?.toList := by
  unfold endOf pySlice
  cases v with
  | nil => rfl
  | cons x l =>
    have hc : clipAt (x :: l).length (-1) = l.length := by
      unfold clipAt; rw [if_pos (by decide)]; simp only [List.length_cons]; omega
    show ((x :: l).drop (clipAt (x :: l).length (-1))).take ((x :: l).length - clipAt (x :: l).length (-1)) = _
    rw [hc, List.getLast?_eq_some_getLast (by simp)]
    have hl : l.length < (x :: l).length := by simp
    rw [List.drop_eq_getElem_cons hl, List.getLast_eq_getElem]
    simp
theorem V_cons (x : Int) (xs : List Int) (a : Nat) : V (x :: xs) a = if a.testBit 0 then x :: V xs (a >>> 1) else V xs (a >>> 1) := rfl
theorem shr1 (a : Nat) : a >>> 1 = a / 2 := rfl
theorem log2_half {a : Nat} (h : a >>> 1 ≠ 0) : a.log2 = (a >>> 1).log2 + 1 := by
  rw [shr1] at h ⊢
  rw [Nat.log2_def, if_pos (by omega)]
theorem last_V : ∀ {names : List Int} {a : Nat}, a < 2 ^ names.length → a ≠ 0 → (V names a).getLast? = names[a.log2]?
  | [], a, h, h0 => by simp at h; omega
  | x :: xs, a, h, h0 => by
    have h2 : a >>> 1 < 2 ^ xs.length := by rw [shr1]; rw [List.length_cons, Nat.pow_succ] at h; omega
    by_cases hz : a >>> 1 = 0
    · have ha : a = 1 := by rw [shr1] at hz; omega
      subst ha
      have e : V (x :: xs) 1 = [x] := by unfold V; simp [V_zero]
      rw [e]; rfl
    · have ih := last_V h2 hz
      rw [log2_half hz, List.getElem?_cons_succ, ← ih]
      have hne : V xs (a >>> 1) ≠ [] := by
        intro e
        rw [e] at ih
        have hlt : (a >>> 1).log2 < xs.length := (Nat.log2_lt hz).mpr h2
        rw [List.getElem?_eq_getElem hlt] at ih
        cases ih
      rw [V_cons]
      split
      · rw [List.getLast?_cons, List.getLast?_eq_some_getLast hne]; rfl
      · rfl
end Mine
namespace Mine
open PySem PyProof.Rows PySem.Calls PySem.Spec

def clrM (r b : Nat) : Nat := if b = 0 ∨ r.testBit b.log2 = true then r ^^^ b else r
def clearM (r : Nat) (bases : List Nat) : Nat := bases.foldl clrM r
def stepM (bases : List Nat) (r : Nat) : List Nat := if clearM r bases = 0 then bases else (bases.map fun b => clearM b [clearM r bases]) ++ [clearM r bases]
def basesM (rows : List Nat) : List Nat := rows.foldl stepM []
def sumsM (rows : List Nat) : List Nat := rows.foldl (fun s r => s ++ s.map fun one => one ^^^ r) [0]
def outM (m : Nat) (bases : List Nat) : List Nat := (List.range m).flatMap fun i => bases.filter fun b => decide (b ≠ 0 ∧ b.log2 = i)

section
variable {names : List Int} (hp : names.Pairwise (· < ·))
include hp
theorem idx_inj {i j : Nat} {x : Int} (h1 : names[i]? = some x) (h2 : names[j]? = some x) : i = j := by
  obtain ⟨hi, e1⟩ := List.getElem?_eq_some_iff.mp h1
  obtain ⟨hj, e2⟩ := List.getElem?_eq_some_iff.mp h2
  have hw := List.pairwise_iff_getElem.mp hp
  rcases Nat.lt_trichotomy i j with h | h | h
  · have := hw i j hi hj h; omega
  · exact h
  · have := hw j i hj hi h; omega
theorem V_nil_iff {a : Nat} (ha : a < 2 ^ names.length) : V names a = [] ↔ a = 0 := by
  constructor
  · intro h
    exact V_inj hp ha (Nat.two_pow_pos _) (by rw [h, V_zero])
  · rintro rfl; exact V_zero _
theorem end_V {a : Nat} (ha : a < 2 ^ names.length) (h0 : a ≠ 0) : ∃ x, names[a.log2]? = some x ∧ endOf (V names a) = [x] := by
  have hlt : a.log2 < names.length := (Nat.log2_lt h0).mpr ha
  refine ⟨names[a.log2], List.getElem?_eq_getElem hlt, ?_⟩
  rw [endOf_eq, last_V ha h0, List.getElem?_eq_getElem hlt]; rfl
theorem clr_V {r b : Nat} (hb : b < 2 ^ names.length) : clr1 (V names r) (V names b) = V names (clrM r b) := by
  unfold clr1 clrM
  by_cases h0 : b = 0
  · subst h0
    rw [V_zero, if_pos (by rfl), if_pos (.inl rfl)]
    have := add_V hp r 0
    rw [V_zero] at this; exact this
  · obtain ⟨x, hx, he⟩ := end_V hp hb h0
    rw [he]
    have hm := mem_V hp r hx
    by_cases ht : r.testBit b.log2 = true
    · have hu : (uF [x] (V names r)).1 = [] := by
        show (uldGo [x] [] (V names r)).1 = []
        unfold uldGo; rw [if_pos (hm.mpr ht)]; rfl
      rw [if_pos hu, if_pos (.inr ht), add_V hp]
    · have hu : ¬ (uF [x] (V names r)).1 = [] := by
        show ¬ (uldGo [x] [] (V names r)).1 = []
        unfold uldGo; rw [if_neg (fun h => ht (hm.mp h))]; simp [uldGo]
      rw [if_neg hu, if_neg (by rintro (h | h); exact h0 h; exact ht h)]
omit hp in
theorem clrM_lt {m r b : Nat} (hr : r < 2 ^ m) (hb : b < 2 ^ m) : clrM r b < 2 ^ m := by
  unfold clrM; split
  · exact Nat.xor_lt_two_pow hr hb
  · exact hr
omit hp in
theorem clearM_lt {m : Nat} : ∀ {bases : List Nat} {r : Nat}, r < 2 ^ m → (∀ b ∈ bases, b < 2 ^ m) → clearM r bases < 2 ^ m
  | [], r, hr, _ => hr
  | b :: bs, r, hr, hb => clearM_lt (bases := bs) (clrM_lt hr (hb b (List.mem_cons_self ..))) fun x hx => hb x (List.mem_cons_of_mem _ hx)
omit hp in
theorem stepM_lt {m : Nat} {bases : List Nat} {r : Nat} (hr : r < 2 ^ m) (hb : ∀ b ∈ bases, b < 2 ^ m) : ∀ b ∈ stepM bases r, b < 2 ^ m := by
  unfold stepM; split
  · exact hb
  · intro b hm
    rcases List.mem_append.mp hm with h | h
    · obtain ⟨x, hx, rfl⟩ := List.mem_map.mp h
      exact clearM_lt (hb x hx) fun y hy => by rw [List.mem_singleton.mp hy]; exact clearM_lt hr hb
    · rw [List.mem_singleton.mp h]; exact clearM_lt hr hb
theorem clear_V : ∀ {bases : List Nat} {r : Nat}, (∀ b ∈ bases, b < 2 ^ names.length) → clearF (V names r) (bases.map (V names)) = V names (clearM r bases)
  | [], r, _ => rfl
  | b :: bs, r, hb => by
    show clearF (clr1 (V names r) (V names b)) (bs.map (V names)) = V names (clearM (clrM r b) bs)
    rw [clr_V hp (hb b (List.mem_cons_self ..))]
    exact clear_V fun x hx => hb x (List.mem_cons_of_mem _ hx)
theorem step_V {bases : List Nat} {r : Nat} (hr : r < 2 ^ names.length) (hb : ∀ b ∈ bases, b < 2 ^ names.length) : stepF (bases.map (V names)) (V names r) = (stepM bases r).map (V names) := by
  unfold stepF stepM
  rw [clear_V hp hb]
  have hc := clearM_lt hr hb
  by_cases h0 : clearM r bases = 0
  · rw [if_pos ((V_nil_iff hp hc).mpr h0), if_pos h0]
  · rw [if_neg (fun h => h0 ((V_nil_iff hp hc).mp h)), if_neg h0, List.map_append, List.map_map, List.map_map]
    congr 1
    refine List.map_congr_left fun b hbm => ?_
    show clearF (V names b) [V names (clearM r bases)] = V names (clearM b [clearM r bases])
    exact clear_V hp (bases := [clearM r bases]) fun x hx => by rw [List.mem_singleton.mp hx]; exact hc
theorem bases_V : ∀ {rows acc : List Nat}, (∀ r ∈ rows, r < 2 ^ names.length) → (∀ b ∈ acc, b < 2 ^ names.length) → (rows.map (V names)).foldl stepF (acc.map (V names)) = (rows.foldl stepM acc).map (V names)
  | [], acc, _, _ => rfl
  | r :: rows, acc, hr, hb => by
    rw [List.map_cons, List.foldl_cons, List.foldl_cons, step_V hp (hr r (List.mem_cons_self ..)) hb]
    exact bases_V (fun x hx => hr x (List.mem_cons_of_mem _ hx)) (stepM_lt (hr r (List.mem_cons_self ..)) hb)
omit hp in
theorem basesM_lt {m : Nat} : ∀ {rows acc : List Nat}, (∀ r ∈ rows, r < 2 ^ m) → (∀ b ∈ acc, b < 2 ^ m) → ∀ b ∈ rows.foldl stepM acc, b < 2 ^ m
  | [], acc, _, hb => hb
  | r :: rows, acc, hr, hb => basesM_lt (rows := rows) (fun x hx => hr x (List.mem_cons_of_mem _ hx)) (stepM_lt (hr r (List.mem_cons_self ..)) hb)
theorem sums_V : ∀ {rows acc : List Nat}, (rows.map (V names)).foldl (fun s r => s ++ s.map fun one => addF one r) (acc.map (V names)) = (rows.foldl (fun s r => s ++ s.map fun one => one ^^^ r) acc).map (V names)
  | [], acc => rfl
  | r :: rows, acc => by
    rw [List.map_cons, List.foldl_cons, List.foldl_cons]
    have : (acc.map (V names) ++ (acc.map (V names)).map fun one => addF one (V names r)) = (acc ++ acc.map fun one => one ^^^ r).map (V names) := by
      rw [List.map_append, List.map_map, List.map_map]
      congr 1
      exact List.map_congr_left fun a _ => add_V hp a r
    rw [this]
    exact sums_V
theorem sumsF_V (rows : List Nat) : sumsF (rows.map (V names)) = (sumsM rows).map (V names) := by
  have := sums_V hp (rows := rows) (acc := [0])
  rw [List.map_cons, V_zero] at this
  exact this
theorem out_V {bases : List Nat} (hb : ∀ b ∈ bases, b < 2 ^ names.length) : outF names (bases.map (V names)) = (outM names.length bases).map (V names) := by
  unfold outF outM
  rw [List.map_flatMap]
  symm
  refine flatMap_range names _ _ fun i x hx => ?_
  rw [List.filter_map]
  congr 1
  refine List.filter_congr fun b hbm => ?_
  show decide (b ≠ 0 ∧ b.log2 = i) = decide (endOf (V names b) = [x])
  by_cases h0 : b = 0
  · subst h0; rw [V_zero]; simp [endOf_eq]
  · obtain ⟨y, hy, he⟩ := end_V hp (hb b hbm) h0
    rw [he]
    have hi : b.log2 = i ↔ y = x := by
      constructor
      · rintro h; rw [h, hx] at hy; cases hy; rfl
      · rintro rfl; exact idx_inj hp hy hx
    simp [h0, hi]
end
end Mine
namespace Mine

def insN (x : Nat) : List Nat → List Nat
  | [] => [x]
  | y :: l => if x ≤ y then x :: y :: l else y :: insN x l
def sortN : List Nat → List Nat
  | [] => []
  | x :: l => insN x (sortN l)
theorem insN_perm (x : Nat) : ∀ l, (insN x l).Perm (x :: l)
  | [] => .refl _
  | y :: l => by unfold insN; split; exact .refl _; exact ((insN_perm x l).cons y).trans (.swap ..)
theorem sortN_perm : ∀ l, (sortN l).Perm l
  | [] => .refl _
  | x :: l => (insN_perm x _).trans ((sortN_perm l).cons x)
theorem insN_sorted (x : Nat) : ∀ l, l.Pairwise (· ≤ ·) → (insN x l).Pairwise (· ≤ ·)
  | [], _ => by simp [insN]
  | y :: ys, h => by
    unfold insN
    obtain ⟨h1, h2⟩ := List.pairwise_cons.mp h
    split
    · rename_i hxy
      exact List.pairwise_cons.mpr ⟨fun z hz => by rcases List.mem_cons.mp hz with rfl | hz; exact hxy; exact Nat.le_trans hxy (h1 z hz), h⟩
    · rename_i hxy
      refine List.pairwise_cons.mpr ⟨fun z hz => ?_, insN_sorted x ys h2⟩
      rcases List.mem_cons.mp ((insN_perm x ys).mem_iff.mp hz) with rfl | hz
      · omega
      · exact h1 z hz
theorem sortN_sorted : ∀ l, (sortN l).Pairwise (· ≤ ·)
  | [] => .nil
  | x :: xs => insN_sorted x _ (sortN_sorted xs)

theorem snoc_ind {α : Type} {P : List α → Prop} (h0 : P []) (h1 : ∀ l x, P l → P (l ++ [x])) (l : List α) : P l := by
  have : ∀ m : List α, P m.reverse := by
    intro m
    induction m with
    | nil => exact h0
    | cons x m ih => rw [List.reverse_cons]; exact h1 _ _ ih
  have h := this l.reverse
  rwa [List.reverse_reverse] at h

/-! bits -/
theorem xorLC (a b c : Nat) : a ^^^ (b ^^^ c) = b ^^^ (a ^^^ c) := by rw [← Nat.xor_assoc, Nat.xor_comm a b, Nat.xor_assoc]
theorem xor_back (v c : Nat) : (v ^^^ c) ^^^ c = v := by rw [Nat.xor_assoc, Nat.xor_self, Nat.xor_zero]
theorem xor3 (v r c : Nat) : v ^^^ r = (v ^^^ (r ^^^ c)) ^^^ c := by rw [← Nat.xor_assoc, xor_back]
theorem xor_zero_eq {a b : Nat} (h : a ^^^ b = 0) : a = b := by
  have := xor_back a b
  rw [h, Nat.zero_xor] at this; exact this.symm
theorem lt_bit {x y i : Nat} (hx : x.testBit i = false) (hy : y.testBit i = true) (h : ∀ j, i < j → x.testBit j = y.testBit j) : x < y := by
  have e : x >>> (i + 1) = y >>> (i + 1) := by
    apply Nat.eq_of_testBit_eq
    intro j
    rw [Nat.testBit_shiftRight, Nat.testBit_shiftRight]
    exact h _ (by omega)
  rw [Nat.shiftRight_succ, Nat.shiftRight_succ, Nat.shiftRight_eq_div_pow, Nat.shiftRight_eq_div_pow] at e
  rw [Nat.testBit_eq_decide_div_mod_eq] at hx hy
  have hx := of_decide_eq_false hx
  have hy := of_decide_eq_true hy
  rcases Nat.lt_or_ge x y with h | h
  · exact h
  · have := Nat.div_le_div_right (c := 2 ^ i) h
    omega
theorem top_bit {v j : Nat} (h0 : v ≠ 0) (h : v.log2 < j) : v.testBit j = false :=
  Nat.testBit_lt_two_pow ((Nat.log2_lt h0).mp h)
theorem le_top {v j : Nat} (h0 : v ≠ 0) (h : v.testBit j = true) : j ≤ v.log2 := by
  rcases Nat.lt_or_ge v.log2 j with h1 | h1
  · rw [top_bit h0 h1] at h; cases h
  · exact h1
theorem top_eq {v k : Nat} (h : v.testBit k = true) (h2 : v < 2 ^ (k + 1)) : v ≠ 0 ∧ v.log2 = k := by
  have h0 : v ≠ 0 := by rintro rfl; simp at h
  exact ⟨h0, (Nat.log2_eq_iff h0).mpr ⟨Nat.ge_two_pow_of_testBit h, h2⟩⟩
theorem top_xor {s b : Nat} (hb : b ≠ 0) (hs : s < 2 ^ b.log2) : s ^^^ b ≠ 0 ∧ (s ^^^ b).log2 = b.log2 := by
  refine top_eq ?_ (Nat.xor_lt_two_pow (Nat.lt_of_lt_of_le hs (Nat.pow_le_pow_right (by decide) (by omega))) Nat.lt_log2_self)
  rw [Nat.testBit_xor, Nat.testBit_lt_two_pow hs, Nat.testBit_log2 hb]; rfl
theorem xor_lt {s s' b : Nat} (h : s < s') (hb : b.testBit (s ^^^ s').log2 = false) : s ^^^ b < s' ^^^ b := by
  have h0 : s ^^^ s' ≠ 0 := fun e => by have := xor_zero_eq e; omega
  have hd := Nat.testBit_log2 h0
  rw [Nat.testBit_xor] at hd
  have hab : ∀ j, (s ^^^ s').log2 < j → s.testBit j = s'.testBit j := fun j hj => by
    have := top_bit h0 hj
    rw [Nat.testBit_xor] at this
    cases h1 : s.testBit j <;> cases h2 : s'.testBit j <;> simp_all
  have hs : s.testBit (s ^^^ s').log2 = false ∧ s'.testBit (s ^^^ s').log2 = true := by
    cases h1 : s.testBit (s ^^^ s').log2 <;> cases h2 : s'.testBit (s ^^^ s').log2 <;> simp [h1, h2] at hd
    · exact ⟨rfl, rfl⟩
    · have := lt_bit h2 h1 fun j hj => (hab j hj).symm
      omega
  refine lt_bit (i := (s ^^^ s').log2) ?_ ?_ fun j hj => ?_
  · rw [Nat.testBit_xor, hs.1, hb]; rfl
  · rw [Nat.testBit_xor, hs.2, hb]; rfl
  · rw [Nat.testBit_xor, Nat.testBit_xor, hab j hj]

/-! sums -/
def grow (s : List Nat) (r : Nat) : List Nat := s ++ s.map fun one => one ^^^ r
theorem sumsM_snoc (L : List Nat) (b : Nat) : sumsM (L ++ [b]) = grow (sumsM L) b := by unfold sumsM; rw [List.foldl_append]; rfl
theorem map_xor (L : List Nat) (a b : Nat) : ((L.map fun v => v ^^^ a).map fun v => v ^^^ b) = L.map fun v => v ^^^ (a ^^^ b) := by
  rw [List.map_map]; exact List.map_congr_left fun v _ => Nat.xor_assoc v a b
theorem map_back (L : List Nat) (a b : Nat) : (L.map fun v => v ^^^ (a ^^^ b ^^^ b)) = L.map fun v => v ^^^ a := by rw [xor_back]
theorem grow_perm {s t : List Nat} (h : s.Perm t) (r : Nat) : (grow s r).Perm (grow t r) := h.append (h.map _)
theorem grow_swap (s : List Nat) (a b : Nat) : (grow (grow s a) b).Perm (grow (grow s b) a) := by
  unfold grow
  rw [List.map_append, List.map_append, map_xor, map_xor, Nat.xor_comm b a, List.append_assoc, List.append_assoc, ← List.append_assoc (s.map _) (s.map _), ← List.append_assoc (s.map _) (s.map _)]
  exact (List.perm_append_comm.append_right _).append_left _
/-- a base may take on the other one -/
theorem grow_turn (s : List Nat) (b r : Nat) : (grow (grow s (b ^^^ r)) r).Perm (grow (grow s b) r) := by
  unfold grow
  rw [List.map_append, List.map_append, map_xor, map_xor, map_back, List.append_assoc, List.append_assoc]
  refine List.Perm.append_left _ ?_
  refine .trans ?_ (List.perm_append_comm (l₁ := (s.map fun v => v ^^^ r) ++ s.map fun v => v ^^^ (b ^^^ r)) (l₂ := s.map fun v => v ^^^ b) |>.trans (.of_eq rfl))
  rw [← List.append_assoc]
  exact List.perm_append_comm.append_right _
theorem sums_perm {T T' : List Nat} (h : T.Perm T') : ∀ {s t : List Nat}, s.Perm t → (T.foldl grow s).Perm (T'.foldl grow t) := by
  induction h with
  | nil => exact fun h => h
  | cons x _ ih => exact fun h => ih (grow_perm h x)
  | swap x y l =>
    intro s t h
    rw [List.foldl_cons, List.foldl_cons, List.foldl_cons, List.foldl_cons]
    have : ∀ (l : List Nat) {s t : List Nat}, s.Perm t → (l.foldl grow s).Perm (l.foldl grow t) := by
      intro l
      induction l with
      | nil => exact fun h => h
      | cons z l ih => exact fun h => ih (grow_perm h z)
    exact this l ((grow_swap s y x).trans (grow_perm (grow_perm h x) y))
  | trans _ _ ih1 ih2 => exact fun h => (ih1 h).trans (ih2 (.refl _))
theorem sumsM_perm {T T' : List Nat} (h : T.Perm T') : (sumsM T).Perm (sumsM T') := sums_perm h (.refl _)
theorem sums_turn {f : Nat → Nat} {r : Nat} (hf : ∀ b, f b = b ∨ f b = b ^^^ r) (L : List Nat) : (grow (sumsM (L.map f)) r).Perm (grow (sumsM L) r) := by
  refine snoc_ind (P := fun L => (grow (sumsM (L.map f)) r).Perm (grow (sumsM L) r)) (.refl _) (fun L b ih => ?_) L
  rw [List.map_append, List.map_cons, List.map_nil, sumsM_snoc, sumsM_snoc]
  have h : (grow (grow (sumsM (L.map f)) (f b)) r).Perm (grow (grow (sumsM (L.map f)) b) r) := by
    rcases hf b with e | e
    · rw [e]
    · rw [e]; exact grow_turn _ _ _
  exact h.trans ((grow_swap _ _ _).trans ((grow_perm ih b).trans (grow_swap _ _ _)))
theorem sums_shift (T : List Nat) : ∀ s ∈ sumsM T, ((sumsM T).map fun v => v ^^^ s).Perm (sumsM T) := by
  refine snoc_ind (P := fun T => ∀ s ∈ sumsM T, ((sumsM T).map fun v => v ^^^ s).Perm (sumsM T)) ?_ (fun L b ih s hs => ?_) T
  · intro s hs; rw [List.mem_singleton.mp hs]; exact .refl _
  · rw [sumsM_snoc] at hs ⊢
    have h1 : ∀ s ∈ sumsM L, ((grow (sumsM L) b).map fun v => v ^^^ s).Perm (grow (sumsM L) b) := fun s hs => by
      have e : ((grow (sumsM L) b).map fun v => v ^^^ s) = grow ((sumsM L).map fun v => v ^^^ s) b := by
        unfold grow; rw [List.map_append, map_xor, map_xor, Nat.xor_comm b s]
      rw [e]; exact grow_perm (ih s hs) b
    rcases List.mem_append.mp hs with h | h
    · exact h1 s h
    · obtain ⟨x, hx, rfl⟩ := List.mem_map.mp h
      have e : ((grow (sumsM L) b).map fun v => v ^^^ (x ^^^ b)) = (((grow (sumsM L) b).map fun v => v ^^^ x).map fun v => v ^^^ b) := (map_xor _ _ _).symm
      rw [e]
      refine ((h1 x hx).map _).trans ?_
      unfold grow
      rw [List.map_append, map_xor, Nat.xor_self]
      refine .trans List.perm_append_comm (List.Perm.append_right _ (.of_eq ?_))
      simp
theorem sums_zero (T : List Nat) : 0 ∈ sumsM T :=
  snoc_ind (P := fun T => 0 ∈ sumsM T) (List.mem_cons_self ..) (fun L b ih => by rw [sumsM_snoc]; exact List.mem_append_left _ ih) T
theorem sums_add {T : List Nat} {v w : Nat} (hv : v ∈ sumsM T) (hw : w ∈ sumsM T) : v ^^^ w ∈ sumsM T :=
  (sums_shift T w hw).mem_iff.mp (List.mem_map.mpr ⟨v, hv, rfl⟩)
theorem sums_self (T : List Nat) : ∀ t ∈ T, t ∈ sumsM T := by
  refine snoc_ind (P := fun T => ∀ t ∈ T, t ∈ sumsM T) (fun _ h => by cases h) (fun L b ih t ht => ?_) T
  rw [sumsM_snoc]
  rcases List.mem_append.mp ht with h | h
  · exact List.mem_append_left _ (ih t h)
  · rw [List.mem_singleton.mp h]
    exact List.mem_append_right _ (List.mem_map.mpr ⟨0, sums_zero L, Nat.zero_xor b⟩)
theorem sums_bound {m : Nat} : ∀ {rows acc : List Nat}, (∀ r ∈ rows, r < 2 ^ m) → (∀ a ∈ acc, a < 2 ^ m) → ∀ v ∈ rows.foldl grow acc, v < 2 ^ m
  | [], acc, _, h => h
  | r :: rows, acc, hr, h => sums_bound (rows := rows) (fun x hx => hr x (List.mem_cons_of_mem _ hx)) fun v hv => by
    rcases List.mem_append.mp hv with hv | hv
    · exact h v hv
    · obtain ⟨x, hx, rfl⟩ := List.mem_map.mp hv; exact Nat.xor_lt_two_pow (h x hx) (hr r (List.mem_cons_self ..))
theorem sumsM_lt {m : Nat} {rows : List Nat} (hr : ∀ r ∈ rows, r < 2 ^ m) : ∀ v ∈ sumsM rows, v < 2 ^ m :=
  sums_bound (acc := [0]) hr fun a ha => by rw [List.mem_singleton.mp ha]; exact Nat.two_pow_pos _
end Mine
namespace Mine

/-- neither has the other's greatest bit -/
def Apart (x y : Nat) : Prop := y.testBit x.log2 = false ∧ x.testBit y.log2 = false
theorem Apart.symm {x y : Nat} (h : Apart x y) : Apart y x := ⟨h.2, h.1⟩
structure Red (B : List Nat) : Prop where
  nz : ∀ b ∈ B, b ≠ 0
  ap : B.Pairwise Apart
theorem Red.perm {B T : List Nat} (h : Red B) (p : B.Perm T) : Red T := ⟨fun b hb => h.nz b (p.mem_iff.mpr hb), (p.pairwise_iff fun h => h.symm).mp h.ap⟩
theorem ap_piv : ∀ {B : List Nat}, B.Pairwise Apart → ∀ x ∈ B, ∀ y ∈ B, x = y ∨ y.testBit x.log2 = false
  | [], _, x, hx, _, _ => by cases hx
  | b :: B, h, x, hx, y, hy => by
    rw [List.pairwise_cons] at h
    rcases List.mem_cons.mp hx with e1 | h1 <;> rcases List.mem_cons.mp hy with e2 | h2
    · exact .inl (e1.trans e2.symm)
    · rw [e1]; exact .inr (h.1 y h2).1
    · rw [e2]; exact .inr (h.1 x h1).2
    · exact ap_piv h.2 x h1 y h2
theorem Red.piv {B : List Nat} (h : Red B) {x y : Nat} (hx : x ∈ B) (hy : y ∈ B) (ht : y.testBit x.log2 = true) : x = y := by
  rcases ap_piv h.ap x hx y hy with e | e
  · exact e
  · rw [e] at ht; cases ht
theorem Red.nodup {B : List Nat} (h : Red B) : B.Nodup := by
  refine (List.pairwise_iff_forall_sublist.mpr fun {a b} hs => ?_)
  rintro rfl
  have h1 := (List.pairwise_iff_forall_sublist.mp h.ap hs).1
  have h2 := h.nz a (hs.subset (List.mem_cons_self ..))
  rw [Nat.testBit_log2 h2] at h1; cases h1
theorem Red.init {L : List Nat} {b : Nat} (h : Red (L ++ [b])) : Red L := ⟨fun x hx => h.nz x (List.mem_append_left _ hx), (List.pairwise_append.mp h.ap).1⟩

/-- clearing: no pivot is left, and what went away is a sum -/
theorem clear_red (B : List Nat) : Red B → ∀ r, (∀ b ∈ B, (clearM r B).testBit b.log2 = false) ∧ r ^^^ clearM r B ∈ sumsM B := by
  refine snoc_ind (P := fun B => Red B → ∀ r, (∀ b ∈ B, (clearM r B).testBit b.log2 = false) ∧ r ^^^ clearM r B ∈ sumsM B) ?_ (fun L b ih h r => ?_) B
  · intro _ r
    exact ⟨fun _ h => (by cases h), by show r ^^^ r ∈ [0]; rw [Nat.xor_self]; exact List.mem_cons_self ..⟩
  · obtain ⟨h1, h2⟩ := ih h.init r
    have hb0 : b ≠ 0 := h.nz b (List.mem_append_right _ (List.mem_cons_self ..))
    have e : clearM r (L ++ [b]) = clrM (clearM r L) b := by unfold clearM; rw [List.foldl_append]; rfl
    have hap := (List.pairwise_append.mp h.ap).2.2
    rw [e, sumsM_snoc]
    unfold clrM
    by_cases ht : (clearM r L).testBit b.log2 = true
    · rw [if_pos (.inr ht)]
      refine ⟨fun t htm => ?_, ?_⟩
      · rw [Nat.testBit_xor]
        rcases List.mem_append.mp htm with hm | hm
        · rw [h1 t hm, (hap t hm b (List.mem_cons_self ..)).1]; rfl
        · rw [List.mem_singleton.mp hm, ht, Nat.testBit_log2 hb0]; rfl
      · rw [← Nat.xor_assoc]
        exact List.mem_append_right _ (List.mem_map.mpr ⟨_, h2, rfl⟩)
    · rw [if_neg (by rintro (h | h); exact hb0 h; exact ht h)]
      refine ⟨fun t htm => ?_, List.mem_append_left _ h2⟩
      rcases List.mem_append.mp htm with hm | hm
      · exact h1 t hm
      · rw [List.mem_singleton.mp hm]; simpa using ht

/-- a base rid of the new one keeps its greatest bit -/
theorem clr_top {b c : Nat} (hb : b ≠ 0) (hc : c ≠ 0) (h : c.testBit b.log2 = false) : clrM b c ≠ 0 ∧ (clrM b c).log2 = b.log2 := by
  unfold clrM
  by_cases ht : b.testBit c.log2 = true
  · rw [if_pos (.inr ht), Nat.xor_comm]
    have h1 := le_top hb ht
    have hne : c.log2 ≠ b.log2 := fun e => by rw [← e, Nat.testBit_log2 hc] at h; cases h
    exact top_xor hb ((Nat.log2_lt hc).mp (by omega))
  · rw [if_neg (by rintro (h | h); exact hc h; exact ht h)]; exact ⟨hb, rfl⟩
theorem clr_bit {b c j : Nat} (hc : c.testBit j = false) : (clrM b c).testBit j = b.testBit j := by
  unfold clrM; split
  · rw [Nat.testBit_xor, hc, Bool.xor_false]
  · rfl
theorem clr_own {b c : Nat} (hc : c ≠ 0) : (clrM b c).testBit c.log2 = false := by
  unfold clrM
  by_cases ht : b.testBit c.log2 = true
  · rw [if_pos (.inr ht), Nat.testBit_xor, ht, Nat.testBit_log2 hc]; rfl
  · rw [if_neg (by rintro (h | h); exact hc h; exact ht h)]; simpa using ht
theorem step_red {B : List Nat} {c : Nat} (h : Red B) (hc : c ≠ 0) (hp : ∀ b ∈ B, c.testBit b.log2 = false) : Red ((B.map fun b => clrM b c) ++ [c]) := by
  refine ⟨fun x hx => ?_, List.pairwise_append.mpr ⟨?_, List.pairwise_singleton .., fun x hx y hy => ?_⟩⟩
  · rcases List.mem_append.mp hx with hx | hx
    · obtain ⟨b, hb, rfl⟩ := List.mem_map.mp hx; exact (clr_top (h.nz b hb) hc (hp b hb)).1
    · rw [List.mem_singleton.mp hx]; exact hc
  · rw [List.pairwise_map]
    refine List.Pairwise.imp_of_mem (fun {x y} hx hy ha => ?_) h.ap
    unfold Apart
    rw [(clr_top (h.nz x hx) hc (hp x hx)).2, (clr_top (h.nz y hy) hc (hp y hy)).2, clr_bit (hp x hx), clr_bit (hp y hy)]
    exact ha
  · obtain ⟨b, hb, rfl⟩ := List.mem_map.mp hx
    rw [List.mem_singleton.mp hy]
    exact ⟨by rw [(clr_top (h.nz b hb) hc (hp b hb)).2]; exact hp b hb, clr_own hc⟩

theorem rep_perm {α : Type} {L M : List α} (h : L.Perm M) : ∀ n, ((List.replicate n L).flatten).Perm (List.replicate n M).flatten
  | 0 => .refl _
  | n + 1 => by rw [List.replicate_succ, List.replicate_succ, List.flatten_cons, List.flatten_cons]; exact h.append (rep_perm h n)
theorem rep_app {α : Type} (L M : List α) : ∀ n, ((List.replicate n L).flatten ++ (List.replicate n M).flatten).Perm (List.replicate n (L ++ M)).flatten
  | 0 => .refl _
  | n + 1 => by
    rw [List.replicate_succ, List.replicate_succ, List.replicate_succ, List.flatten_cons, List.flatten_cons, List.flatten_cons]
    have h1 := rep_app L M n
    rw [List.append_assoc, List.append_assoc]
    refine List.Perm.append_left L ?_
    refine .trans ?_ (List.Perm.append_left M h1)
    rw [← List.append_assoc, ← List.append_assoc]
    exact List.Perm.append_right _ List.perm_append_comm
theorem rep_map {α β : Type} (f : α → β) (L : List α) (n : Nat) : (List.replicate n L).flatten.map f = (List.replicate n (L.map f)).flatten := by
  rw [List.map_flatten, List.map_replicate]
theorem rep_twice {α : Type} (L : List α) (n : Nat) : (List.replicate n L).flatten ++ (List.replicate n L).flatten = (List.replicate (2 * n) L).flatten := by
  rw [← List.flatten_append, List.replicate_append_replicate, Nat.two_mul]

/-- after k rows: the bases B are reduced, and the sums S are theirs, each equally often -/
structure Inv (k : Nat) (B S : List Nat) : Prop where
  red : Red B
  len : B.length ≤ k
  sums : S.Perm (List.replicate (2 ^ (k - B.length)) (sumsM B)).flatten

theorem Inv.step {k : Nat} {B S : List Nat} (r : Nat) (I : Inv k B S) : Inv (k + 1) (stepM B r) (grow S r) := by
  obtain ⟨hred, hin⟩ := clear_red B I.red r
  have hlen := I.len
  have hmap : (S.map fun one => one ^^^ r).Perm (List.replicate (2 ^ (k - B.length)) ((sumsM B).map fun v => v ^^^ clearM r B)).flatten := by
    refine (I.sums.map _).trans ?_
    rw [rep_map]
    refine rep_perm ?_ _
    have := (sums_shift B _ hin).map fun v => v ^^^ clearM r B
    rw [List.map_map] at this
    refine .trans (.of_eq ?_) this
    exact List.map_congr_left fun v _ => xor3 v r _
  unfold stepM
  by_cases h0 : clearM r B = 0
  · rw [if_pos h0]
    refine ⟨I.red, by omega, ?_⟩
    rw [h0] at hmap
    have hid : ((sumsM B).map fun v => v ^^^ 0) = sumsM B := by simp
    rw [hid] at hmap
    refine (I.sums.append hmap).trans (.of_eq ?_)
    rw [rep_twice, show k + 1 - B.length = (k - B.length) + 1 from by omega, Nat.pow_succ, Nat.mul_comm]
  · rw [if_neg h0]
    have hl : ((B.map fun b => clearM b [clearM r B]) ++ [clearM r B]).length = B.length + 1 := by simp
    refine ⟨step_red I.red h0 hred, by omega, ?_⟩
    refine (I.sums.append hmap).trans ((rep_app _ _ _).trans ?_)
    rw [hl, show k + 1 - (B.length + 1) = k - B.length from by omega]
    refine rep_perm ?_ _
    rw [sumsM_snoc]
    refine (sums_turn (f := fun b => clearM b [clearM r B]) (fun b => ?_) B).symm
    show clrM b _ = b ∨ clrM b _ = _
    unfold clrM; split
    · exact .inr rfl
    · exact .inl rfl
theorem inv0 : Inv 0 [] [0] := ⟨⟨fun _ h => (by cases h), .nil⟩, Nat.le_refl _, .refl _⟩
theorem four (a b c d : Nat) : Inv 4 (basesM [a, b, c, d]) (sumsM [a, b, c, d]) := (((inv0.step a).step b).step c).step d
theorem mem_rep {α : Type} {L : List α} {n : Nat} (hn : 0 < n) (v : α) : v ∈ (List.replicate n L).flatten ↔ v ∈ L := by
  rw [List.mem_flatten]
  constructor
  · rintro ⟨l, hl, hv⟩; rw [(List.mem_replicate.mp hl).2] at hv; exact hv
  · intro h; exact ⟨L, List.mem_replicate.mpr ⟨by omega, rfl⟩, h⟩

/-- some vector's greatest bit -/
def TopP (sp : List Nat) (i : Nat) : Prop := ∃ v ∈ sp, v ≠ 0 ∧ v.log2 = i
/-- the one that has its own greatest bit and no other such -/
def LoneP (sp : List Nat) (v : Nat) : Prop := ∀ j, v.testBit j = true → TopP sp j → j = v.log2

/-- rising and reduced -/
structure Fact (T : List Nat) : Prop where
  red : Red T
  up : T.Pairwise (· < ·)
theorem fact_of {B : List Nat} (h : Red B) : Fact (sortN B) := by
  have hr := h.perm (sortN_perm B).symm
  refine ⟨hr, ?_⟩
  have := List.pairwise_and_iff.mpr ⟨sortN_sorted B, hr.nodup⟩
  exact this.imp fun ⟨a, b⟩ => by omega
theorem log2_mono {a b : Nat} (ha : a ≠ 0) (h : a ≤ b) : a.log2 ≤ b.log2 := by
  rcases Nat.lt_or_ge b.log2 a.log2 with h1 | h1
  · have := (Nat.log2_lt (by omega)).mp h1
    have := Nat.log2_self_le ha
    omega
  · exact h1
theorem Fact.init {L : List Nat} {b : Nat} (h : Fact (L ++ [b])) : Fact L := ⟨h.red.init, (List.pairwise_append.mp h.up).1⟩
theorem Fact.below {L : List Nat} {b : Nat} (h : Fact (L ++ [b])) : ∀ x ∈ L, x < 2 ^ b.log2 := by
  intro x hx
  have hb : b ∈ L ++ [b] := List.mem_append_right _ (List.mem_cons_self ..)
  have hx' : x ∈ L ++ [b] := List.mem_append_left _ hx
  have h1 := (List.pairwise_append.mp h.up).2.2 x hx b (List.mem_cons_self ..)
  have h2 := (List.pairwise_append.mp h.red.ap).2.2 x hx b (List.mem_cons_self ..)
  have h3 := log2_mono (h.red.nz x hx') (Nat.le_of_lt h1)
  have h4 : x.log2 ≠ b.log2 := fun e => by have := h2.2; rw [← e, Nat.testBit_log2 (h.red.nz x hx')] at this; cases this
  exact (Nat.log2_lt (h.red.nz x hx')).mp (by omega)
theorem sums_top (T : List Nat) : Fact T → ∀ v ∈ sumsM T, v ≠ 0 → ∃ t ∈ T, v.log2 = t.log2 := by
  refine snoc_ind (P := fun T => Fact T → ∀ v ∈ sumsM T, v ≠ 0 → ∃ t ∈ T, v.log2 = t.log2) ?_ (fun L b ih h v hv h0 => ?_) T
  · intro _ v hv h0; exact absurd (List.mem_singleton.mp hv) h0
  · rw [sumsM_snoc] at hv
    rcases List.mem_append.mp hv with hv | hv
    · obtain ⟨t, ht, e⟩ := ih h.init v hv h0; exact ⟨t, List.mem_append_left _ ht, e⟩
    · obtain ⟨s, hs, rfl⟩ := List.mem_map.mp hv
      have hb : b ∈ L ++ [b] := List.mem_append_right _ (List.mem_cons_self ..)
      exact ⟨b, hb, (top_xor (h.red.nz b hb) (sumsM_lt h.below s hs)).2⟩
theorem Fact.top_iff {T : List Nat} (h : Fact T) (i : Nat) : TopP (sumsM T) i ↔ ∃ t ∈ T, t.log2 = i := by
  constructor
  · rintro ⟨v, hv, h0, rfl⟩; obtain ⟨t, ht, e⟩ := sums_top T h v hv h0; exact ⟨t, ht, e.symm⟩
  · rintro ⟨t, ht, e⟩; exact ⟨t, sums_self T t ht, h.red.nz t ht, e⟩
theorem Fact.rises (T : List Nat) : Fact T → (sumsM T).Pairwise (· < ·) := by
  refine snoc_ind (P := fun T => Fact T → (sumsM T).Pairwise (· < ·)) ?_ (fun L b ih h => ?_) T
  · intro _; exact List.pairwise_singleton ..
  · rw [sumsM_snoc]
    have hb : b ∈ L ++ [b] := List.mem_append_right _ (List.mem_cons_self ..)
    have hb0 := h.red.nz b hb
    refine List.pairwise_append.mpr ⟨ih h.init, ?_, fun x hx y hy => ?_⟩
    · rw [List.pairwise_map]
      refine List.Pairwise.imp_of_mem (fun {x y} hx hy hlt => xor_lt hlt ?_) (ih h.init)
      have h0 : x ^^^ y ≠ 0 := fun e => by have := xor_zero_eq e; omega
      obtain ⟨t, ht, e⟩ := sums_top L h.init _ (sums_add hx hy) h0
      rw [e]
      exact ((List.pairwise_append.mp h.red.ap).2.2 t ht b (List.mem_cons_self ..)).1
    · obtain ⟨s, hs, rfl⟩ := List.mem_map.mp hy
      have h1 := sumsM_lt h.below x hx
      obtain ⟨h2, h3⟩ := top_xor hb0 (sumsM_lt h.below s hs)
      have := Nat.log2_self_le h2
      rw [h3] at this
      omega
theorem Fact.lone {T : List Nat} (h : Fact T) (v : Nat) : (v ∈ sumsM T ∧ v ≠ 0 ∧ LoneP (sumsM T) v) ↔ v ∈ T := by
  constructor
  · rintro ⟨hv, h0, hl⟩
    obtain ⟨t, ht, e⟩ := sums_top T h v hv h0
    have ht0 := h.red.nz t ht
    suffices v ^^^ t = 0 by rw [xor_zero_eq this]; exact ht
    refine Classical.byContradiction fun hne => ?_
    obtain ⟨u, hu, e2⟩ := sums_top T h _ (sums_add hv (sums_self T t ht)) hne
    have hbit := Nat.testBit_log2 hne
    rw [e2, Nat.testBit_xor] at hbit
    cases htu : t.testBit u.log2 with
    | true =>
      have := h.red.piv hu ht htu
      subst this
      rw [← e, Nat.testBit_log2 h0, e, htu] at hbit
      cases hbit
    | false =>
      rw [htu, Bool.xor_false] at hbit
      have := hl _ hbit ((h.top_iff _).mpr ⟨u, hu, rfl⟩)
      rw [this, e, Nat.testBit_log2 ht0] at htu
      cases htu
  · intro hv
    refine ⟨sums_self T v hv, h.red.nz v hv, fun j hj htop => ?_⟩
    obtain ⟨t, ht, rfl⟩ := (h.top_iff j).mp htop
    rw [h.red.piv ht hv hj]

theorem one_of {α : Type} {l : List α} (hn : l.Nodup) (h : ∀ x ∈ l, ∀ y ∈ l, x = y) : l.length ≤ 1 := by
  match l, hn with
  | [], _ => simp
  | [_], _ => simp
  | a :: b :: l, hn =>
    have := h a (List.mem_cons_self ..) b (List.mem_cons_of_mem _ (List.mem_cons_self ..))
    exact absurd (by rw [this]; exact List.mem_cons_self ..) (List.nodup_cons.mp hn).1
theorem Fact.one {T : List Nat} (h : Fact T) (i : Nat) : (T.filter fun b => decide (b ≠ 0 ∧ b.log2 = i)).length ≤ 1 := by
  refine one_of (h.red.nodup.filter _) fun x hx y hy => ?_
  rw [List.mem_filter, decide_eq_true_iff] at hx hy
  refine h.red.piv hx.1 hy.1 ?_
  rw [hx.2.2, ← hy.2.2]; exact Nat.testBit_log2 hy.2.1
theorem filter_split (m n : Nat) (hmn : m ≤ n) : ∀ {T : List Nat}, T.Pairwise (· < ·) → (T.filter fun b => decide (b < n)) = (T.filter fun b => decide (b < m)) ++ T.filter fun b => decide (m ≤ b ∧ b < n)
  | [], _ => rfl
  | x :: T, h => by
    rw [List.pairwise_cons] at h
    have ih := filter_split m n hmn h.2
    rw [List.filter_cons, List.filter_cons, List.filter_cons]
    have no : ∀ {p : Prop} [Decidable p], ¬ p → ¬ decide p = true := fun h e => h (of_decide_eq_true e)
    by_cases h1 : x < m
    · rw [if_pos (decide_eq_true h1), if_pos (decide_eq_true (by omega)), if_neg (no (by omega)), ih]; rfl
    · have e : (T.filter fun b => decide (b < m)) = [] := List.filter_eq_nil_iff.mpr fun b hb => by have := h.1 b hb; simp; omega
      rw [e, List.nil_append] at ih
      rw [e, if_neg (no h1), List.nil_append, ih]
      by_cases h2 : x < n
      · rw [if_pos (decide_eq_true h2), if_pos (decide_eq_true (by omega))]
      · rw [if_neg (no h2), if_neg (no (by omega))]
theorem out_filter {T : List Nat} (h : Fact T) : ∀ m, outM m T = T.filter fun b => decide (b < 2 ^ m)
  | 0 => by
    symm
    exact List.filter_eq_nil_iff.mpr fun b hb => by have := h.red.nz b hb; simp; omega
  | m + 1 => by
    have ih := out_filter h m
    unfold outM at ih ⊢
    rw [List.range_succ, List.flatMap_append, ih, filter_split (2 ^ m) (2 ^ (m + 1)) (Nat.pow_le_pow_right (by decide) (by omega)) h.up]
    congr 1
    rw [List.flatMap_cons, List.flatMap_nil, List.append_nil]
    refine List.filter_congr fun b hb => ?_
    have h0 := h.red.nz b hb
    have := Nat.log2_eq_iff (k := m) h0
    simp only [decide_eq_decide]
    exact ⟨fun ⟨_, e⟩ => this.mp e, fun e => ⟨h0, this.mpr e⟩⟩
theorem Fact.out {T : List Nat} (h : Fact T) {m : Nat} (hT : ∀ b ∈ T, b < 2 ^ m) : outM m T = T := by
  rw [out_filter h, List.filter_eq_self]
  exact fun b hb => decide_eq_true (hT b hb)
end Mine
namespace Mine
open PySem PyProof.Rows PySem.Calls PySem.Spec

/-- the first of each kind among those that Q takes -/
def nubF {α : Type} [BEq α] (l : List α) (Q : α → Bool) : List α := ((enumP l).filter fun p => !(pySlice l none (some p.1)).contains p.2 && Q p.2).map fun p => p.2

theorem pySlice_take {α : Type} (l : List α) (i : Nat) : pySlice l none (some (i : Int)) = l.take i := by
  have hc : clipAt l.length (i : Int) = min i l.length := by unfold clipAt; rw [if_neg (by omega)]; omega
  show (l.drop 0).take (clipAt l.length (i : Int) - 0) = _
  rw [hc, List.drop_zero, Nat.sub_zero]
  rcases Nat.le_total i l.length with h | h
  · rw [Nat.min_eq_left h]
  · rw [Nat.min_eq_right h, List.take_length, List.take_of_length_le h]
theorem enumP_snoc {α : Type} (l : List α) (x : α) : enumP (l ++ [x]) = enumP l ++ [((l.length : Int), x)] := by
  unfold enumP; rw [List.mapIdx_append]; simp
theorem enumP_snd {α : Type} (l : List α) : (enumP l).map (fun p => p.2) = l := by
  unfold enumP
  apply List.ext_getElem?
  intro i
  rw [List.getElem?_map, List.getElem?_mapIdx, Option.map_map]
  cases l[i]? <;> rfl
theorem enumP_mem {α : Type} {l : List α} {p : Int × α} (h : p ∈ enumP l) : ∃ i : Nat, i < l.length ∧ p.1 = i := by
  unfold enumP at h
  obtain ⟨i, hi, rfl⟩ := List.mem_mapIdx.mp h
  exact ⟨i, hi, rfl⟩
section
variable {α : Type} [BEq α] [LawfulBEq α]
omit [LawfulBEq α] in
theorem nub_snoc (l : List α) (x : α) (Q : α → Bool) : nubF (l ++ [x]) Q = nubF l Q ++ (if !l.contains x && Q x then [x] else []) := by
  unfold nubF
  rw [enumP_snoc, List.filter_append, List.map_append]
  congr 1
  · congr 1
    refine List.filter_congr fun p hp => ?_
    obtain ⟨i, hi, e⟩ := enumP_mem hp
    rw [e, pySlice_take, pySlice_take, List.take_append_of_le_length (by omega)]
  · rw [List.filter_cons, pySlice_take, List.take_left]
    split <;> rfl
theorem nub_mem (Q : α → Bool) (v : α) : ∀ l : List α, v ∈ nubF l Q ↔ v ∈ l ∧ Q v = true := by
  intro l
  refine snoc_ind (P := fun l => v ∈ nubF l Q ↔ v ∈ l ∧ Q v = true) (by simp [nubF, enumP]) (fun l x ih => ?_) l
  · rw [nub_snoc, List.mem_append, ih, List.mem_append, List.mem_singleton]
    by_cases hx : l.contains x = true
    · have : x ∈ l := by simpa using hx
      rw [hx]; simp only [Bool.not_true, Bool.false_and, Bool.false_eq_true, if_false, List.not_mem_nil, or_false]
      constructor
      · rintro ⟨a, b⟩; exact ⟨.inl a, b⟩
      · rintro ⟨a | rfl, b⟩; exact ⟨a, b⟩; exact ⟨this, b⟩
    · have hx : l.contains x = false := by simpa using hx
      rw [hx]
      cases hq : Q x with
      | true =>
        simp only [Bool.not_false, Bool.and_self, if_true, List.mem_singleton]
        constructor
        · rintro (⟨a, b⟩ | rfl); exact ⟨.inl a, b⟩; exact ⟨.inr rfl, hq⟩
        · rintro ⟨a | rfl, b⟩; exact .inl ⟨a, b⟩; exact .inr rfl
      | false =>
        simp only [Bool.and_false, Bool.false_eq_true, if_false, List.not_mem_nil, or_false]
        constructor
        · rintro ⟨a, b⟩; exact ⟨.inl a, b⟩
        · rintro ⟨a | rfl, b⟩; exact ⟨a, b⟩; rw [hq] at b; cases b
theorem nub_nodup (Q : α → Bool) : ∀ l : List α, (nubF l Q).Nodup := by
  intro l
  refine snoc_ind (P := fun l => (nubF l Q).Nodup) List.nodup_nil (fun l x ih => ?_) l
  · rw [nub_snoc, List.nodup_append]
    refine ⟨ih, by split <;> simp, fun a ha b hb => ?_⟩
    split at hb
    · rename_i h
      rw [List.mem_singleton.mp hb]
      rintro rfl
      have h1 := ((nub_mem Q a l).mp ha).1
      simp [h1] at h
    · cases hb
omit [LawfulBEq α] in
theorem nub_sub (Q : α → Bool) (l : List α) : (nubF l Q).Sublist l := by
  have := (List.filter_sublist (l := enumP l) (p := fun p => !(pySlice l none (some p.1)).contains p.2 && Q p.2)).map fun p => p.2
  rw [enumP_snd] at this; exact this
end

theorem names_nub (drawn : List Int) : namesF drawn = nubF (sortI drawn) fun _ => true := by
  unfold namesF nubF; simp only [Bool.and_true]
theorem names_rise (drawn : List Int) : (namesF drawn).Pairwise (· < ·) := by
  rw [names_nub]
  have h1 := (sortI_sorted drawn).sublist (nub_sub (fun _ => true) (sortI drawn))
  have h2 := nub_nodup (fun _ => true) (sortI drawn)
  have h3 := List.pairwise_and_iff.mpr ⟨h1, h2⟩
  exact h3.imp fun ⟨a, b⟩ => by omega
theorem drawn_len (ns : List Int) : (drawnF ns).length = 5 := by unfold drawnF; rw [range5]; rfl
theorem names_len (ns : List Int) : (names1 ns).length ≤ 5 ∧ 0 < (names1 ns).length := by
  have hs : (sortI (drawnF ns)).length = 5 := by rw [(sortI_perm _).length_eq, drawn_len]
  unfold names1
  rw [names_nub]
  constructor
  · rw [← hs]; exact (nub_sub _ _).length_le
  · have hx : (sortI (drawnF ns))[0]? = some (sortI (drawnF ns))[0] := List.getElem?_eq_getElem (by omega)
    exact List.length_pos_of_mem ((nub_mem (fun _ => true) _ _).mpr ⟨List.mem_of_getElem? hx, rfl⟩)

theorem filter_V : ∀ {names : List Int} {p : Int → Bool} {a : Nat}, (∀ i x, names[i]? = some x → p x = a.testBit i) → names.filter p = V names a
  | [], p, a, _ => rfl
  | x :: xs, p, a, h => by
    have h0 := h 0 x rfl
    have ih := filter_V (names := xs) (p := p) (a := a >>> 1) fun i y hy => by
      rw [h (i + 1) y (by simpa using hy), Nat.testBit_shiftRight, Nat.add_comm]
    rw [List.filter_cons, V_cons, h0, ih]
def maskOf (p : Int → Bool) : List Int → Nat
  | [] => 0
  | x :: xs => (if p x then 1 else 0) + 2 * maskOf p xs
theorem maskOf_lt (p : Int → Bool) : ∀ names : List Int, maskOf p names < 2 ^ names.length
  | [] => by simp [maskOf]
  | x :: xs => by
    have := maskOf_lt p xs
    unfold maskOf; rw [List.length_cons, Nat.pow_succ]; split <;> omega
theorem filter_mask (p : Int → Bool) : ∀ names : List Int, names.filter p = V names (maskOf p names)
  | [] => rfl
  | x :: xs => by
    have ih := filter_mask p xs
    rw [List.filter_cons, V_cons]
    have e1 : (maskOf p (x :: xs)).testBit 0 = p x := by
      unfold maskOf; rw [Nat.testBit_zero]; cases p x <;> simp <;> omega
    have e2 : maskOf p (x :: xs) >>> 1 = maskOf p xs := by rw [shr1]; show ((if p x then 1 else 0) + 2 * maskOf p xs) / 2 = maskOf p xs; split <;> omega
    rw [e1, e2, ih]

/-- lists compare as masks do -/
theorem ltL_self : ∀ l, ltL l l = false
  | [] => rfl
  | x :: l => by unfold ltL; rw [if_pos rfl]; exact ltL_self l
theorem ltL_asym : ∀ l m, ltL l m = true → ltL m l = false
  | [], [], h => rfl
  | [], _ :: _, h => rfl
  | _ :: _, [], h => by cases h
  | x :: l, y :: m, h => by
    unfold ltL at h ⊢
    by_cases e : x = y
    · rw [if_pos e] at h; rw [if_pos e.symm]; exact ltL_asym l m h
    · rw [if_neg e] at h; rw [if_neg (Ne.symm e)]; have := of_decide_eq_true h; exact decide_eq_false (by omega)
theorem ltL_more (l : List Int) (x : Int) : ltL l (l ++ [x]) = true := by
  induction l with
  | nil => rfl
  | cons y l ih => rw [List.cons_append]; unfold ltL; rw [if_pos rfl]; exact ih
theorem ltL_app : ∀ {l m : List Int} {e f : List Int} {x : Int}, ltL l m = true → (∀ y ∈ m, x < y) → (e = [] ∨ e = [x]) → ltL (l ++ e) (m ++ f) = true
  | [], [], e, f, x, h, _, _ => by cases h
  | _ :: _, [], e, f, x, h, _, _ => by cases h
  | [], y :: m, e, f, x, h, hm, he => by
    rcases he with rfl | rfl
    · rfl
    · have := hm y (List.mem_cons_self ..)
      show ltL [x] (y :: (m ++ f)) = true
      unfold ltL; rw [if_neg (by omega)]; exact decide_eq_true this
  | z :: l, y :: m, e, f, x, h, hm, he => by
    rw [List.cons_append, List.cons_append]
    unfold ltL at h ⊢
    by_cases q : z = y
    · rw [if_pos q] at h ⊢; exact ltL_app h (fun w hw => hm w (List.mem_cons_of_mem _ hw)) he
    · rw [if_neg q] at h ⊢; exact h
theorem lt_V : ∀ {names : List Int} (_ : names.Pairwise (· < ·)) {a b : Nat}, b < 2 ^ names.length → a < b → ltL (V names a).reverse (V names b).reverse = true
  | [], _, a, b, hb, h => by simp at hb; omega
  | x :: xs, hp, a, b, hb, h => by
    rw [List.pairwise_cons] at hp
    have e : ∀ c, (V (x :: xs) c).reverse = (V xs (c >>> 1)).reverse ++ (if c.testBit 0 then [x] else []) := by
      intro c; rw [V_cons]; split <;> simp
    rw [e, e]
    have h2 : b >>> 1 < 2 ^ xs.length := by rw [shr1]; rw [List.length_cons, Nat.pow_succ] at hb; omega
    by_cases hs : a >>> 1 = b >>> 1
    · have ha : a.testBit 0 = false := by rw [Nat.testBit_zero]; rw [shr1, shr1] at hs; exact decide_eq_false (by omega)
      have hb' : b.testBit 0 = true := by rw [Nat.testBit_zero]; rw [shr1, shr1] at hs; exact decide_eq_true (by omega)
      rw [ha, hb', hs]
      simp only [Bool.false_eq_true, if_false, if_true, List.append_nil]
      exact ltL_more _ x
    · have hlt : a >>> 1 < b >>> 1 := by rw [shr1, shr1] at hs ⊢; omega
      refine ltL_app (x := x) (lt_V hp.2 h2 hlt) (fun y hy => ?_) (by split; exact .inr rfl; exact .inl rfl)
      exact hp.1 y ((V_sub xs _).subset (List.mem_reverse.mp hy))

/-- lists with the same kinds, one of them of at most one -/
theorem eq_of_one {α : Type} {L R : List α} (hn : L.Nodup) (hm : ∀ v, v ∈ L ↔ v ∈ R) (hl : R.length ≤ 1) : L = R := by
  match R, hl with
  | [], _ => 
    cases L with
    | nil => rfl
    | cons a l => have := (hm a).mp (List.mem_cons_self ..); cases this
  | [r], _ =>
    match L, hn with
    | [], _ => have := (hm r).mpr (List.mem_cons_self ..); cases this
    | [a], _ => have := List.mem_singleton.mp ((hm a).mp (List.mem_cons_self ..)); rw [this]
    | a :: b :: l, hn =>
      have h1 := List.mem_singleton.mp ((hm a).mp (List.mem_cons_self ..))
      have h2 := List.mem_singleton.mp ((hm b).mp (List.mem_cons_of_mem _ (List.mem_cons_self ..)))
      have := (List.nodup_cons.mp hn).1
      exact absurd (by rw [h1, h2]; exact List.mem_cons_self ..) this
theorem perm_one {α : Type} {L R : List α} (h : L.Perm R) (hl : R.length ≤ 1) : L = R := by
  match R, hl with
  | [], _ => exact h.eq_nil
  | [r], _ => exact List.perm_singleton.mp h

/-- unorderable_list_difference of two lists with the same items, a stranger laid to either side -/
theorem uld_perm {α : Type} [DecidableEq α] : ∀ {xs ys ms : List α} {w : α}, xs.Perm ys → uldGo xs ms (ys ++ [w]) = (ms, [w])
  | [], ys, ms, w, h => by rw [h.symm.eq_nil]; rfl
  | x :: xs, ys, ms, w, h => by
    have hx : x ∈ ys := h.mem_iff.mp (List.mem_cons_self ..)
    unfold uldGo
    rw [if_pos (List.mem_append_left _ hx), List.erase_append_left _ hx]
    refine uld_perm ?_
    have := h.erase x
    rwa [List.erase_cons_head] at this
theorem uF_strange {α : Type} [DecidableEq α] {xs ys : List α} {z w : α} (h : xs.Perm ys) (hz : z ∉ xs) (hw : z ≠ w) : uF (xs ++ [z]) (ys ++ [w]) = ([z], [w]) := by
  unfold uF
  rw [List.reverse_append]
  show uldGo (z :: xs.reverse) [] (ys ++ [w]) = _
  unfold uldGo
  rw [if_neg]
  · exact uld_perm ((List.reverse_perm xs).trans h)
  · intro hm
    rcases List.mem_append.mp hm with hm | hm
    · exact hz (h.mem_iff.mpr hm)
    · exact hw (List.mem_singleton.mp hm)
end Mine
namespace Mine
open PySem PyProof.Rows PySem.Calls PySem.Spec

def parF (c : Int) (t0 t1 t2 t3 : Bool) : Bool := decide ((((([0, 1, 2, 3] : List Int).filter fun k => [t0, t1, t2, t3].getD k.toNat false).map fun k => (c.fdiv (2 ^ k.toNat)).fmod 2).sum).fmod 2 = 1)


theorem sums4 (a b c d : Nat) : sumsM [a, b, c, d] = [0, 0 ^^^ a, 0 ^^^ b, 0 ^^^ a ^^^ b, 0 ^^^ c, 0 ^^^ a ^^^ c, 0 ^^^ b ^^^ c, 0 ^^^ a ^^^ b ^^^ c, 0 ^^^ d, 0 ^^^ a ^^^ d, 0 ^^^ b ^^^ d, 0 ^^^ a ^^^ b ^^^ d, 0 ^^^ c ^^^ d, 0 ^^^ a ^^^ c ^^^ d, 0 ^^^ b ^^^ c ^^^ d, 0 ^^^ a ^^^ b ^^^ c ^^^ d] := rfl

section
variable {names : List Int} (hp : names.Pairwise (· < ·))
include hp
theorem has_V {i : Nat} {x : Int} (a : Nat) (h : names[i]? = some x) : (V names a).contains x = a.testBit i := by
  have := mem_V hp a h
  cases ht : a.testBit i with
  | true => simpa using this.mpr ht
  | false => rw [List.contains_eq_mem]; exact decide_eq_false fun hm => by rw [this.mp hm] at ht; cases ht
theorem odd_at {r0 r1 r2 r3 : Nat} (c : Int) (a : Nat) (h : ∀ i, parF c (r0.testBit i) (r1.testBit i) (r2.testBit i) (r3.testBit i) = a.testBit i) :
    (names.filter fun x => decide ((bitsF [V names r0, V names r1, V names r2, V names r3] c x).fmod 2 = 1)) = V names a := by
  refine filter_V fun i x hx => ?_
  rw [← h i]
  unfold bitsF parF
  rw [range4]
  have : ([0, 1, 2, 3] : List Int).filter (fun k => ([V names r0, V names r1, V names r2, V names r3].getD k.toNat []).contains x) = ([0, 1, 2, 3] : List Int).filter fun k => [r0.testBit i, r1.testBit i, r2.testBit i, r3.testBit i].getD k.toNat false := by
    refine List.filter_congr fun k hk => ?_
    simp only [List.mem_cons, List.not_mem_nil, or_false] at hk
    rcases hk with rfl | rfl | rfl | rfl
    · exact has_V hp r0 hx
    · exact has_V hp r1 hx
    · exact has_V hp r2 hx
    · exact has_V hp r3 hx
  rw [this]
theorem odd_V (r0 r1 r2 r3 : Nat) : oddF names ([r0, r1, r2, r3].map (V names)) = (sumsM [r0, r1, r2, r3]).map (V names) := by
  unfold oddF
  rw [range16, sums4]
  simp only [List.map_cons, List.map_nil, List.cons.injEq, and_true]
  refine ⟨?_, ?_, ?_, ?_, ?_, ?_, ?_, ?_, ?_, ?_, ?_, ?_, ?_, ?_, ?_, ?_⟩ <;> refine odd_at hp _ _ fun i => ?_ <;> simp only [Nat.testBit_xor, Nat.zero_testBit] <;>
    (generalize r0.testBit i = t0; generalize r1.testBit i = t1; generalize r2.testBit i = t2; generalize r3.testBit i = t3; revert t0 t1 t2 t3; decide +kernel)

theorem out_at {B : List Nat} (hB : ∀ b ∈ B, b < 2 ^ names.length) {i : Nat} {x : Int} (hx : names[i]? = some x) : ((B.map (V names)).filter fun b => decide (endOf b = [x])) = (B.filter fun b => decide (b ≠ 0 ∧ b.log2 = i)).map (V names) := by
  rw [List.filter_map]
  congr 1
  refine List.filter_congr fun b hbm => ?_
  show decide (endOf (V names b) = [x]) = decide (b ≠ 0 ∧ b.log2 = i)
  by_cases h0 : b = 0
  · subst h0; rw [V_zero]; simp [endOf_eq]
  · obtain ⟨y, hy, he⟩ := end_V hp (hB b hbm) h0
    rw [he]
    have hi : b.log2 = i ↔ y = x := by
      constructor
      · rintro h; rw [h, hx] at hy; cases hy; rfl
      · rintro rfl; exact idx_inj hp hy hx
    simp [h0, hi]
theorem end_iff {a i : Nat} {x : Int} (ha : a < 2 ^ names.length) (hx : names[i]? = some x) : endOf (V names a) = [x] ↔ a ≠ 0 ∧ a.log2 = i := by
  by_cases h0 : a = 0
  · subst h0; rw [V_zero]; simp [endOf_eq]
  · obtain ⟨y, hy, he⟩ := end_V hp ha h0
    rw [he]
    constructor
    · intro h
      have : y = x := by simpa using h
      subst this
      exact ⟨h0, idx_inj hp hy hx⟩
    · rintro ⟨_, h⟩
      rw [h, hx] at hy; cases hy; rfl

omit hp in
theorem flatMap_eq {β : Type} {f k : Int → List β} (h : ∀ (i : Nat) (x : Int), names[i]? = some x → f x = k x) : names.flatMap f = names.flatMap k := by
  rw [← flatMap_range names f (fun i => (names[i]?).elim [] f) fun i x hx => by rw [hx]; rfl]
  exact flatMap_range names k _ fun i x hx => by rw [hx]; exact h i x hx

theorem out_len {T : List Nat} (F : Fact T) (hT : ∀ b ∈ T, b < 2 ^ names.length) {i : Nat} {x : Int} (hx : names[i]? = some x) : ((T.map (V names)).filter fun b => decide (endOf b = [x])).length ≤ 1 := by
  rw [out_at hp hT hx, List.length_map]
  exact F.one i

theorem out_perm {T B : List Nat} (F : Fact T) (hT : ∀ b ∈ T, b < 2 ^ names.length) (h : B.Perm T) : outF names (B.map (V names)) = outF names (T.map (V names)) := by
  refine flatMap_eq fun i x hx => ?_
  exact perm_one ((h.map _).filter _) (out_len hp F hT hx)
theorem out_self {T : List Nat} (F : Fact T) (hT : ∀ b ∈ T, b < 2 ^ names.length) : outF names (T.map (V names)) = T.map (V names) := by
  rw [out_V hp hT, F.out hT]

theorem tops_iff {O T : List Nat} (hO : ∀ a ∈ O, a < 2 ^ names.length) (hm : ∀ v, v ∈ O ↔ v ∈ sumsM T) {i : Nat} {x : Int} (hx : names[i]? = some x) : x ∈ topsF (O.map (V names)) ↔ TopP (sumsM T) i := by
  unfold topsF TopP
  rw [List.mem_map]
  constructor
  · rintro ⟨v, hv, he⟩
    rw [List.mem_filter] at hv
    obtain ⟨a, ha, rfl⟩ := List.mem_map.mp hv.1
    have h0 : a ≠ 0 := by
      rintro rfl
      have := hv.2
      rw [V_zero] at this; simp at this
    refine ⟨a, (hm a).mp ha, ?_⟩
    rw [List.getLastD_eq_getLast?, last_V (hO a ha) h0] at he
    have hlt : a.log2 < names.length := (Nat.log2_lt h0).mpr (hO a ha)
    rw [List.getElem?_eq_getElem hlt] at he
    have he : names[a.log2] = x := he
    have := idx_inj hp (List.getElem?_eq_getElem hlt) (he ▸ hx)
    exact ⟨h0, this⟩
  · rintro ⟨a, ha, h⟩
    have haO := (hm a).mpr ha
    refine ⟨V names a, ?_, ?_⟩
    · rw [List.mem_filter]
      refine ⟨List.mem_map.mpr ⟨a, haO, rfl⟩, ?_⟩
      have : V names a ≠ [] := fun e => h.1 ((V_nil_iff hp (hO a haO)).mp e)
      simp [this]
    · rw [List.getLastD_eq_getLast?, last_V (hO a haO) h.1, h.2, hx]; rfl
theorem lone_iff {O T : List Nat} (hO : ∀ a ∈ O, a < 2 ^ names.length) (hm : ∀ v, v ∈ O ↔ v ∈ sumsM T) {a : Nat} (ha : a ∈ O) (h0 : a ≠ 0) :
    (((V names a).filter fun x => (topsF (O.map (V names))).contains x) = endOf (V names a)) ↔ LoneP (sumsM T) a := by
  obtain ⟨y, hy, he⟩ := end_V hp (hO a ha) h0
  rw [he]
  have hnd : names.Nodup := hp.imp fun h => by omega
  constructor
  · intro h j h1 h2
    have hjm : j < names.length := by
      rcases Nat.lt_or_ge j names.length with h | h
      · exact h
      · have : a.testBit j = false := Nat.testBit_lt_two_pow (Nat.lt_of_lt_of_le (hO a ha) (Nat.pow_le_pow_right (by decide) h))
        rw [this] at h1; cases h1
    have hx : names[j]? = some names[j] := List.getElem?_eq_getElem hjm
    have hmem : names[j] ∈ (V names a).filter fun x => (topsF (O.map (V names))).contains x := by
      rw [List.mem_filter]
      refine ⟨(mem_V hp a hx).mpr h1, ?_⟩
      simpa using (tops_iff hp hO hm hx).mpr h2
    rw [h] at hmem
    have hxy := List.mem_singleton.mp hmem
    rw [hxy] at hx
    exact idx_inj hp hx hy
  · intro h
    refine eq_of_one ((hnd.sublist (V_sub names a)).filter _) (fun v => ?_) (Nat.le_refl 1)
    rw [List.mem_filter, List.mem_singleton]
    constructor
    · rintro ⟨h1, h2⟩
      obtain ⟨j, hj⟩ := List.getElem?_of_mem ((V_sub names a).subset h1)
      have h2 : v ∈ topsF (O.map (V names)) := by simpa using h2
      have hjm : j < names.length := (List.getElem?_eq_some_iff.mp hj).1
      have := h j ((mem_V hp a hj).mp h1) ((tops_iff hp hO hm hj).mp h2)
      rw [this, hy] at hj; cases hj; rfl
    · rintro rfl
      refine ⟨(mem_V hp a hy).mpr (Nat.testBit_log2 h0), ?_⟩
      have : TopP (sumsM T) a.log2 := ⟨a, (hm a).mp ha, h0, rfl⟩
      simpa using (tops_iff hp hO hm hy).mpr this
omit hp in
theorem lone_nub (odd : List (List Int)) : loneF odd = @nubF (List Int) instBEqOfDecidableEq odd fun one => decide ((one.filter fun x => (topsF odd).contains x) = endOf one) && true := rfl

omit hp in
theorem lone_mem (odd : List (List Int)) (v : List Int) : v ∈ loneF odd ↔ v ∈ odd ∧ (decide ((v.filter fun x => (topsF odd).contains x) = endOf v) && true) = true := @nub_mem (List Int) instBEqOfDecidableEq inferInstance (fun one => decide ((one.filter fun x => (topsF odd).contains x) = endOf one) && true) v odd
omit hp in
theorem lone_nodup (odd : List (List Int)) : (loneF odd).Nodup := @nub_nodup (List Int) instBEqOfDecidableEq inferInstance (fun one => decide ((one.filter fun x => (topsF odd).contains x) = endOf one) && true) odd

theorem due_V {O T : List Nat} (F : Fact T) (hT : ∀ b ∈ T, b < 2 ^ names.length) (hO : ∀ a ∈ O, a < 2 ^ names.length) (hm : ∀ v, v ∈ O ↔ v ∈ sumsM T) : dueF names (O.map (V names)) = T.map (V names) := by
  rw [← out_self hp F hT]
  unfold dueF
  refine flatMap_eq fun i x hx => ?_
  refine eq_of_one ?_ (fun v => ?_) (out_len hp F hT hx)
  · exact (lone_nodup _).filter _
  · rw [List.mem_filter, List.mem_filter, lone_mem, List.mem_map, List.mem_map, decide_eq_true_iff, Bool.and_true, decide_eq_true_iff]
    constructor
    · rintro ⟨⟨⟨a, ha, rfl⟩, hq⟩, he⟩
      obtain ⟨h0, hlog⟩ := (end_iff hp (hO a ha) hx).mp he
      exact ⟨⟨a, (F.lone a).mp ⟨(hm a).mp ha, h0, (lone_iff hp hO hm ha h0).mp hq⟩, rfl⟩, he⟩
    · rintro ⟨⟨t, ht, rfl⟩, he⟩
      obtain ⟨h1, h0, h2⟩ := (F.lone t).mpr ht
      have htO := (hm t).mpr h1
      exact ⟨⟨⟨t, htO, rfl⟩, (lone_iff hp hO hm htO h0).mpr h2⟩, he⟩
end
end Mine
namespace Mine
open PySem PyProof.Rows PySem.Calls PySem.Spec

theorem rep_one {α : Type} (n : Nat) (x : α) : (List.replicate n [x]).flatten = List.replicate n x := List.flatten_replicate_singleton
theorem map_all {α β : Type} {l : List α} {f : α → β} {y : β} (h : ∀ x ∈ l, f x = y) : l.map f = (List.replicate l.length [y]).flatten := by
  rw [rep_one, List.map_congr_left h, List.map_const']
theorem cmp_self (x : List Int) : cmpL x x = 0 := by unfold cmpL; rw [ltL_self]; rfl
theorem cmp_lt {x y : List Int} (h : ltL x y = true) : cmpL x y = -1 ∧ cmpL y x = 1 := by
  unfold cmpL; rw [h, ltL_asym _ _ h]; exact ⟨by decide, by decide⟩

section
variable {names : List Int} (hp : names.Pairwise (· < ·))
include hp
theorem sort_V (a : Nat) : sortI (V names a) = V names a := (sortI_eq (.refl _) ((hp.imp fun h => Int.le_of_lt h).sublist (V_sub names a))).symm
theorem fall_V (sp : List Nat) : fallF (sp.map (V names)) = sp.map fun a => (V names a).reverse := by
  unfold fallF
  rw [List.map_map]
  exact List.map_congr_left fun a _ => by show (sortI (V names a)).reverse = _; rw [sort_V hp]
theorem near_V {sp : List Nat} (hs : sp.Pairwise (· < ·)) (hl : ∀ a ∈ sp, a < 2 ^ names.length) : ∀ p ∈ nearF (fallF (sp.map (V names))), (cmpL p.1 p.2, cmpL p.2 p.1) = ((-1 : Int), (1 : Int)) := by
  rw [fall_V hp]
  unfold nearF
  intro p hpm
  obtain ⟨c, hc, rfl⟩ := List.mem_map.mp hpm
  obtain ⟨c0, c1⟩ := mem_rangeL (by decide) hc
  rw [List.length_map] at c1
  have h1 : c.toNat < sp.length := by omega
  have h2 : c.toNat + 1 < sp.length := by omega
  have e1 : sp[c.toNat]? = some sp[c.toNat] := List.getElem?_eq_getElem h1
  have e2 : sp[c.toNat + 1]? = some sp[c.toNat + 1] := List.getElem?_eq_getElem h2
  have hlt := List.pairwise_iff_getElem.mp hs _ _ h1 h2 (Nat.lt_succ_self _)
  have hb := hl _ (List.mem_of_getElem? e2)
  have hv := cmp_lt (lt_V hp hb hlt)
  have g1 : (sp.map fun a => (V names a).reverse).getD c.toNat [] = (V names sp[c.toNat]).reverse := by
    rw [List.getD_eq_getElem?_getD, List.getElem?_map, e1]; rfl
  have g2 : (sp.map fun a => (V names a).reverse).getD (c + 1).toNat [] = (V names sp[c.toNat + 1]).reverse := by
    rw [show (c + 1).toNat = c.toNat + 1 from by omega, List.getD_eq_getElem?_getD, List.getElem?_map, e2]; rfl
  show (cmpL (_ : List Int) _, cmpL (_ : List Int) _) = _
  rw [g1, g2, hv.1, hv.2]
theorem far_gt (h0 : 0 < names.length) : ∀ x ∈ names, x < farF names := by
  intro x hx
  obtain ⟨i, hi⟩ := List.getElem?_of_mem hx
  obtain ⟨hlt, e⟩ := List.getElem?_eq_some_iff.mp hi
  unfold farF
  have hne : names ≠ [] := by rintro rfl; simp at h0
  rw [List.getLastD_eq_getLast?, List.getLast?_eq_some_getLast hne, Option.getD_some, List.getLast_eq_getElem]
  rcases Nat.lt_or_ge i (names.length - 1) with h | h
  · have := List.pairwise_iff_getElem.mp hp i (names.length - 1) hlt (by omega) h
    omega
  · have hi : i = names.length - 1 := by omega
    subst hi; omega
theorem far_not (h0 : 0 < names.length) (O : List Nat) : [farF names] ∉ O.map (V names) := by
  intro h
  obtain ⟨a, _, e⟩ := List.mem_map.mp h
  have : farF names ∈ V names a := by rw [e]; exact List.mem_cons_self ..
  have := far_gt hp h0 _ ((V_sub names a).subset this)
  omega

theorem clo_V (h5 : names.length ≤ 5) : Clo fun v => ∃ a, a < 2 ^ names.length ∧ v = V names a where
  nil := ⟨0, Nat.two_pow_pos _, (V_zero names).symm⟩
  add := by
    rintro _ _ ⟨a, ha, rfl⟩ ⟨b, hb, rfl⟩
    exact ⟨a ^^^ b, Nat.xor_lt_two_pow ha hb, add_V hp a b⟩
  len := by
    rintro _ ⟨a, ha, rfl⟩
    have := (V_sub names a).length_le
    omega
theorem basesF_V {rows : List Nat} (hr : ∀ r ∈ rows, r < 2 ^ names.length) : basesF (rows.map (V names)) = (basesM rows).map (V names) :=
  bases_V hp (acc := []) hr fun _ h => by cases h

theorem plain_V (h0 : 0 < names.length) (h5 : names.length ≤ 5) {a b c d : Nat} (hr : ∀ r ∈ [a, b, c, d], r < 2 ^ names.length) :
    Ok1 (fun v => ∃ a, a < 2 ^ names.length ∧ v = V names a) names ([a, b, c, d].map (V names)) (oddF names ([a, b, c, d].map (V names))) (dueF names (oddF names ([a, b, c, d].map (V names)))) := by
  have hr' : ∀ r ∈ [d, c, b, a], r < 2 ^ names.length := fun r h => hr r (by simp only [List.mem_cons, List.not_mem_nil, or_false] at h ⊢; omega)
  have I := four a b c d
  have I' := four d c b a
  generalize hBe : basesM [a, b, c, d] = B at I
  generalize hBe' : basesM [d, c, b, a] = B' at I'
  have p := sortN_perm B
  have p' := sortN_perm B'
  have F := fact_of I.red
  have F' := fact_of I'.red
  have hlen : (sortN B).length = B.length := p.length_eq
  have hk := I.len
  have ms : ∀ v, v ∈ sumsM [a, b, c, d] ↔ v ∈ sumsM (sortN B) := fun v => by rw [I.sums.mem_iff, mem_rep (Nat.two_pow_pos _), (sumsM_perm p).mem_iff]
  have ms' : ∀ v, v ∈ sumsM [a, b, c, d] ↔ v ∈ sumsM (sortN B') := fun v => by
    have hb : [a, b, c, d].Perm [d, c, b, a] := (List.reverse_perm [d, c, b, a])
    rw [(sumsM_perm hb).mem_iff, I'.sums.mem_iff, mem_rep (Nat.two_pow_pos _), (sumsM_perm p').mem_iff]
  have hT : ∀ t ∈ sortN B, t < 2 ^ names.length := fun t ht => basesM_lt (acc := []) hr (fun _ h => by cases h) t (by rw [← hBe] at ht p; exact p.mem_iff.mp ht)
  have hT' : ∀ t ∈ sortN B', t < 2 ^ names.length := fun t ht => basesM_lt (acc := []) hr' (fun _ h => by cases h) t (by rw [← hBe'] at ht p'; exact p'.mem_iff.mp ht)
  generalize hTe : sortN B = T at p F hlen ms hT
  generalize hTe' : sortN B' = T' at p' F' ms' hT'
  have hO := sumsM_lt hr
  have hS := sumsM_lt hT
  have hdue : dueF names (oddF names ([a, b, c, d].map (V names))) = T.map (V names) := by rw [odd_V hp]; exact due_V hp F hT hO ms
  have hdue' : dueF names (oddF names ([a, b, c, d].map (V names))) = T'.map (V names) := by rw [odd_V hp]; exact due_V hp F' hT' hO ms'
  have hspan : sumsF (dueF names (oddF names ([a, b, c, d].map (V names)))) = (sumsM T).map (V names) := by rw [hdue, sumsF_V hp]
  refine ⟨clo_V hp h5, h0, h5, fun r h => ?_, rfl, fun v h => ?_, fun v h => ?_, ?_, ?_, ?_, ?_, ?_, ?_, ?_⟩
  · obtain ⟨x, hx, rfl⟩ := List.mem_map.mp h; exact ⟨x, hr x hx, rfl⟩
  · rw [odd_V hp] at h; obtain ⟨x, hx, rfl⟩ := List.mem_map.mp h; exact ⟨x, hO x hx, rfl⟩
  · rw [hdue] at h; obtain ⟨x, hx, rfl⟩ := List.mem_map.mp h; exact ⟨x, hT x hx, rfl⟩
  · rw [hdue, List.length_map]; omega
  · rw [odd_V hp, sumsF_V hp]
  · rw [basesF_V hp hr, hBe, out_perm hp F hT p.symm, out_self hp F hT, hdue]
  · have hback : backF ([a, b, c, d].map (V names)) = [d, c, b, a].map (V names) := by unfold backF; rw [range4]; rfl
    rw [hback, basesF_V hp hr', hBe', out_perm hp F' hT' p'.symm, out_self hp F' hT', hdue']
  · rw [hspan, hdue, odd_V hp]
    refine uF_strange ?_ (far_not hp h0 _) (by simp)
    have hoft : (oftenF (T.map (V names))).toNat = 2 ^ (4 - B.length) := by
      unfold oftenF
      rw [List.length_map, hlen, show (4 - (B.length : Int)).toNat = 4 - B.length from by omega, show ((2 : Int) ^ (4 - B.length)) = ((2 ^ (4 - B.length) : Nat) : Int) from by simp, Int.toNat_natCast]
    unfold repF
    rw [hoft, ← rep_map]
    exact (I.sums.trans (rep_perm (sumsM_perm p).symm _)).map _
  · have : (sumsF (dueF names (oddF names ([a, b, c, d].map (V names))))).length = (fallF (sumsF (dueF names (oddF names ([a, b, c, d].map (V names)))))).length := by unfold fallF; rw [List.length_map]
    rw [this]
    exact map_all fun x _ => cmp_self x
  · rw [hspan]
    exact map_all (near_V hp (Fact.rises T F) hS)
end

theorem law1_plain (ns : List Int) : ∃ S, Ok1 S (names1 ns) (rows1 ns) (odd1 ns) (due1 ns) := by
  obtain ⟨h5, h0⟩ := names_len ns
  have hp : (names1 ns).Pairwise (· < ·) := names_rise _
  have hrows : ∃ a b c d, (∀ r ∈ [a, b, c, d], r < 2 ^ (names1 ns).length) ∧ rows1 ns = [a, b, c, d].map (V (names1 ns)) := by
    let mk : Int → Nat := fun mark => maskOf (fun x => (markedF (drawnF ns) mark).contains x) (names1 ns)
    have hmk : ∀ mark, mk mark < 2 ^ (names1 ns).length := fun mark => maskOf_lt _ _
    have e : rows1 ns = (marksF ns).map fun mark => V (names1 ns) (mk mark) := by
      unfold rows1 rowsF
      exact List.map_congr_left fun mark _ => filter_mask _ _
    have e2 : ∃ p q r s, marksF ns = [p, q, r, s] := by unfold marksF; rw [range4]; exact ⟨_, _, _, _, rfl⟩
    obtain ⟨p, q, r, s, e2⟩ := e2
    refine ⟨mk p, mk q, mk r, mk s, fun x hx => ?_, by rw [e, e2]; rfl⟩
    simp only [List.mem_cons, List.not_mem_nil, or_false] at hx
    rcases hx with rfl | rfl | rfl | rfl <;> exact hmk _
  obtain ⟨a, b, c, d, hr, e⟩ := hrows
  unfold due1 odd1
  rw [e]
  exact ⟨_, plain_V hp h0 h5 hr⟩
end Mine
namespace Mine
open PySem PyProof.Rows PySem.Calls PySem.Spec PySem.W

def fPos : Stmt → Pos | .FunctionDef _ _ _ _ _ _ _ _ _ p => p | _ => ⟨0, 0, 0, 0⟩
def recAt (i : Nat) (x : Str) : DefRec := { name := x, params := fArgs (stAt pw i), body := fBody (stAt pw i), scope := fScope (stAt pw i), pos := fPos (stAt pw i) }
theorem def_at {g : G} {i j : Nat} {x : Str} (h : (recsOf g.vw)[j]? = some (recAt i x)) : ∃ a, DefAt g x a (fArgs (stAt pw i)) (fBody (stAt pw i)) (fScope (stAt pw i)) := by
  obtain ⟨a, o, pm, code, doc, h1, h2, h3, h4⟩ := g.top.fn _ (List.mem_of_getElem? h)
  exact ⟨a, h1, o, pm, code, doc, h2, h3, h4⟩
theorem glb_at {g : G} {x : Str} {v : Value} (h1 : x ∉ startupNames) (h2 : x ∉ g.loose) (h3 : x ∉ (recsOf g.vw).map (·.name)) (h4 : x ∉ (litsOf g.vw).map (·.1)) (h5 : x ∉ (clssOf g.vw g.loose).map (·.name)) (hn : x ≠ "__name__") (hv : bootBuiltins x = some v) : Glb g x v :=
  .inr ⟨g.top.free x h1 h2 h3 h4 h5, hn, hv⟩

theorem good_true {c : ClaimW} {cl : Str → Option Addr} {mean : ExcName → Option Value} {args : List WData} {s₁ : Shared} {h' : Heap} {tk : Nat} (k : XExt s₁.heap h') (hg : s₁.gens = #[]) (hn : ∀ cls, c.raises args cls = false) (hp : c.post args (.bool true) args = true) :
    GoodWG c cl mean args s₁ (.ok (.ret (.bool true))) { s₁ with heap := h', toks := tk } :=
  GoodW.toG ⟨.inl ⟨.bool true, .bool true, [], rfl, hn, .bool true, hp, fun _ => ⟨List.nodup_nil, fun a ha => by cases ha⟩⟩, k, rfl, hg⟩

/-- the call of the law, from the laid top -/
theorem close1 {g : G} {la l : Addr} {s₁ : Shared} {vs : List Value} {ns : List Int} {E : Value → Shared → Prop} {Q : Value → Shared → Prop} (hH : g.H = s₁.heap) (G : Gt1 g) (hlaw : ∃ a, DefAt g (Str.ofString "law") a (fArgs (stAt pw 9)) (fBody (stAt pw 9)) (fScope (stAt pw 9))) (hmg : g.mg (Str.ofString "law") = some (.ref la))
    (d1 : ∃ a, DefAt g (Str.ofString "sorted_list_difference") a (fArgs (stAt pw 1)) (fBody (stAt pw 1)) (fScope (stAt pw 1))) (d2 : ∃ a, DefAt g (Str.ofString "unorderable_list_difference") a (fArgs (stAt pw 2)) (fBody (stAt pw 2)) (fScope (stAt pw 2))) (d3 : ∃ a, DefAt g (Str.ofString "three_way_cmp") a (fArgs (stAt pw 3)) (fBody (stAt pw 3)) (fScope (stAt pw 3)))
    (d5 : ∃ a, DefAt g (Str.ofString "_law_add") a (fArgs (stAt pw 5)) (fBody (stAt pw 5)) (fScope (stAt pw 5))) (d6 : ∃ a, DefAt g (Str.ofString "_law_sums") a (fArgs (stAt pw 6)) (fBody (stAt pw 6)) (fScope (stAt pw 6))) (d7 : ∃ a, DefAt g (Str.ofString "_law_clear") a (fArgs (stAt pw 7)) (fBody (stAt pw 7)) (fScope (stAt pw 7)))
    (d8 : ∃ a, DefAt g (Str.ofString "_law_bases") a (fArgs (stAt pw 8)) (fBody (stAt pw 8)) (fScope (stAt pw 8)))
    (hl : s₁.heap.IsList l vs.toArray) (hI : IntsAre vs ns) (hn : ns.length < 64) (q : ∀ h' tk, XExt s₁.heap h' → Q (.bool true) { s₁ with heap := h', toks := tk }) : wpAny (model g.prog g.w) callerA (call (.ref la) [.ref l]) Q E s₁ := by
  obtain ⟨a1, d1⟩ := d1; obtain ⟨a2, d2⟩ := d2; obtain ⟨a3, d3⟩ := d3; obtain ⟨a5, d5⟩ := d5; obtain ⟨a6, d6⟩ := d6; obtain ⟨a7, d7⟩ := d7; obtain ⟨a8, d8⟩ := d8
  obtain ⟨a, hlaw⟩ := hlaw
  obtain rfl : a = la := by have := hlaw.glb.symm.trans hmg; cases this; rfl
  have D : Dt1 g a1 a2 a3 a5 a6 a7 a8 := ⟨d1, d2, d3, d5, d6, d7, d8⟩
  obtain ⟨S, K⟩ := law1_plain ns
  refine law_fun (n := 0) G D hlaw hn K (fun _ => False) callerA s₁ E Q [.ref l] ⟨⟨rfl, by decide, by decide⟩, ?_, fun _ h => h.elim, ⟨[], rfl, fun _ h => by cases h⟩⟩ (.cons (Rep.of_list (fun h => h) hl (by simpa using intsAre_rep hI)) .nil) fun v s' k r => ?_
  · rw [hH]; exact fun _ _ e => e
  · rw [r.bool_inv]
    obtain ⟨h', tk, rfl, ke⟩ := k
    exact q h' tk (by have := ke.base; rw [hH] at this; exact this fun _ _ e => e)

end Mine
open PySem PyProof.Rows PySem.Calls PySem.Spec PySem.W Mine
set_option maxHeartbeats 8000000 in
theorem PySem.Challenge.cw_mq0492_01_holds : PySem.Challenge.rw_mq0492_01.Holds := by
  w_on; o_law; k_head; (case hw => w_witness2)
  w_strict (
    k_fill
    intro w s₀ s₁ mg mb G Y fa o pm cd doc dV kV ho hd hcd hD hmg hg args vals as hpre hlay hrd hwl hlo
    refine Ground.open G ?_
    intro T B D TE TW
    try (refine guard_noD D (by decide +kernel) ?_; clear D)
    clear ho hd hcd hD
    wrow_args hpre hlay hrd hwl hlo)
  rename IntsAre _ _ => hI
  rename s₁.heap.IsList _ _ => hL
  rename ¬ _ < _ => hlen
  refine close1 (g := ⟨PySem.Challenge.rw_mq0492_01.row.prog, w, _, _, _, mg, mb, s₁.heap, T⟩) rfl ?_ (def_at (i := 9) (j := 7) (by rfl)) hmg (def_at (i := 1) (j := 0) (by rfl)) (def_at (i := 2) (j := 1) (by rfl)) (def_at (i := 3) (j := 2) (by rfl)) (def_at (i := 5) (j := 3) (by rfl)) (def_at (i := 6) (j := 4) (by rfl)) (def_at (i := 7) (j := 5) (by rfl)) (def_at (i := 8) (j := 6) (by rfl)) hL hI (by omega) fun h' tk k => good_true k hg (fun _ => rfl) (postW_of (by wrow_shape) (by wtm_val) (by first | rfl | decide | simp))
  refine ⟨?_, ?_, ?_, ?_, ?_, ?_, ?_⟩ <;> exact glb_at (by decide +kernel) (by dsimp only; decide +kernel) (by dsimp only; decide +kernel) (by dsimp only; decide +kernel) (by dsimp only; decide +kernel) (by decide +kernel) (by rfl)
