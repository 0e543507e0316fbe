import PyProof.Rows.All
import Wide.All
import OpenK.AllK
import Wide.FinOn
import PySem.Challenge.RW_oy0021_02
open PySem PySem.W PyProof.Rows
set_option Elab.async false
set_option linter.unusedVariables false
set_option maxRecDepth 100000
namespace Mine
set_option maxHeartbeats 8000000 in
open_top hd for PySem.Challenge.rw_oy0021_02
end Mine

namespace Mine

-- ## values read as data; none of the objects lies among V 
mutual
inductive Has (V : List Addr) (h : Heap) : Value → Dat → Prop
  | none : Has V h Value.none Dat.none
  | bool (b : Bool) : Has V h (Value.bool b) (Dat.bool b)
  | int (i : Int) (t : Tok) : Has V h (Value.int i t) (Dat.int i)
  | str (x : Str) (t : Tok) : Has V h (Value.str x t) (Dat.str x)
  | tuple {a : Addr} {vs : List Value} {ds : List Dat} : h.IsTuple a vs.toArray → a ∉ V → HasL V h vs ds → Has V h (Value.ref a) (Dat.tuple ds)
  | list {a : Addr} {vs : List Value} {ds : List Dat} : h.PlainList a vs.toArray → a ∉ V → HasL V h vs ds → Has V h (Value.ref a) (Dat.list ds)
inductive HasL (V : List Addr) (h : Heap) : List Value → List Dat → Prop
  | nil : HasL V h [] []
  | cons {v : Value} {vs : List Value} {d : Dat} {ds : List Dat} : Has V h v d → HasL V h vs ds → HasL V h (v :: vs) (d :: ds)
end

-- the objects of the data stay 
def DKeep (V V' : List Addr) (h h' : Heap) : Prop :=
  (∀ a items, a ∉ V → h.IsTuple a items → h'.IsTuple a items ∧ a ∉ V') ∧ ∀ a items, a ∉ V → h.PlainList a items → h'.PlainList a items ∧ a ∉ V'

mutual
theorem Has.keep {V V' : List Addr} {h h' : Heap} (k : DKeep V V' h h') : ∀ {v : Value} {d : Dat}, Has V h v d → Has V' h' v d
  | _, _, .none => .none
  | _, _, .bool b => .bool b
  | _, _, .int i t => .int i t
  | _, _, .str x t => .str x t
  | _, _, .tuple a b c => .tuple (k.1 _ _ b a).1 (k.1 _ _ b a).2 (HasL.keep k c)
  | _, _, .list a b c => .list (k.2 _ _ b a).1 (k.2 _ _ b a).2 (HasL.keep k c)
theorem HasL.keep {V V' : List Addr} {h h' : Heap} (k : DKeep V V' h h') : ∀ {vs : List Value} {ds : List Dat}, HasL V h vs ds → HasL V' h' vs ds
  | _, _, .nil => .nil
  | _, _, .cons a b => .cons (Has.keep k a) (HasL.keep k b)
end

section
variable {V : List Addr} {h : Heap} {vs ws : List Value} {ds es : List Dat}
theorem HasL.length (x : HasL V h vs ds) : vs.length = ds.length := by
  induction vs generalizing ds with
  | nil => cases x; rfl
  | cons v vs ih => cases x with | cons a b => simp [ih b]
theorem HasL.append (x : HasL V h vs ds) (y : HasL V h ws es) : HasL V h (vs ++ ws) (ds ++ es) := by
  induction vs generalizing ds with
  | nil => cases x; exact y
  | cons v vs ih => cases x with | cons a b => exact .cons a (ih b)
theorem HasL.one {v : Value} {d : Dat} (x : Has V h v d) : HasL V h [v] [d] := .cons x .nil
theorem HasL.get (x : HasL V h vs ds) {k : Nat} {d : Dat} (hk : ds[k]? = some d) : ∃ v, vs[k]? = some v ∧ Has V h v d := by
  induction vs generalizing ds k with
  | nil => cases x; simp at hk
  | cons v vs ih =>
    cases x with
    | cons a b =>
      cases k with
      | zero => simp at hk; subst hk; exact ⟨v, rfl, a⟩
      | succ k => simpa using ih b (by simpa using hk)
theorem HasL.getV (x : HasL V h vs ds) {k : Nat} {v : Value} (hk : vs[k]? = some v) : ∃ d, ds[k]? = some d ∧ Has V h v d := by
  induction vs generalizing ds k with
  | nil => simp at hk
  | cons v vs ih =>
    cases x with
    | cons a b =>
      cases k with
      | zero => simp at hk; subst hk; exact ⟨_, rfl, a⟩
      | succ k => simpa using ih b (by simpa using hk)
theorem HasL.take (x : HasL V h vs ds) (n : Nat) : HasL V h (vs.take n) (ds.take n) := by
  induction vs generalizing ds n with
  | nil => cases x; simp; exact .nil
  | cons v vs ih =>
    cases x with
    | cons a b =>
      cases n with
      | zero => simpa using HasL.nil
      | succ n => simpa using HasL.cons a (ih b n)
theorem HasL.drop (x : HasL V h vs ds) (n : Nat) : HasL V h (vs.drop n) (ds.drop n) := by
  induction vs generalizing ds n with
  | nil => cases x; simp; exact .nil
  | cons v vs ih =>
    cases x with
    | cons a b =>
      cases n with
      | zero => simpa using HasL.cons a b
      | succ n => simpa using ih b n
end

-- ## how a state goes on: W alone may get other slots; the tables of places grow 
def tabB (o : Obj) : Bool := match o.cls, o.data with
  | .none, .fields _ => true
  | _, _ => false
theorem tabB_cls {o : Obj} (h : o.cls ≠ .none) : tabB o = false := by
  unfold tabB; split
  · rename_i h1 _; exact absurd h1 h
  · rfl
theorem tabB_data {o : Obj} (h : ∀ vs, o.data ≠ .fields vs) : tabB o = false := by
  unfold tabB; split
  · rename_i h1; exact absurd h1 (h _)
  · rfl
theorem tabB_slots (o : Obj) (sl : Array (Option Value)) : tabB { o with slots := sl } = tabB o := rfl
-- the tables that may grow, told by the marks in G 
def MARK : Obj := { cls := .none, data := .freed, slots := #[none, none, none] }
def isMark (o : Obj) : Bool := match o.cls, o.data with
  | .none, .freed => o.slots.size == 3
  | _, _ => false
-- what of X may grow 
def growsB (X : Heap) (a : Addr) : Bool := match X.objs[a]? with
  | some o => isMark o
  | none => false
abbrev grows (X : Heap) (a : Addr) : Prop := growsB X a = true
-- a code of a table of places 
def CodeOk (h : Heap) (cv : Value) : Prop := ∃ c oc vs q t, cv = .ref c ∧ h.get? c = some oc ∧ oc.cls = .type "code" ∧ oc.data = .fields vs ∧ vs[1]? = some (.str q t)
def TabOk (h : Heap) (o : Obj) : Prop := ∃ ps : Array Value, o = { cls := .none, data := .fields ps } ∧ TriplesOk ps.toList ∧ ∀ pos cv, codeAmong pos ps.toList = some cv → CodeOk h cv
theorem TabOk.b {h : Heap} {o : Obj} (x : TabOk h o) : tabB o = true := by obtain ⟨ps, rfl, _⟩ := x; rfl
-- the codes stay 
def CKeep (h h' : Heap) : Prop := ∀ c o vs, h.get? c = some o → o.cls = .type "code" → o.data = .fields vs → ∃ o', h'.get? c = some o' ∧ o'.cls = .type "code" ∧ o'.data = .fields vs
theorem CKeep.of {h h' : Heap} (k : ∀ b o, h.get? b = some o → h'.get? b = some o) : CKeep h h' := fun c o vs e a b => ⟨o, k c o e, a, b⟩
theorem CodeOk.up {h h' : Heap} {cv : Value} (k : CKeep h h') (x : CodeOk h cv) : CodeOk h' cv :=
  let ⟨c, oc, vs, q, t, e1, e2, e3, e4, e5⟩ := x
  let ⟨o', a, b, d⟩ := k c oc vs e2 e3 e4
  ⟨c, o', vs, q, t, e1, a, b, d, e5⟩
theorem TabOk.up {h h' : Heap} {o : Obj} (k : CKeep h h') (x : TabOk h o) : TabOk h' o :=
  let ⟨ps, a, b, c⟩ := x
  ⟨ps, a, b, fun pos cv e => (c pos cv e).up k⟩
-- a table with more behind 
def Grown (o o' : Obj) : Prop := ∃ ps more : Array Value, o.data = .fields ps ∧ o' = { o with data := .fields (ps ++ more) }
theorem Grown.refl {o : Obj} (h : tabB o = true) : Grown o o := by
  obtain ⟨c, d, dd, sl⟩ := o
  unfold tabB at h
  cases dd <;> simp only at h <;> (try split at h) <;> first | (exact ⟨_, #[], rfl, by simp⟩) | (rename_i h2; cases h2; exact ⟨_, #[], rfl, by simp⟩) | cases h
theorem Grown.trans {o o' o'' : Obj} (x : Grown o o') (y : Grown o' o'') : Grown o o'' := by
  obtain ⟨ps, m, a, rfl⟩ := x
  obtain ⟨ps', m', b, rfl⟩ := y
  cases b
  exact ⟨ps, m ++ m', a, by simp [Array.append_assoc]⟩
theorem Grown.tab {o o' : Obj} (x : Grown o o') (h : tabB o = true) : tabB o' = true := by
  obtain ⟨ps, m, a, rfl⟩ := x
  obtain ⟨c, d, dd, sl⟩ := o
  cases a
  unfold tabB at h ⊢
  split at h
  · rename_i h1 h2; simp only at h1; subst h1; rfl
  · cases h
def TabsIn (G h : Heap) : Prop := ∀ P, grows G P → ∃ op, h.get? P = some op ∧ TabOk h op
def Mv (X : Heap) (W : List Addr) (s s' : Shared) : Prop :=
  (∃ h' tk gs, s' = { s with heap := h', toks := tk, gens := gs } ∧ (gs = s.gens ∨ ∃ P, grows X P)) ∧ (AllBare s.gens → AllBare s'.gens) ∧
  ∀ b o, s.heap.get? b = some o → if tabB o = true ∧ grows X b then ∃ o', s'.heap.get? b = some o' ∧ Grown o o' ∧ (TabOk s.heap o → TabOk s'.heap o') else ∃ sl, s'.heap.get? b = some { o with slots := sl } ∧ ((b ∈ W ∧ ∃ es ep, o.data = .dict es ep) ∨ sl = o.slots)

section
variable {X : Heap} {W : List Addr} {s s₁ s₂ : Shared}
theorem Mv.refl (s : Shared) : Mv X W s s := ⟨⟨s.heap, s.toks, s.gens, rfl, .inl rfl⟩, id, fun b o e => by
  split
  · rename_i h; exact ⟨o, e, .refl h.1, id⟩
  · exact ⟨o.slots, e, .inr rfl⟩⟩
theorem Mv.trans (x : Mv X W s s₁) (y : Mv X W s₁ s₂) : Mv X W s s₂ := by
  obtain ⟨⟨h1, t1, g1, rfl, c1⟩, b1, k1⟩ := x
  obtain ⟨⟨h2, t2, g2, rfl, c2⟩, b2, k2⟩ := y
  refine ⟨⟨h2, t2, g2, rfl, by
    rcases c2 with rfl | c2
    · exact c1
    · exact .inr c2⟩, fun q => b2 (b1 q), fun b o e => ?_⟩
  have q1 := k1 b o e
  split
  · rename_i hb
    rw [if_pos hb] at q1
    obtain ⟨o', e', hb', c'⟩ := q1
    have q2 := k2 b o' e'
    rw [if_pos ⟨hb'.tab hb.1, hb.2⟩] at q2
    obtain ⟨o2, e2, hb2, c2⟩ := q2
    exact ⟨o2, e2, hb'.trans hb2, fun q => c2 (c' q)⟩
  · rename_i hb
    rw [if_neg hb] at q1
    obtain ⟨sl, e', c⟩ := q1
    have q2 := k2 b _ e'
    rw [if_neg (by rw [tabB_slots]; exact hb)] at q2
    obtain ⟨sl2, e2, c2⟩ := q2
    refine ⟨sl2, e2, ?_⟩
    rcases c with c | c
    · exact .inl c
    · rcases c2 with c2 | c2
      · exact .inl c2
      · exact .inr (c2.trans c)
theorem Mv.mono {W' : List Addr} (x : Mv X W s s₁) (hW : ∀ b ∈ W, b ∈ W') : Mv X W' s s₁ := by
  refine ⟨x.1, x.2.1, fun b o e => ?_⟩
  have q := x.2.2 b o e
  split
  · rename_i hb; rw [if_pos hb] at q; exact q
  · rename_i hb; rw [if_neg hb] at q
    obtain ⟨sl, e', c⟩ := q
    exact ⟨sl, e', c.imp (fun q => ⟨hW b q.1, q.2⟩) id⟩
-- all is kept 
theorem Mv.of_keep {h' : Heap} {tk : Nat} (k : ∀ b o, s.heap.get? b = some o → h'.get? b = some o) : Mv X W s { s with heap := h', toks := tk } :=
  ⟨⟨h', tk, s.gens, rfl, .inl rfl⟩, id, fun b o e => by
    split
    · rename_i h; exact ⟨o, k b o e, .refl h.1, fun q => q.up (.of k)⟩
    · exact ⟨o.slots, k b o e, .inr rfl⟩⟩
theorem Mv.of_keepH {h' : Heap} (k : ∀ b o, s.heap.get? b = some o → h'.get? b = some o) : Mv X W s { s with heap := h' } := Mv.of_keep (tk := s.toks) k
theorem Mv.toks (tk : Nat) : Mv X W s { s with toks := tk } := Mv.of_keep (h' := s.heap) (tk := tk) fun _ _ e => e
theorem Mv.push (o : Obj) : Mv X W s { s with heap := s.heap.push o } := Mv.of_keepH fun _ _ e => Heap.get?_push_of_some _ e
theorem Mv.get (x : Mv X W s s₁) {b : Addr} {o : Obj} (e : s.heap.get? b = some o) (hb : tabB o = false) : ∃ sl, s₁.heap.get? b = some { o with slots := sl } ∧ ((b ∈ W ∧ ∃ es ep, o.data = .dict es ep) ∨ sl = o.slots) := by
  have q := x.2.2 b o e
  rw [if_neg (by rw [hb]; exact fun h => nomatch h.1)] at q
  exact q
theorem Mv.tab (x : Mv X W s s₁) {b : Addr} {o : Obj} (e : s.heap.get? b = some o) (hb : tabB o = true) (hg : grows X b) : ∃ o', s₁.heap.get? b = some o' ∧ Grown o o' ∧ (TabOk s.heap o → TabOk s₁.heap o') := by
  have q := x.2.2 b o e
  rw [if_pos ⟨hb, hg⟩] at q
  exact q
theorem Mv.ckeep (x : Mv X W s s₁) : CKeep s.heap s₁.heap := fun c o vs e a b => by
  obtain ⟨sl, e', _⟩ := x.get e (tabB_cls (by rw [a]; exact fun h => nomatch h))
  exact ⟨_, e', a, b⟩
theorem Mv.tabs (x : Mv X W s s₁) (h : TabsIn X s.heap) : TabsIn X s₁.heap := fun P hP => by
  obtain ⟨op, e, ok⟩ := h P hP
  obtain ⟨o', e', _, c⟩ := x.tab e ok.b hP
  exact ⟨o', e', c ok⟩
theorem Mv.there (x : Mv X W s s₁) {b : Addr} {o : Obj} (e : s.heap.get? b = some o) : ∃ o', s₁.heap.get? b = some o' := by
  have q := x.2.2 b o e
  split at q
  · exact ⟨_, q.choose_spec.1⟩
  · exact ⟨_, q.choose_spec.1⟩
theorem Mv.exact (x : Mv X W s s₁) {b : Addr} {o : Obj} (e : s.heap.get? b = some o) (hb : tabB o = false) (hw : b ∉ W) : s₁.heap.get? b = some o := by
  obtain ⟨sl, e', c⟩ := x.get e hb
  rcases c with c | c
  · exact absurd c.1 hw
  · rw [e', c]
theorem Mv.exactD (x : Mv X W s s₁) {b : Addr} {o : Obj} (e : s.heap.get? b = some o) (hb : tabB o = false) (hd : ∀ es ep, o.data ≠ .dict es ep) : s₁.heap.get? b = some o := by
  obtain ⟨sl, e', c⟩ := x.get e hb
  rcases c with ⟨_, es, ep, c⟩ | c
  · exact absurd c (hd es ep)
  · rw [e', c]
theorem Mv.dkeep {V : List Addr} (x : Mv X W s s₁) : DKeep V V s.heap s₁.heap := by
  refine ⟨fun a items ha hi => ⟨?_, ha⟩, fun a items ha hi => ⟨?_, ha⟩⟩
  · obtain ⟨o, e, r⟩ := hi
    obtain ⟨sl, e', _⟩ := x.get e (tabB_cls (by rw [r.1]; exact fun h => nomatch h))
    exact ⟨_, e', r⟩
  · obtain ⟨n, e⟩ := hi
    exact ⟨n, x.exactD e rfl fun _ _ h => nomatch h⟩
theorem Mv.ns (x : Mv X W s s₁) {L : Addr} {m : Str → Option Value} (n : s.heap.Ns L m) : s₁.heap.Ns L m := by
  obtain ⟨o, es, ep, e, r⟩ := n
  obtain ⟨sl, e', _⟩ := x.get e (tabB_data fun vs h => by rw [r.1] at h; cases h)
  exact ⟨_, es, ep, e', r⟩
theorem Mv.cell (x : Mv X W s s₁) {c : Addr} {v : Option Value} (n : s.heap.IsCell c v) : s₁.heap.IsCell c v := by
  obtain ⟨o, e, r⟩ := n
  obtain ⟨sl, e', _⟩ := x.get e (tabB_data fun vs h => by rw [r] at h; cases h)
  exact ⟨_, e', r⟩
end
theorem Has.mv {X : Heap} {V W : List Addr} {s s' : Shared} {v : Value} {d : Dat} (x : Has V s.heap v d) (m : Mv X W s s') : Has V s'.heap v d := x.keep m.dkeep
theorem HasL.mv {X : Heap} {V W : List Addr} {s s' : Shared} {v : List Value} {d : List Dat} (x : HasL V s.heap v d) (m : Mv X W s s') : HasL V s'.heap v d := x.keep m.dkeep

theorem Heap.Ns.uniq {h : Heap} {a : Addr} {m m' : Str → Option Value} (x : h.Ns a m) (y : h.Ns a m') : m = m' := by
  obtain ⟨o, es, ep, e, d, _, f⟩ := x
  obtain ⟨o', es', ep', e', d', _, f'⟩ := y
  rw [e] at e'
  cases e'
  rw [d] at d'
  cases d'
  funext z
  rw [← f, ← f']

end Mine

namespace Mine

-- the frames stand above the top 
structure Bel (A : Around) (G : Heap) (outer : List Env) (h : Heap) : Prop where
  stack : True
  stays : G.StaysIn h
  frames : h.FunFrames G outer

inductive Slot where
  | dat (d : Dat)
  | val (v : Value)
def SlotIs (V : List Addr) (h : Heap) : Slot → Value → Prop
  | .dat d, v => Has V h v d
  | .val w, v => v = w
theorem SlotIs.keep {V V' : List Addr} {h h' : Heap} (k : DKeep V V' h h') : ∀ {sl : Slot} {v : Value}, SlotIs V h sl v → SlotIs V' h' sl v
  | .dat _, _, x => Has.keep k x
  | .val _, _, x => x

-- what the name x bears in the block of env 
def VarIs (env : Env) (h : Heap) (x : Str) (v : Value) : Prop :=
  (env.kindOf x = some .local ∧ ∃ m, h.Ns env.locals m ∧ m x = some v) ∨ ((env.kindOf x = some .cell ∨ env.kindOf x = some .free) ∧ ∃ c, env.cells.lookup x = some c ∧ h.IsCell c (some v))

-- a list of the block's own 
def OwnL (h : Heap) (a : Addr) (vs : List Value) : Prop := h.PlainList a vs.toArray

-- what is known of the top 
structure Bas (mg mb : Str → Option Value) (G : Heap) : Prop where
  g : G.Ns mainGlobals mg
  b : G.Ns builtinsNs mb
  boot : ∀ x : Str, x ≠ "__name__" → mb x = bootBuiltins x
  lim : G.NoLimit
  noTab : ∀ a o, G.get? a = some o → tabB o = false

-- the frames bear their names 
def FrD (h : Heap) (W : List Addr) : Prop := ∀ a ∈ W, ∃ o es ep, h.get? a = some o ∧ o.data = .dict es ep

structure Fm where
  prog : Program
  w : World
  mg : Str → Option Value
  mb : Str → Option Value
  G : Heap
  A : Around
  env : Env
  outer : List Env
  V₀ : List Addr
  s₀ : Shared
  Wc : List Addr
  K : List (Addr × Obj) := []
  own : Bool := true
  D : List (List Value × List Dat) := []
abbrev Fm.M (f : Fm) : Model := model f.prog f.w
abbrev Fm.W (f : Fm) : List Addr := f.outer.filterMap (·.frame)
abbrev Fm.V (f : Fm) (O : List (Addr × List Dat)) : List Addr := O.map (·.1) ++ f.V₀

structure Fm.Ok (f : Fm) : Prop where
  hh : f.A.handled = none
  kind : f.env.scope.kind = .function
  glob : f.env.globals = mainGlobals
  bi : f.env.builtins = builtinsNs
  bas : Bas f.mg f.mb f.G
  hG : f.G.StaysIn f.s₀.heap
  fL : f.s₀.heap.objs.size ≤ f.env.locals
  apa : f.env.cells.Pairwise fun x y => x.2 ≠ y.2
  fC : f.own = true → ∀ n c, (n, c) ∈ f.env.cells → f.s₀.heap.objs.size ≤ c
  hW : ∀ a ∈ f.W, a ∈ f.Wc ∨ f.s₀.heap.objs.size ≤ a

-- an object that a loop rests on 
def KeepOk (o : Obj) : Prop := (∀ es ep, o.data ≠ .dict es ep) ∧ (∀ v, o.data ≠ .cell v) ∧ tabB o = false ∧ ∀ vs, o.data = .fields vs → o.cls ≠ .type "code"

structure St (f : Fm) (O : List (Addr × List Dat)) (ρ : List (Str × Slot)) (s : Shared) : Prop where
  ok : f.Ok
  bel : Bel f.A f.G f.outer s.heap
  frm : Mv f.G f.Wc f.s₀ s
  loc : ∃ m, s.heap.Ns f.env.locals m
  cel : ∀ n c, f.env.cells.lookup n = some c → ∃ v, s.heap.IsCell c v
  vars : ∀ x sl, ρ.lookup x = some sl → ∃ v, VarIs f.env s.heap x v ∧ SlotIs (f.V O) s.heap sl v
  own : ∀ p ∈ O, ∃ vs, OwnL s.heap p.1 vs ∧ HasL (f.V O) s.heap vs p.2
  nod : (O.map (·.1)).Nodup
  fO : ∀ p ∈ O, f.s₀.heap.objs.size ≤ p.1
  v0 : ∀ a ∈ f.V₀, ∃ o, s.heap.get? a = some o
  frD : FrD s.heap f.W
  kep : ∀ p ∈ f.K, s.heap.get? p.1 = some p.2 ∧ KeepOk p.2 ∧ p.1 ∉ O.map (·.1)
  oV : ∀ p ∈ O, p.1 ∉ f.V₀
  dat : ∀ p ∈ f.D, HasL (f.V O) s.heap p.1 p.2
  tab : TabsIn f.G s.heap

theorem Bel.mv {A : Around} {G : Heap} {outer : List Env} {s s' : Shared} {W : List Addr} (hG : ∀ a o, G.get? a = some o → tabB o = false) (x : Bel A G outer s.heap) (m : Mv G W s s') (hW : ∀ a ∈ W, G.get? a = none) : Bel A G outer s'.heap :=
  ⟨x.stack, fun b o e => m.exact (x.stays b o e) (hG b o e) fun hw => (by rw [hW b hw] at e; cases e),
   x.frames.of_keeps fun b o e hd => let ⟨sl, e', _⟩ := m.get e (tabB_data hd); ⟨_, e', rfl⟩⟩

theorem Fm.Ok.notG {f : Fm} (ok : f.Ok) {a : Addr} (ha : f.s₀.heap.objs.size ≤ a) : f.G.get? a = none := by
  cases q : f.G.get? a with
  | none => rfl
  | some o => exact absurd (Heap.lt_size (ok.hG a o q)) (Nat.not_lt.mpr ha)

theorem Bel.wG {A : Around} {G h : Heap} {outer : List Env} (x : Bel A G outer h) : ∀ a ∈ outer.filterMap (·.frame), G.get? a = none := fun _ ha => (x.frames.mem ha).1

theorem VarIs.mv {X : Heap} {env : Env} {s s' : Shared} {W : List Addr} {x : Str} {v : Value} (m : Mv X W s s') (h : VarIs env s.heap x v) : VarIs env s'.heap x v := by
  rcases h with ⟨hk, mm, hn, hv⟩ | ⟨hk, c, hc, hv⟩
  · exact .inl ⟨hk, mm, m.ns hn, hv⟩
  · exact .inr ⟨hk, c, hc, m.cell hv⟩
theorem OwnL.mv {X : Heap} {s s' : Shared} {W : List Addr} {a : Addr} {vs : List Value} (m : Mv X W s s') (h : OwnL s.heap a vs) : OwnL s'.heap a vs := by
  obtain ⟨n, e⟩ := h
  exact ⟨n, m.exactD e rfl fun _ _ h => nomatch h⟩

theorem St.mv {f : Fm} {O : List (Addr × List Dat)} {ρ : List (Str × Slot)} {s s' : Shared} (x : St f O ρ s) (m : Mv f.G f.W s s') : St f O ρ s' where
  ok := x.ok
  bel := Bel.mv x.ok.bas.noTab x.bel m (Bel.wG x.bel)
  tab := m.tabs x.tab
  frm := by
    refine ⟨?_, fun q => m.2.1 (x.frm.2.1 q), fun b o e => ?_⟩
    · obtain ⟨h1, t1, g1, e1, c1⟩ := x.frm.1
      obtain ⟨h2, t2, g2, e2, c2⟩ := m.1
      refine ⟨h2, t2, g2, by rw [e2, e1], ?_⟩
      rcases c2 with c2 | c2
      · rw [c2, e1]; exact c1
      · exact .inr c2
    · have q1 := x.frm.2.2 b o e
      by_cases hb : tabB o = true ∧ grows f.G b
      · rw [if_pos hb] at q1 ⊢
        obtain ⟨o1, e1, hb1, c1⟩ := q1
        obtain ⟨o2, e2, hb2, c2⟩ := m.tab e1 (hb1.tab hb.1) hb.2
        exact ⟨o2, e2, hb1.trans hb2, fun q => c2 (c1 q)⟩
      rw [if_neg hb] at q1 ⊢
      obtain ⟨sl, e', c⟩ := q1
      have q2 := m.2.2 b _ e'
      rw [if_neg (by rw [tabB_slots]; exact hb)] at q2
      obtain ⟨sl2, e2, c2⟩ := q2
      refine ⟨sl2, e2, ?_⟩
      rcases c with c | c
      · exact .inl c
      · rcases c2 with c2 | c2
        · rcases x.ok.hW b c2.1 with q | q
          · exact .inl ⟨q, c2.2⟩
          · exact absurd (Heap.lt_size e) (Nat.not_lt.mpr q)
        · exact .inr (c2.trans c)
  loc := let ⟨mm, n⟩ := x.loc; ⟨mm, m.ns n⟩
  cel := fun n c hc => let ⟨v, q⟩ := x.cel n c hc; ⟨v, m.cell q⟩
  vars := fun y sl hy => let ⟨v, a, b⟩ := x.vars y sl hy; ⟨v, a.mv m, b.keep m.dkeep⟩
  own := fun p hp => let ⟨vs, a, b⟩ := x.own p hp; ⟨vs, a.mv m, b.mv m⟩
  nod := x.nod
  fO := x.fO
  v0 := fun a ha => let ⟨_, e⟩ := x.v0 a ha; m.there e
  frD := fun a ha => let ⟨o, es, ep, e, d⟩ := x.frD a ha; let ⟨_, e', _⟩ := m.get e (tabB_data fun vs h => by rw [d] at h; cases h); ⟨_, es, ep, e', d⟩
  kep := fun p hp => let ⟨a, b, c⟩ := x.kep p hp; ⟨m.exactD a b.2.2.1 b.1, b, c⟩
  dat := fun p hp => (x.dat p hp).mv m
  oV := x.oV

-- fewer names 
theorem St.weak {f : Fm} {O : List (Addr × List Dat)} {ρ ρ' : List (Str × Slot)} {s : Shared} (x : St f O ρ s) (h : ∀ y sl, ρ'.lookup y = some sl → ρ.lookup y = some sl) : St f O ρ' s :=
  { x with vars := fun y sl hy => x.vars y sl (h y sl hy) }

section
variable {f : Fm} {O : List (Addr × List Dat)} {ρ : List (Str × Slot)} {s : Shared} {a : Addr} {h' : Heap}
-- one address alone is made anew 
theorem bel_at (ok : f.Ok) (b : Bel f.A f.G f.outer s.heap) (ha : f.s₀.heap.objs.size ≤ a) (hs : Heap.SameBut a s.heap h')
    (hd : ∀ o, s.heap.get? a = some o → (∀ vs, o.data ≠ .fields vs) → ∃ o', h'.get? a = some o' ∧ ∀ vs, o'.data ≠ .fields vs) : Bel f.A f.G f.outer h' := by
  refine ⟨b.stack, fun c o e => ?_, ?_⟩
  · have : c ≠ a := by rintro rfl; rw [ok.notG ha] at e; cases e
    exact hs.extBut c o this (b.stays c o e)
  · have go : ∀ l : List Env, s.heap.FunFrames f.G l → h'.FunFrames f.G l := by
      intro l
      induction l with
      | nil => intro _; trivial
      | cons env r ih =>
        rintro ⟨hk, ⟨L, o, hf, hn, ho, hdd⟩, hr⟩
        refine ⟨hk, ?_, ih hr⟩
        by_cases hL : L = a
        · subst hL
          obtain ⟨o', e', d'⟩ := hd o ho hdd
          exact ⟨L, o', hf, hn, e', d'⟩
        · exact ⟨L, o, hf, hn, hs.extBut L o hL ho, hdd⟩
    exact go _ b.frames
theorem ckeep_at (hs : Heap.SameBut a s.heap h') (hd : ∃ o, s.heap.get? a = some o ∧ ∀ vs, o.data ≠ .fields vs) : CKeep s.heap h' := fun c o vs e x y => by
  refine ⟨o, hs.extBut c o ?_ e, x, y⟩
  rintro rfl
  obtain ⟨o', e', q⟩ := hd
  rw [e] at e'; cases e'
  exact q _ y
theorem frm_at {tk : Nat} (m : Mv f.G f.Wc f.s₀ s) (ha : f.s₀.heap.objs.size ≤ a) (hs : Heap.SameBut a s.heap h') (hd : ∃ o, s.heap.get? a = some o ∧ ∀ vs, o.data ≠ .fields vs) : Mv f.G f.Wc f.s₀ { s with heap := h', toks := tk } := by
  have ck := ckeep_at hs hd
  obtain ⟨⟨h1, t1, g1, rfl, c1⟩, g, k⟩ := m
  refine ⟨⟨h', tk, g1, rfl, c1⟩, g, fun b o e => ?_⟩
  have q := k b o e
  have : b ≠ a := by rintro rfl; exact absurd (Heap.lt_size e) (Nat.not_lt.mpr ha)
  split
  · rename_i hb
    rw [if_pos hb] at q
    obtain ⟨o', e', c1, c2⟩ := q
    exact ⟨o', hs.extBut b _ this e', c1, fun q => (c2 q).up ck⟩
  · rename_i hb
    rw [if_neg hb] at q
    obtain ⟨sl, e', c⟩ := q
    exact ⟨sl, hs.extBut b _ this e', c⟩
theorem tab_at {G : Heap} (x : TabsIn G s.heap) (hs : Heap.SameBut a s.heap h') (hd : ∃ o, s.heap.get? a = some o ∧ ∀ vs, o.data ≠ .fields vs) : TabsIn G h' := fun P hP => by
  obtain ⟨op, e, ok⟩ := x P hP
  refine ⟨op, hs.extBut P op ?_ e, ok.up (ckeep_at hs hd)⟩
  rintro rfl
  obtain ⟨o, e', hb⟩ := hd
  rw [e] at e'; cases e'
  obtain ⟨ps, rfl, _⟩ := ok
  exact hb _ rfl
theorem dkeep_at {V : List Addr} (hs : Heap.SameBut a s.heap h') (hd : a ∈ V ∨ ∃ o, s.heap.get? a = some o ∧ ∀ items n, o.data ≠ .seq items n) : DKeep V V s.heap h' := by
  have ne : ∀ b, b ∉ V → ∀ o items n, s.heap.get? b = some o → o.data = .seq items n → b ≠ a := by
    rintro b hb o items n e d rfl
    rcases hd with q | ⟨o', e', q⟩
    · exact hb q
    · rw [e] at e'; cases e'; exact q _ _ d
  exact ⟨fun b items hb ⟨o, e, c, n, d⟩ => ⟨⟨o, hs.extBut b o (ne b hb o _ _ e d) e, c, n, d⟩, hb⟩, fun b items hb ⟨n, e⟩ => ⟨⟨n, hs.extBut b _ (ne b hb _ _ _ e rfl) e⟩, hb⟩⟩
theorem frD_at {W : List Addr} (x : FrD s.heap W) (hs : Heap.SameBut a s.heap h') (hd : (∃ o es ep, s.heap.get? a = some o ∧ o.data = .dict es ep) → ∃ o es ep, h'.get? a = some o ∧ o.data = .dict es ep) : FrD h' W := by
  intro b hb
  obtain ⟨o, es, ep, e, d⟩ := x b hb
  by_cases hba : b = a
  · subst hba; exact hd ⟨o, es, ep, e, d⟩
  · exact ⟨o, es, ep, hs.extBut b o hba e, d⟩
theorem there_at (hs : Heap.SameBut a s.heap h') (hd : ∃ o', h'.get? a = some o') {b : Addr} {o : Obj} (e : s.heap.get? b = some o) : ∃ o', h'.get? b = some o' := by
  by_cases hb : b = a
  · subst hb; exact hd
  · exact ⟨o, hs.extBut b o hb e⟩
end

def put (ρ : List (Str × Slot)) (x : Str) (sl : Slot) : List (Str × Slot) := (x, sl) :: ρ.filter fun p => p.1 != x
theorem put_same (ρ : List (Str × Slot)) (x : Str) (sl : Slot) : (put ρ x sl).lookup x = some sl := by simp [put]
theorem put_other (ρ : List (Str × Slot)) {x y : Str} (sl : Slot) (h : y ≠ x) : (put ρ x sl).lookup y = ρ.lookup y := by
  have hb : (y == x) = false := by simpa using h
  simp only [put, List.lookup_cons, hb]
  induction ρ with
  | nil => rfl
  | cons p r ih =>
    obtain ⟨n, q⟩ := p
    by_cases hn : n = x
    · subst hn
      simp only [List.filter_cons, bne_self_eq_false, Bool.false_eq_true, if_false, List.lookup_cons, hb]
      exact ih
    · have hn' : (n != x) = true := by simpa using hn
      simp only [List.filter_cons, hn', if_true, List.lookup_cons]
      cases y == n <;> simp [ih]

-- a local name of the block is bound 
theorem St.storeL {f : Fm} {O : List (Addr × List Dat)} {ρ : List (Str × Slot)} {s : Shared} {x : Str} {v : Value} {sl : Slot} {m : Str → Option Value} {h' : Heap} {tk : Nat} (st : St f O ρ s)
    (hk : f.env.kindOf x = some .local) (hv : SlotIs (f.V O) s.heap sl v) (hn : s.heap.Ns f.env.locals m) (hn' : h'.Ns f.env.locals fun z => if z = x then some v else m z) (hs' : Heap.SameBut f.env.locals s.heap h') : St f O (put ρ x sl) { s with heap := h', toks := tk } := by
  obtain ⟨oL, es, ep, eL, dL, _⟩ := id hn
  obtain ⟨oL', es', ep', eL', dL', _⟩ := id hn'
  have dk : ∀ V, DKeep V V s.heap h' := fun V => dkeep_at hs' (.inr ⟨oL, eL, fun items n q => by rw [dL] at q; cases q⟩)
  refine { ok := st.ok, bel := bel_at st.ok st.bel st.ok.fL hs' (fun o e _ => ⟨oL', eL', fun vs q => by rw [dL'] at q; cases q⟩), frm := frm_at st.frm st.ok.fL hs' ⟨oL, eL, fun vs h => by rw [dL] at h; cases h⟩, loc := ⟨_, hn'⟩,
           cel := fun n c hc => ?_, vars := fun y sl' hy => ?_, own := fun p hp => ?_, nod := st.nod, fO := st.fO, v0 := fun a ha => let ⟨_, e⟩ := st.v0 a ha; there_at hs' ⟨_, eL'⟩ e, frD := frD_at st.frD hs' (fun _ => ⟨oL', es', ep', eL', dL'⟩), kep := fun p hp => ?_, dat := fun p hp => (st.dat p hp).keep (dk _), oV := st.oV, tab := tab_at st.tab hs' ⟨oL, eL, fun vs h => by rw [dL] at h; cases h⟩ }
  · obtain ⟨v', q⟩ := st.cel n c hc
    refine ⟨v', q.sameBut hs' ?_⟩
    rintro rfl
    obtain ⟨o, e, d⟩ := q
    rw [eL] at e; cases e; rw [dL] at d; cases d
  · by_cases hyx : y = x
    · subst hyx
      rw [put_same] at hy
      cases hy
      exact ⟨v, .inl ⟨hk, _, hn', by simp⟩, hv.keep (dk _)⟩
    · rw [put_other _ _ hyx] at hy
      obtain ⟨u, hu, q⟩ := st.vars y sl' hy
      refine ⟨u, ?_, q.keep (dk _)⟩
      rcases hu with ⟨k1, m1, n1, e1⟩ | ⟨k1, c1, l1, e1⟩
      · have := Heap.Ns.uniq n1 hn
        subst this
        exact .inl ⟨k1, _, hn', by simpa [hyx] using e1⟩
      · refine .inr ⟨k1, c1, l1, e1.sameBut hs' ?_⟩
        rintro rfl
        obtain ⟨o, e, d⟩ := e1
        rw [eL] at e; cases e; rw [dL] at d; cases d
  · obtain ⟨vs, ⟨n, e⟩, r⟩ := st.own p hp
    refine ⟨vs, ⟨n, hs'.extBut _ _ ?_ e⟩, r.keep (dk _)⟩
    rintro hpL
    rw [hpL, eL] at e; cases e; cases dL
  · obtain ⟨e, b, c⟩ := st.kep p hp
    refine ⟨hs'.extBut _ _ ?_ e, b, c⟩
    rintro hpL
    rw [hpL, eL] at e; cases e; exact b.1 _ _ dL
-- a name of the block is bound 
theorem St.bind {f : Fm} {O : List (Addr × List Dat)} {ρ : List (Str × Slot)} {s : Shared} {x : Str} {v : Value} {sl : Slot} {Q : Unit → Shared → Prop} {E : Value → Shared → Prop} (st : St f O ρ s)
    (hk : f.env.kindOf x = some .local ∨ (f.own = true ∧ f.env.kindOf x = some .cell ∧ ∃ c, f.env.cells.lookup x = some c)) (hv : SlotIs (f.V O) s.heap sl v)
    (h : ∀ s', St f O (put ρ x sl) s' → Q () s') : wpAny f.M f.A (storeName f.env x v) Q E s := by
  obtain ⟨m, hn⟩ := st.loc
  rcases hk with hk | ⟨hown, hk, c, hc⟩
  · exact wpAny_storeName_local hk hn (fun h' hn' hs' => h _ (st.storeL hk hv hn hn' hs')) (by rw [st.ok.kind]; rfl)
  · obtain ⟨v₀, hv₀⟩ := st.cel x c hc
    refine wpAny_storeName_cell st.ok.kind hk hc hv₀ fun h' hc' hs' => h _ ?_
    obtain ⟨oc, ec, dc⟩ := id hv₀
    obtain ⟨oc', ec', dc'⟩ := id hc'
    have fc : f.s₀.heap.objs.size ≤ c := st.ok.fC hown x c (mem_of_lookup hc)
    have dk : ∀ V, DKeep V V s.heap h' := fun V => dkeep_at hs' (.inr ⟨oc, ec, fun items n q => by rw [dc] at q; cases q⟩)
    have fr : Mv f.G f.Wc f.s₀ { s with heap := h' } := frm_at (tk := s.toks) st.frm fc hs' ⟨oc, ec, fun vs h => by rw [dc] at h; cases h⟩
    refine { ok := st.ok, bel := bel_at st.ok st.bel fc hs' (fun o e _ => ⟨oc', ec', fun vs q => by rw [dc'] at q; cases q⟩), frm := fr, loc := ?_,
             cel := fun n c₁ hc₁ => ?_, vars := fun y sl' hy => ?_, own := fun p hp => ?_, nod := st.nod, fO := st.fO, v0 := fun a ha => let ⟨_, e⟩ := st.v0 a ha; there_at hs' ⟨_, ec'⟩ e, frD := frD_at st.frD hs' (fun ⟨o, es, ep, e, d⟩ => by rw [ec] at e; cases e; rw [dc] at d; cases d), kep := fun p hp => ?_, dat := fun p hp => (st.dat p hp).keep (dk _), oV := st.oV, tab := tab_at st.tab hs' ⟨oc, ec, fun vs h => by rw [dc] at h; cases h⟩ }
    · refine ⟨m, hn.sameBut hs' ?_⟩
      rintro rfl
      obtain ⟨o, es, ep, e, d, _⟩ := hn
      rw [ec] at e; cases e; rw [dc] at d; cases d
    · by_cases hcc : c₁ = c
      · subst hcc; exact ⟨_, hc'⟩
      · obtain ⟨v', q⟩ := st.cel n c₁ hc₁
        exact ⟨v', q.sameBut hs' hcc⟩
    · by_cases hyx : y = x
      · subst hyx
        rw [put_same] at hy
        cases hy
        exact ⟨v, .inr ⟨.inl hk, c, hc, hc'⟩, hv.keep (dk _)⟩
      · rw [put_other _ _ hyx] at hy
        obtain ⟨u, hu, q⟩ := st.vars y sl' hy
        refine ⟨u, ?_, q.keep (dk _)⟩
        rcases hu with ⟨k1, m1, n1, e1⟩ | ⟨k1, c1, l1, e1⟩
        · refine .inl ⟨k1, m1, n1.sameBut hs' ?_, e1⟩
          rintro rfl
          obtain ⟨o, es, ep, e, d, _⟩ := n1
          rw [ec] at e; cases e; rw [dc] at d; cases d
        · refine .inr ⟨k1, c1, l1, e1.sameBut hs' fun q => hyx ?_⟩
          exact name_of_addr st.ok.apa (mem_of_lookup l1) (q ▸ mem_of_lookup hc)
    · obtain ⟨vs, ⟨n, e⟩, r⟩ := st.own p hp
      refine ⟨vs, ⟨n, hs'.extBut _ _ ?_ e⟩, r.keep (dk _)⟩
      rintro hpL
      rw [hpL, ec] at e; cases e; cases dc
    · obtain ⟨e, b, c'⟩ := st.kep p hp
      refine ⟨hs'.extBut _ _ ?_ e, b, c'⟩
      rintro hpL
      rw [hpL, ec] at e; cases e; exact b.2.1 _ dc

end Mine

namespace Mine

-- ## expressions 
@[irreducible] def EvS (f : Fm) (O : List (Addr × List Dat)) (ρ : List (Str × Slot)) (e : Expr) (sl : Slot) : Prop :=
  ∀ (s : Shared) (Q : Value → Shared → Prop) (E : Value → Shared → Prop), St f O ρ s → (∀ v s', Mv f.G f.W s s' → SlotIs (f.V O) s'.heap sl v → Q v s') → wpAny f.M f.A (eval e f.env) Q E s
theorem EvS.mk {f : Fm} {O : List (Addr × List Dat)} {ρ : List (Str × Slot)} {e : Expr} {sl : Slot} (h : ∀ (s : Shared) (Q : Value → Shared → Prop) (E : Value → Shared → Prop), St f O ρ s → (∀ v s', Mv f.G f.W s s' → SlotIs (f.V O) s'.heap sl v → Q v s') → wpAny f.M f.A (eval e f.env) Q E s) : EvS f O ρ e sl := by
  unfold EvS; exact h
theorem EvS.run {f : Fm} {O : List (Addr × List Dat)} {ρ : List (Str × Slot)} {e : Expr} {sl : Slot} (h : EvS f O ρ e sl) : ∀ (s : Shared) (Q : Value → Shared → Prop) (E : Value → Shared → Prop), St f O ρ s → (∀ v s', Mv f.G f.W s s' → SlotIs (f.V O) s'.heap sl v → Q v s') → wpAny f.M f.A (eval e f.env) Q E s := by
  unfold EvS at h; exact h
@[irreducible] def Ev (f : Fm) (O : List (Addr × List Dat)) (ρ : List (Str × Slot)) (e : Expr) (d : Dat) : Prop :=
  ∀ (s : Shared) (Q : Value → Shared → Prop) (E : Value → Shared → Prop), St f O ρ s → (∀ v s', Mv f.G f.W s s' → Has (f.V O) s'.heap v d → Q v s') → wpAny f.M f.A (eval e f.env) Q E s
theorem Ev.mk {f : Fm} {O : List (Addr × List Dat)} {ρ : List (Str × Slot)} {e : Expr} {d : Dat} (h : ∀ (s : Shared) (Q : Value → Shared → Prop) (E : Value → Shared → Prop), St f O ρ s → (∀ v s', Mv f.G f.W s s' → Has (f.V O) s'.heap v d → Q v s') → wpAny f.M f.A (eval e f.env) Q E s) : Ev f O ρ e d := by
  unfold Ev; exact h
theorem Ev.run {f : Fm} {O : List (Addr × List Dat)} {ρ : List (Str × Slot)} {e : Expr} {d : Dat} (h : Ev f O ρ e d) : ∀ (s : Shared) (Q : Value → Shared → Prop) (E : Value → Shared → Prop), St f O ρ s → (∀ v s', Mv f.G f.W s s' → Has (f.V O) s'.heap v d → Q v s') → wpAny f.M f.A (eval e f.env) Q E s := by
  unfold Ev at h; exact h
@[irreducible] def Tr (f : Fm) (O : List (Addr × List Dat)) (ρ : List (Str × Slot)) (e : Expr) (b : Bool) : Prop :=
  ∀ (s : Shared) (Q : Bool → Shared → Prop) (E : Value → Shared → Prop), St f O ρ s → (∀ s', Mv f.G f.W s s' → Q b s') → wpAny f.M f.A (isTrue e f.env (eval e f.env)) Q E s
theorem Tr.mk {f : Fm} {O : List (Addr × List Dat)} {ρ : List (Str × Slot)} {e : Expr} {b : Bool} (h : ∀ (s : Shared) (Q : Bool → Shared → Prop) (E : Value → Shared → Prop), St f O ρ s → (∀ s', Mv f.G f.W s s' → Q b s') → wpAny f.M f.A (isTrue e f.env (eval e f.env)) Q E s) : Tr f O ρ e b := by
  unfold Tr; exact h
theorem Tr.run {f : Fm} {O : List (Addr × List Dat)} {ρ : List (Str × Slot)} {e : Expr} {b : Bool} (h : Tr f O ρ e b) : ∀ (s : Shared) (Q : Bool → Shared → Prop) (E : Value → Shared → Prop), St f O ρ s → (∀ s', Mv f.G f.W s s' → Q b s') → wpAny f.M f.A (isTrue e f.env (eval e f.env)) Q E s := by
  unfold Tr at h; exact h
-- an operation upon values 
abbrev Op2 (f : Fm) (O : List (Addr × List Dat)) (ρ : List (Str × Slot)) (t : Value → Value → Sem Value) (a b c : Dat) : Prop :=
  ∀ (s : Shared) (va vb : Value) (Q : Value → Shared → Prop) (E : Value → Shared → Prop), St f O ρ s → Has (f.V O) s.heap va a → Has (f.V O) s.heap vb b → (∀ v s', Mv f.G f.W s s' → Has (f.V O) s'.heap v c → Q v s') → wpAny f.M f.A (t va vb) Q E s

section
variable {f : Fm} {O : List (Addr × List Dat)} {ρ : List (Str × Slot)} {e l r t : Expr} {pos : Pos} {a b c d : Dat}

theorem St.freshV {s : Shared} (st : St f O ρ s) : s.heap.objs.size ∉ f.V O := by
  intro h
  rcases List.mem_append.mp h with h | h
  · obtain ⟨p, hp, e⟩ := List.mem_map.mp h
    obtain ⟨vs, ⟨n, q⟩, _⟩ := st.own p hp
    have := Heap.lt_size q
    rw [e] at this
    exact Nat.lt_irrefl _ this
  · obtain ⟨o, q⟩ := st.v0 _ h
    exact Nat.lt_irrefl _ (Heap.lt_size q)

theorem Ev.of {d' : Dat} (h : Ev f O ρ e d) (hd : d = d') : Ev f O ρ e d' := hd ▸ h
theorem Tr.of {v v' : Bool} (h : Tr f O ρ e v) (hv : v = v') : Tr f O ρ e v' := hv ▸ h
theorem Ev.slot (h : Ev f O ρ e d) : EvS f O ρ e (.dat d) := EvS.mk h.run
theorem EvS.data (h : EvS f O ρ e (.dat d)) : Ev f O ρ e d := Ev.mk h.run

theorem VarIs.load {s : Shared} {x : Str} {v : Value} {Q : Value → Shared → Prop} {E : Value → Shared → Prop} (st : St f O ρ s) (h : VarIs f.env s.heap x v) (hx : (x == ("__classdict__" : Str)) = false) (k : Q v s) : wpAny f.M f.A (loadName f.env x) Q E s := by
  rcases h with ⟨hk, m, hn, hv⟩ | ⟨hk | hk, c, hc, hv⟩
  · exact wpAny_loadName_local st.ok.kind hk hn hv k
  · exact wpAny_loadName_cell st.ok.kind hk hc hv k
  · exact wpAny_loadName_free st.ok.kind hk hc hv k hx

theorem EvS.name {x : Str} {sl : Slot} (h : ρ.lookup x = some sl) (hd : (x == ("__debug__" : Str)) = false := by decide) (hx : (x == ("__classdict__" : Str)) = false := by decide) : EvS f O ρ (.Name x pos) sl := by
  first | apply Ev.mk | apply EvS.mk | apply Tr.mk | apply EvL.mk | apply Ex.mk | apply ExS.mk | apply It.mk | skip
  intro s Q E st k
  obtain ⟨v, hv, hs⟩ := st.vars x sl h
  exact wpAny_Name (VarIs.load st hv hx (k v s (.refl s) hs)) hd
theorem Ev.name {x : Str} (h : ρ.lookup x = some (.dat d)) (hd : (x == ("__debug__" : Str)) = false := by decide) (hx : (x == ("__classdict__" : Str)) = false := by decide) : Ev f O ρ (.Name x pos) d := (EvS.name h hd hx).data

theorem Ev.strC {x : Str} {k : Nat} : Ev f O ρ (.Constant (.str x) k pos) (.str x) := by
  first | apply Ev.mk | apply EvS.mk | apply Tr.mk | apply EvL.mk | apply It.mk | skip
  exact fun s Q E st k => PySem.Calls.Constant_str (k _ _ (.toks _) (.str _ _))
theorem Ev.intC {i : Int} {k : Nat} : Ev f O ρ (.Constant (.int i) k pos) (.int i) := by
  first | apply Ev.mk | apply EvS.mk | apply Tr.mk | apply EvL.mk | apply It.mk | skip
  exact fun s Q E st k => wpAny_Constant_int (k _ _ (.toks _) (.int _ _))
theorem Ev.boolC {v : Bool} {k : Nat} : Ev f O ρ (.Constant (.bool v) k pos) (.bool v) := by
  first | apply Ev.mk | apply EvS.mk | apply Tr.mk | apply EvL.mk | apply It.mk | skip
  exact fun s Q E st k => Constant_bool (k _ _ (.refl s) (.bool v))

theorem Ev.bin {op : Operator} (hl : Ev f O ρ l a) (hr : Ev f O ρ r b) (h : Op2 f O ρ (binaryOp op) a b c) : Ev f O ρ (.BinOp l op r pos) c := by
  first | apply Ev.mk | apply EvS.mk | apply Tr.mk | apply EvL.mk | apply Ex.mk | apply ExS.mk | apply It.mk | skip
  intro s Q E st k
  refine wpAny_BinOp (hl.run s _ _ st fun va s₁ m₁ h₁ => hr.run s₁ _ _ (st.mv m₁) fun vb s₂ m₂ h₂ => ?_)
  exact h s₂ va vb _ _ (st.mv (m₁.trans m₂)) (h₁.mv m₂) h₂ fun v s₃ m₃ h₃ => k v s₃ (m₁.trans (m₂.trans m₃)) h₃

theorem Op2.addStr {x y : Str} (hsz : x.length + y.length ≤ sizeLine) : Op2 f O ρ (binaryOp .Add) (.str x) (.str y) (.str (x ++ y)) := by
  intro s va vb Q E st ha hb k
  cases ha; cases hb
  exact add_str (fun t' tk => k _ _ (.toks _) (.str _ _)) hsz
theorem Op2.addInt {x y : Int} : Op2 f O ρ (binaryOp .Add) (.int x) (.int y) (.int (x + y)) := by
  intro s va vb Q E st ha hb k
  cases ha; cases hb
  exact add_int (k _ _ (.toks _) (.int _ _))
theorem Op2.modInt {x y : Int} (hy : y ≠ 0) : Op2 f O ρ (binaryOp .Mod) (.int x) (.int y) (.int (x.fmod y)) := by
  intro s va vb Q E st ha hb k
  cases ha; cases hb
  exact mod_int' hy (k _ _ (.toks _) (.int _ _))
theorem newL {s : Shared} {vs : List Value} {ds : List Dat} {n : Nat} (st : St f O ρ s) (x : HasL (f.V O) s.heap vs ds) : Has (f.V O) (s.heap.push { cls := .type "list", data := .seq vs.toArray n }) (.ref s.heap.objs.size) (.list ds) :=
  .list ⟨n, Heap.get?_push_size _ rfl⟩ st.freshV (x.mv (X := f.G) (W := []) (s' := { s with heap := s.heap.push { cls := .type "list", data := .seq vs.toArray n } }) (.push _))
theorem newT {s : Shared} {vs : List Value} {ds : List Dat} {n : Nat} (st : St f O ρ s) (x : HasL (f.V O) s.heap vs ds) : Has (f.V O) (s.heap.push { cls := .type "tuple", data := .seq vs.toArray n }) (.ref s.heap.objs.size) (.tuple ds) :=
  .tuple ⟨_, Heap.get?_push_size _ rfl, rfl, n, rfl⟩ st.freshV (x.mv (X := f.G) (W := []) (s' := { s with heap := s.heap.push { cls := .type "tuple", data := .seq vs.toArray n } }) (.push _))
theorem Op2.addList {xs ys : List Dat} (hsz : xs.length + ys.length ≤ sizeLine) : Op2 f O ρ (binaryOp .Add) (.list xs) (.list ys) (.list (xs ++ ys)) := by
  intro s va vb Q E st ha hb k
  cases ha with
  | list i1 n1 h1 =>
    cases hb with
    | list i2 n2 h2 =>
      obtain ⟨k1, e1⟩ := i1
      obtain ⟨k2, e2⟩ := i2
      refine P.add_list e1 e2 ?_ (by simpa [h1.length, h2.length] using hsz)
      rw [List.append_toArray]
      exact k _ _ (.push _) (newL st (h1.append h2))

-- ### comparisons and truth 
theorem Ev.cmp {op : CmpOp} (hl : Ev f O ρ l a) (hr : Ev f O ρ r b) (h : Op2 f O ρ (compareOp op) a b c) (hm : behindInMarks op r = false := by with_unfolding_all rfl) : Ev f O ρ (.Compare l [op] [r] pos) c := by
  first | apply Ev.mk | apply EvS.mk | apply Tr.mk | apply EvL.mk | apply Ex.mk | apply ExS.mk | apply It.mk | skip
  intro s Q E st k
  refine wpAny_Compare1 (hl.run s _ _ st fun va s₁ m₁ h₁ => hr.run s₁ _ _ (st.mv m₁) fun vb s₂ m₂ h₂ => ?_) hm
  exact h s₂ va vb _ _ (st.mv (m₁.trans m₂)) (h₁.mv m₂) h₂ fun v s₃ m₃ h₃ => k v s₃ (m₁.trans (m₂.trans m₃)) h₃
theorem Tr.cmp {op : CmpOp} {v : Bool} (hl : Ev f O ρ l a) (hr : Ev f O ρ r b) (h : Op2 f O ρ (compareOp op) a b (.bool v)) (hm : behindInMarks op r = false := by with_unfolding_all rfl) : Tr f O ρ (.Compare l [op] [r] pos) v := by
  first | apply Ev.mk | apply EvS.mk | apply Tr.mk | apply EvL.mk | apply Ex.mk | apply ExS.mk | apply It.mk | skip
  intro s Q E st k
  refine wpAny_isTrue_Compare1 (hl.run s _ _ st fun va s₁ m₁ h₁ => hr.run s₁ _ _ (st.mv m₁) fun vb s₂ m₂ h₂ => ?_) hm
  refine h s₂ va vb _ _ (st.mv (m₁.trans m₂)) (h₁.mv m₂) h₂ fun v s₃ m₃ h₃ => ?_
  cases h₃
  exact wpAny_truthy_bool (k s₃ (m₁.trans (m₂.trans m₃)))
theorem Tr.notE {v : Bool} (h : Tr f O ρ e v) : Tr f O ρ (.UnaryOp .Not e pos) (!v) := by
  first | apply Ev.mk | apply EvS.mk | apply Tr.mk | apply EvL.mk | apply It.mk | skip
  exact fun s Q E st k => isTrue_not (h.run s _ _ st fun s' m => k s' m)
theorem Tr.andNil : Tr f O ρ (.BoolOp .And [] pos) true := by
  first | apply Ev.mk | apply EvS.mk | apply Tr.mk | apply EvL.mk | apply It.mk | skip
  exact fun s Q E st k => isTrue_and_nil (k s (.refl s))
theorem Tr.orNil : Tr f O ρ (.BoolOp .Or [] pos) false := by
  first | apply Ev.mk | apply EvS.mk | apply Tr.mk | apply EvL.mk | apply It.mk | skip
  exact fun s Q E st k => isTrue_or_nil (k s (.refl s))
theorem Tr.andE {es : List Expr} {v w : Bool} (h : Tr f O ρ e v) (h' : v = true → Tr f O ρ (.BoolOp .And es pos) w) : Tr f O ρ (.BoolOp .And (e :: es) pos) (v && w) := by
  first | apply Ev.mk | apply EvS.mk | apply Tr.mk | apply EvL.mk | apply Ex.mk | apply ExS.mk | apply It.mk | skip
  intro s Q E st k
  refine isTrue_and (h.run s _ _ st fun s' m => ?_)
  cases v with
  | false => exact k s' m
  | true => exact (h' rfl).run s' _ _ (st.mv m) fun s₂ m₂ => k s₂ (m.trans m₂)
theorem Tr.orE {es : List Expr} {v w : Bool} (h : Tr f O ρ e v) (h' : v = false → Tr f O ρ (.BoolOp .Or es pos) w) : Tr f O ρ (.BoolOp .Or (e :: es) pos) (v || w) := by
  first | apply Ev.mk | apply EvS.mk | apply Tr.mk | apply EvL.mk | apply Ex.mk | apply ExS.mk | apply It.mk | skip
  intro s Q E st k
  refine isTrue_or (h.run s _ _ st fun s' m => ?_)
  cases v with
  | true => exact k s' m
  | false => exact (h' rfl).run s' _ _ (st.mv m) fun s₂ m₂ => k s₂ (m.trans m₂)
theorem Ev.ite {v : Bool} (ht : Tr f O ρ t v) (h1 : v = true → Ev f O ρ l d) (h2 : v = false → Ev f O ρ r d) : Ev f O ρ (.IfExp t l r pos) d := by
  first | apply Ev.mk | apply EvS.mk | apply Tr.mk | apply EvL.mk | apply Ex.mk | apply ExS.mk | apply It.mk | skip
  intro s Q E st k
  refine IfExp_ (ht.run s _ _ st fun s' m => ?_)
  cases v with
  | true => exact (h1 rfl).run s' _ _ (st.mv m) fun v s₂ m₂ h₂ => k v s₂ (m.trans m₂) h₂
  | false => exact (h2 rfl).run s' _ _ (st.mv m) fun v s₂ m₂ h₂ => k v s₂ (m.trans m₂) h₂
-- the truth of a plain value 
theorem Tr.plain {v : Bool} (h : Ev f O ρ e d) (ht : ∀ (s : Shared) (x : Value) (Q : Bool → Shared → Prop) (E : Value → Shared → Prop), St f O ρ s → Has (f.V O) s.heap x d → (∀ s', Mv f.G f.W s s' → Q v s') → wpAny f.M f.A (truthy x) Q E s)
    (he : isTrue e f.env (eval e f.env) = (do let v ← eval e f.env; standAt e.pos; holding [v] (truthy v)) := by rfl) : Tr f O ρ e v := by
  first | apply Ev.mk | apply EvS.mk | apply Tr.mk | apply EvL.mk | apply Ex.mk | apply ExS.mk | apply It.mk | skip
  intro s Q E st k
  exact isTrue_plain (h.run s _ _ st fun x s' m hx => ht s' x _ _ (st.mv m) hx fun s₂ m₂ => k s₂ (m.trans m₂)) he
theorem Tr.intE {i : Int} (h : Ev f O ρ e (.int i)) (he : isTrue e f.env (eval e f.env) = (do let v ← eval e f.env; standAt e.pos; holding [v] (truthy v)) := by rfl) : Tr f O ρ e (i != 0) :=
  Tr.plain h (fun s x Q E st hx k => by cases hx; exact P.truthy_int (k s (.refl s))) he
theorem Tr.boolE {v : Bool} (h : Ev f O ρ e (.bool v)) (he : isTrue e f.env (eval e f.env) = (do let v ← eval e f.env; standAt e.pos; holding [v] (truthy v)) := by rfl) : Tr f O ρ e v :=
  Tr.plain h (fun s x Q E st hx k => by cases hx; exact wpAny_truthy_bool (k s (.refl s))) he
theorem Tr.strE {x : Str} (h : Ev f O ρ e (.str x)) (hx : x.length ≤ sizeLine) (he : isTrue e f.env (eval e f.env) = (do let v ← eval e f.env; standAt e.pos; holding [v] (truthy v)) := by rfl) : Tr f O ρ e ((x.length : Int) != 0) :=
  Tr.plain h (fun s v Q E st hv k => by cases hv; exact P.truthy_str (by rw [sizeLine_eq] at hx; omega) (k _ (.toks _))) he

theorem Op2.eqStr {x y : Str} : Op2 f O ρ (compareOp .Eq) (.str x) (.str y) (.bool (x == y)) := by
  intro s va vb Q E st ha hb k
  cases ha; cases hb
  exact eq_str (k _ _ (.refl s) (.bool _))
theorem Op2.neStr {x y : Str} : Op2 f O ρ (compareOp .NotEq) (.str x) (.str y) (.bool (x != y)) := by
  intro s va vb Q E st ha hb k
  cases ha; cases hb
  exact ne_str (k _ _ (.refl s) (.bool _))
theorem Op2.ltInt {x y : Int} : Op2 f O ρ (compareOp .Lt) (.int x) (.int y) (.bool (decide (x < y))) := by
  intro s va vb Q E st ha hb k
  cases ha; cases hb
  exact P.lt_int (k _ _ (.refl s) (.bool _))
theorem Op2.geInt {x y : Int} : Op2 f O ρ (compareOp .GtE) (.int x) (.int y) (.bool (decide (x ≥ y))) := by
  intro s va vb Q E st ha hb k
  cases ha; cases hb
  exact P.ge_int (k _ _ (.refl s) (.bool _))
theorem Op2.eqInt {x y : Int} : Op2 f O ρ (compareOp .Eq) (.int x) (.int y) (.bool (x == y)) := by
  intro s va vb Q E st ha hb k
  cases ha; cases hb
  exact P.eq_int (k _ _ (.refl s) (.bool _))

-- ### displays 
@[irreducible] def EvL (f : Fm) (O : List (Addr × List Dat)) (ρ : List (Str × Slot)) (es : List Expr) (ds : List Dat) : Prop :=
  ∀ (pos : Pos) (s : Shared) (Q : List Value → Shared → Prop) (E : Value → Shared → Prop), St f O ρ s → (∀ vs s', Mv f.G f.W s s' → HasL (f.V O) s'.heap vs ds → Q vs s') → wpAny f.M f.A (spliced (backTo pos (starEach es f.env))) Q E s
theorem EvL.mk {f : Fm} {O : List (Addr × List Dat)} {ρ : List (Str × Slot)} {es : List Expr} {ds : List Dat} (h : ∀ (pos : Pos) (s : Shared) (Q : List Value → Shared → Prop) (E : Value → Shared → Prop), St f O ρ s → (∀ vs s', Mv f.G f.W s s' → HasL (f.V O) s'.heap vs ds → Q vs s') → wpAny f.M f.A (spliced (backTo pos (starEach es f.env))) Q E s) : EvL f O ρ es ds := by
  unfold EvL; exact h
theorem EvL.run {f : Fm} {O : List (Addr × List Dat)} {ρ : List (Str × Slot)} {es : List Expr} {ds : List Dat} (h : EvL f O ρ es ds) : ∀ (pos : Pos) (s : Shared) (Q : List Value → Shared → Prop) (E : Value → Shared → Prop), St f O ρ s → (∀ vs s', Mv f.G f.W s s' → HasL (f.V O) s'.heap vs ds → Q vs s') → wpAny f.M f.A (spliced (backTo pos (starEach es f.env))) Q E s := by
  unfold EvL at h; exact h
theorem EvL.nilE : EvL f O ρ [] [] := by
  apply EvL.mk
  exact fun pos s Q E st k => PySem.Calls.spliced_nil (k _ _ (.refl s) .nil)
theorem EvL.consE {es : List Expr} {ds : List Dat} (h : Ev f O ρ e d) (hs : EvL f O ρ es ds) (hst : starEach (e :: es) f.env = (false, eval e f.env) :: starEach es f.env := by rfl) : EvL f O ρ (e :: es) (d :: ds) := by
  first | apply Ev.mk | apply EvS.mk | apply Tr.mk | apply EvL.mk | apply Ex.mk | apply ExS.mk | apply It.mk | skip
  intro pos s Q E st k
  rw [hst]
  exact PySem.Calls.spliced_cons (h.run s _ _ st fun v s₁ m₁ h₁ => hs.run pos s₁ _ _ (st.mv m₁) fun vs s₂ m₂ h₂ => k _ _ (m₁.trans m₂) (.cons (h₁.mv m₂) h₂))
theorem Ev.listD {es : List Expr} {ds : List Dat} (h : EvL f O ρ es ds) (hsz : ds.length ≤ sizeLine := by first | (simp only [List.length_cons, List.length_nil]; decide) | decide) : Ev f O ρ (.List es pos) (.list ds) := by
  first | apply Ev.mk | apply EvS.mk | apply Tr.mk | apply EvL.mk | apply Ex.mk | apply ExS.mk | apply It.mk | skip
  intro s Q E st k
  refine List_ (h.run pos s _ _ st fun vs s' m hv => ?_)
  exact wpAny_newObj_type (k _ _ (m.trans (.push _)) (newL (st.mv m) hv)) (by show vs.toArray.size ≤ sizeLine; simpa [hv.length] using hsz)
theorem Ev.tupleD {es : List Expr} {ds : List Dat} {k : Nat} (h : EvL f O ρ es ds) (hsz : ds.length ≤ sizeLine := by first | (simp only [List.length_cons, List.length_nil]; decide) | decide) : Ev f O ρ (.Tuple es k pos) (.tuple ds) := by
  first | apply Ev.mk | apply EvS.mk | apply Tr.mk | apply EvL.mk | apply Ex.mk | apply ExS.mk | apply It.mk | skip
  intro s Q E st k
  refine Tuple_ (h.run pos s _ _ st fun vs s' m hv => ?_)
  exact wpAny_newObj_type (k _ _ (m.trans (.push _)) (newT (st.mv m) hv)) (by show vs.toArray.size ≤ sizeLine; simpa [hv.length] using hsz)

end
end Mine

namespace Mine

-- ## texts as lists of signs 
def S (l : List Nat) : Str := ⟨l.toArray⟩
theorem S_append (a b : List Nat) : S a ++ S b = S (a ++ b) := by
  show (⟨a.toArray ++ b.toArray⟩ : Str) = ⟨(a ++ b).toArray⟩
  rw [List.append_toArray]
theorem S_length (a : List Nat) : (S a).length = a.length := by simp [S, Str.length]
theorem S_inj {a b : List Nat} : S a = S b ↔ a = b := by
  constructor
  · intro h
    have : a.toArray = b.toArray := congrArg Str.cps h
    simpa using this
  · rintro rfl; rfl
theorem S_cps (a : List Nat) : (S a).cps = a.toArray := rfl
theorem S_of (x : Str) : x = S x.cps.toList := by cases x; simp [S]
theorem S_beq (a b : List Nat) : (S a == S b) = (a == b) := by
  rw [Bool.eq_iff_iff]; simp [S_inj]

def sl {α : Type} (l : List α) (lo hi : Option Int) : List α := (l.drop (lo.elim 0 (clipAt l.length))).take (hi.elim l.length (clipAt l.length) - lo.elim 0 (clipAt l.length))

theorem sl_length_le {α : Type} (l : List α) (lo hi : Option Int) : (sl l lo hi).length ≤ l.length := by
  unfold sl; rw [List.length_take, List.length_drop]; omega
theorem clip_le (n : Nat) (i : Int) : clipAt n i ≤ n := by have := clipAt_cast n i; omega
theorem strIdx_eq (lo hi : Option Int) (n : Nat) : Builtin.Str.strSliceIndices lo hi 1 n = (List.range (hi.elim n (clipAt n) - lo.elim 0 (clipAt n))).map (fun k => lo.elim 0 (clipAt n) + k) := by
  have h := sliceRange_one (lo.elim 0 (clipAt n)) (hi.elim n (clipAt n))
  rw [← h]
  unfold Builtin.Str.strSliceIndices
  cases lo <;> cases hi <;> simp [clipAt_cast]
theorem slice_S (l : List Nat) (lo hi : Option Int) : Txt.slice (S l) lo hi = S (sl l lo hi) := by
  have key : ((Builtin.Str.strSliceIndices lo hi 1 l.length).filterMap (l.toArray[·]?)) = sl l lo hi := by
    rw [strIdx_eq]
    have := pick_run l.toArray (lo.elim 0 (clipAt l.length)) (hi.elim l.length (clipAt l.length) - lo.elim 0 (clipAt l.length))
    simpa [sl] using this
  unfold Txt.slice
  rw [S_length, S_cps, key]
  split
  · rename_i h
    simp only [beq_self_eq_true, Bool.true_and, beq_iff_eq] at h
    have h2 : (sl l lo hi).length = l.length := by
      rw [strIdx_eq] at h
      simp only [List.length_map, List.length_range] at h
      unfold sl
      rw [List.length_take, List.length_drop]
      have : lo.elim 0 (clipAt l.length) ≤ l.length := by cases lo <;> simp [clip_le]
      have : hi.elim l.length (clipAt l.length) ≤ l.length := by cases hi <;> simp [clip_le]
      omega
    have h3 : sl l lo hi = l := by
      have hs : (sl l lo hi).Sublist l := (List.take_sublist _ _).trans (List.drop_sublist _ _)
      exact hs.eq_of_length h2
    rw [h3]
  · rfl

theorem HasL.sl {V : List Addr} {h : Heap} {vs : List Value} {ds : List Dat} (x : HasL V h vs ds) (lo hi : Option Int) : HasL V h (Mine.sl vs lo hi) (Mine.sl ds lo hi) := by
  unfold Mine.sl
  rw [x.length]
  exact (x.drop _).take _
theorem slicePick_sl (vs : List Value) (lo hi : Option Int) : slicePick vs.toArray lo hi none = (sl vs lo hi).toArray := by
  rw [slicePick_plain]; simp [sl]

section
variable {f : Fm} {O : List (Addr × List Dat)} {ρ : List (Str × Slot)} {e l r t value : Expr} {pos p : Pos} {a b c d : Dat} {lower upper step : Option Expr} {lo hi : Option Int}

-- ### parts of a slice 
def EvP (f : Fm) (O : List (Addr × List Dat)) (ρ : List (Str × Slot)) : Option Expr → Option Int → Prop
  | none, none => True
  | some e, some i => Ev f O ρ e (.int i)
  | _, _ => False
theorem EvP.run {s : Shared} {Q : Value → Shared → Prop} {E : Value → Shared → Prop} (h : EvP f O ρ lower lo) (st : St f O ρ s) (k : ∀ v s', Mv f.G f.W s s' → (∃ q : Option (Int × Tok), v = partValue q ∧ q.map (·.1) = lo) → Q v s') : wpAny f.M f.A (evalPart lower f.env) Q E s := by
  cases lower with
  | none =>
    cases lo with
    | none => exact evalPart_none_step (k _ _ (.refl s) ⟨none, rfl, rfl⟩)
    | some i => exact absurd h id
  | some e =>
    cases lo with
    | none => exact absurd h id
    | some i => exact evalPart_some_step ((Ev.slot h).run s _ _ st fun v s' m hv => k v s' m (by cases hv; exact ⟨some (_, _), rfl, rfl⟩))
theorem isPart_of (q : Option (Int × Tok)) : IsPart (partValue q) (q.map (·.1)) := by
  cases q with
  | none => exact .none
  | some q => exact .int _ _

theorem Ev.sliceStr {x : List Nat} (hv : Ev f O ρ value (.str (S x))) (hlo : EvP f O ρ lower lo) (hhi : EvP f O ρ upper hi) (hsz : x.length ≤ sizeLine) : Ev f O ρ (.Subscript value (.Slice lower upper none p) pos) (.str (S (sl x lo hi))) := by
  first | apply Ev.mk | apply EvS.mk | apply Tr.mk | apply EvL.mk | apply Ex.mk | apply ExS.mk | apply It.mk | skip
  intro s Q E st k
  refine Subscript_ (hv.run s _ _ st fun v s₁ m₁ h₁ => wpAny_Slice (hlo.run (st.mv m₁) fun vl s₂ m₂ h₂ => hhi.run (st.mv (m₁.trans m₂)) fun vu s₃ m₃ h₃ => evalPart_none_step ?_))
  cases h₁
  rename_i tx
  obtain ⟨ql, rfl, rfl⟩ := h₂
  obtain ⟨qu, rfl, rfl⟩ := h₃
  refine tail_any (ops := [.ref s₃.heap.objs.size, .str (S x) tx]) (typeIs_str _ _ _) F.slot_str_getitem.lookup ?_ rfl
  refine wpAny_getItem_str_slice (l := ql) (u := qu) (st := none) ⟨_, Heap.get?_push_size _ rfl, rfl, rfl⟩ rfl ?_
  refine post_val_or_str ⟨Nat.le_trans (Txt.slice_le (S x) _ _) (by rw [S_length]; exact hsz), fun t' tk => ?_⟩
  refine k _ _ (m₁.trans (m₂.trans (m₃.trans ?_))) ?_
  · exact Mv.of_keep fun b o e => Heap.get?_push_of_some _ e
  · have := slice_S x (ql.map (·.1)) (qu.map (·.1))
    unfold Txt.slice at this
    show Has _ _ (Value.str (if _ then _ else _) t') _
    unfold slicePicked
    simp only [Option.map_none, Option.getD_none]
    rw [this]
    exact .str _ _

theorem Ev.sliceList {ds : List Dat} (hv : Ev f O ρ value (.list ds)) (hlo : EvP f O ρ lower lo) (hhi : EvP f O ρ upper hi) (hsz : ds.length ≤ sizeLine) : Ev f O ρ (.Subscript value (.Slice lower upper none p) pos) (.list (sl ds lo hi)) := by
  first | apply Ev.mk | apply EvS.mk | apply Tr.mk | apply EvL.mk | apply Ex.mk | apply ExS.mk | apply It.mk | skip
  intro s Q E st k
  refine Subscript_ (hv.run s _ _ st fun v s₁ m₁ h₁ => wpAny_Slice (hlo.run (st.mv m₁) fun vl s₂ m₂ h₂ => hhi.run (st.mv (m₁.trans m₂)) fun vu s₃ m₃ h₃ => evalPart_none_step ?_))
  have h₁' := h₁.mv (m₂.trans m₃)
  have st₃ := st.mv (m₁.trans (m₂.trans m₃))
  cases h₁' with
  | list i1 n1 hl =>
    rename_i ad vs
    obtain ⟨ql, rfl, rfl⟩ := h₂
    obtain ⟨qu, rfl, rfl⟩ := h₃
    let s4 : Shared := { s₃ with heap := s₃.heap.push { cls := .type "slice", data := .fields #[partValue ql, partValue qu, .none] } }
    have il : s4.heap.IsList ad vs.toArray := (i1.at fun o e => Heap.get?_push_of_some _ e).isList
    refine tail_any (ops := [.ref s₃.heap.objs.size, .ref ad]) (s := s4) il.typeIs slot_list_getitem.lookup ?_ rfl
    have m4 : Mv f.G f.W s₃ s4 := .push _
    refine wpAny_getItem_list_slice (s := s4) il (Heap.IsSliceOf.new ..) (isPart_of ql) (isPart_of qu) .none (by simp) ?_ (by simpa [hl.length] using hsz)
    rw [slicePick_sl]
    exact k _ _ (m₁.trans (m₂.trans (m₃.trans (m4.trans (.push _))))) (newL (st₃.mv m4) ((hl.mv m4).sl _ _))

-- ### items 
theorem Ev.itemStr {x : List Nat} {i : Int} {cc : Nat} {slice : Expr} (hv : Ev f O ρ value (.str (S x))) (hi : Ev f O ρ slice (.int i)) (h0 : 0 ≤ i) (hc : x[i.toNat]? = some cc) (hsz : x.length ≤ sizeLine)
    (hs : ∀ o j, subscripted slice false o j = operate [o, j] (getItem o j) := by intros; with_unfolding_all rfl) : Ev f O ρ (.Subscript value slice pos) (.str (S [cc])) := by
  first | apply Ev.mk | apply EvS.mk | apply Tr.mk | apply EvL.mk | apply Ex.mk | apply ExS.mk | apply It.mk | skip
  intro s Q E st k
  refine Subscript_ (hv.run s _ _ st fun v s₁ m₁ h₁ => hi.run s₁ _ _ (st.mv m₁) fun vi s₂ m₂ h₂ => ?_)
  cases h₁; cases h₂
  have hlt : i.toNat < x.length := (List.getElem?_eq_some_iff.mp hc).1
  rw [sizeLine_eq] at hsz
  refine tail_any (typeIs_str _ _ _) F.slot_str_getitem.lookup (P.getItem_str (c := cc) ?_ ?_ (k _ _ (m₁.trans (m₂.trans (.toks _))) (.str _ _))) (hs _ _)
  · simp only [Bool.or_eq_false_iff, decide_eq_false_iff_not]; omega
  · rw [S_length, seqIndex_of h0 (by omega)]
    simpa [S] using hc

theorem getItem_any {s : Shared} {ad : Addr} {vs : List Value} {i : Int} {t : Tok} {j : Nat} {x : Value} {Q : Value → Shared → Prop} {E : Value → Shared → Prop} (il : s.heap.IsList ad vs.toArray) (hj : seqIndex? i vs.length = some j) (hx : vs[j]? = some x) (hsz : vs.length ≤ sizeLine) (k : Q x s) :
    wpAny f.M f.A (getItem (.ref ad) (.int i t)) Q E s := by
  rw [sizeLine_eq] at hsz
  have hlt : j < vs.length := (List.getElem?_eq_some_iff.mp hx).1
  rcases Int.lt_or_le i 0 with h | h
  · by_cases h1 : -(vs.length : Int) ≤ i
    · rw [seqIndex_neg h h1] at hj
      cases hj
      exact wpAny_getItem_list_neg il h (by simpa using h1) (by omega) (by simpa using hx) k
    · simp only [seqIndex?] at hj
      (repeat' split at hj) <;> first | (simp only [Bool.and_eq_true, decide_eq_true_eq] at *; omega) | cases hj
  · by_cases h1 : i < vs.length
    · rw [seqIndex_of h h1] at hj
      cases hj
      exact wpAny_getItem_list il h (by omega) (by simpa using hx) k
    · simp only [seqIndex?] at hj
      (repeat' split at hj) <;> first | (simp only [Bool.and_eq_true, decide_eq_true_eq] at *; omega) | cases hj

theorem Ev.itemList {ds : List Dat} {i : Int} {j : Nat} {slice : Expr} (hv : Ev f O ρ value (.list ds)) (hi : Ev f O ρ slice (.int i)) (hj : seqIndex? i ds.length = some j) (hd : ds[j]? = some d) (hsz : ds.length ≤ sizeLine)
    (hs : ∀ o j, subscripted slice false o j = operate [o, j] (getItem o j) := by intros; with_unfolding_all rfl) : Ev f O ρ (.Subscript value slice pos) d := by
  first | apply Ev.mk | apply EvS.mk | apply Tr.mk | apply EvL.mk | apply Ex.mk | apply ExS.mk | apply It.mk | skip
  intro s Q E st k
  refine Subscript_ (hv.run s _ _ st fun v s₁ m₁ h₁ => hi.run s₁ _ _ (st.mv m₁) fun vi s₂ m₂ h₂ => ?_)
  have h₁' := h₁.mv m₂
  cases h₂
  cases h₁' with
  | list i1 n1 hl =>
    obtain ⟨x, hx, hxd⟩ := hl.get hd
    exact tail_any i1.isList.typeIs slot_list_getitem.lookup (getItem_any i1.isList (by rw [hl.length]; exact hj) hx (by rw [hl.length]; exact hsz) (k _ _ (m₁.trans m₂) hxd)) (hs _ _)

-- an item of a list of the block's own 
theorem Ev.itemOwn {ad : Addr} {ds : List Dat} {i : Int} {j : Nat} {slice : Expr} (hv : EvS f O ρ value (.val (.ref ad))) (ho : (ad, ds) ∈ O) (hi : Ev f O ρ slice (.int i)) (hj : seqIndex? i ds.length = some j) (hd : ds[j]? = some d) (hsz : ds.length ≤ sizeLine)
    (hs : ∀ o j, subscripted slice false o j = operate [o, j] (getItem o j) := by intros; with_unfolding_all rfl) : Ev f O ρ (.Subscript value slice pos) d := by
  first | apply Ev.mk | apply EvS.mk | apply Tr.mk | apply EvL.mk | apply Ex.mk | apply ExS.mk | apply It.mk | skip
  intro s Q E st k
  refine Subscript_ (hv.run s _ _ st fun v s₁ m₁ h₁ => hi.run s₁ _ _ (st.mv m₁) fun vi s₂ m₂ h₂ => ?_)
  have h₁' : v = .ref ad := h₁
  subst h₁'
  cases h₂
  obtain ⟨vs, i1, hl⟩ := (st.mv (m₁.trans m₂)).own _ ho
  obtain ⟨x, hx, hxd⟩ := hl.get hd
  exact tail_any i1.isList.typeIs slot_list_getitem.lookup (getItem_any i1.isList (by rw [hl.length]; exact hj) hx (by rw [hl.length]; exact hsz) (k _ _ (m₁.trans m₂) hxd)) (hs _ _)

-- ### calls 
-- the name stands at the top for v 
theorem Ev.global {x : Str} {v : Value} (hx : f.env.kindOf x = some .globalImplicit) (hg : f.mg x = some v) (hd : (x == ("__debug__" : Str)) = false := by decide) : EvS f O ρ (.Name x pos) (.val v) := by
  first | apply Ev.mk | apply EvS.mk | apply Tr.mk | apply EvL.mk | apply Ex.mk | apply ExS.mk | apply It.mk | skip
  intro s Q E st k
  refine PySem.Calls.Name_function_global st.ok.kind hx (PySem.Calls.loadGlobal_global (mg := f.mg) ?_ hg (k v s (.refl s) rfl)) hd
  rw [st.ok.glob]; exact st.ok.bas.g.keeps st.bel.stays
theorem Ev.builtin {x : Str} {v : Value} (hx : f.env.kindOf x = some .globalImplicit) (hg : f.mg x = none) (hb : bootBuiltins x = some v) (hn : x ≠ "__name__" := by decide) (hd : (x == ("__debug__" : Str)) = false := by decide) : EvS f O ρ (.Name x pos) (.val v) := by
  first | apply Ev.mk | apply EvS.mk | apply Tr.mk | apply EvL.mk | apply Ex.mk | apply ExS.mk | apply It.mk | skip
  intro s Q E st k
  refine PySem.Calls.Name_function_global st.ok.kind hx (PySem.Calls.loadGlobal_builtin (mg := f.mg) (mb := f.mb) ?_ hg ?_ ?_ (k v s (.refl s) rfl)) hd
  · rw [st.ok.glob]; exact st.ok.bas.g.keeps st.bel.stays
  · rw [st.ok.bi]; exact st.ok.bas.b.keeps st.bel.stays
  · rw [st.ok.bas.boot x hn]; exact hb

abbrev OpN (f : Fm) (O : List (Addr × List Dat)) (ρ : List (Str × Slot)) (t : List Value → Sem Value) (ds : List Dat) (c : Dat) : Prop :=
  ∀ (s : Shared) (vs : List Value) (Q : Value → Shared → Prop) (E : Value → Shared → Prop), St f O ρ s → HasL (f.V O) s.heap vs ds → (∀ v s', Mv f.G f.W s s' → Has (f.V O) s'.heap v c → Q v s') → wpAny f.M f.A (t vs) Q E s

theorem EvL.args {fv : Value} {es : List Expr} {ds : List Dat} {s : Shared} {Q : Args → Shared → Prop} {E : Value → Shared → Prop} (h : EvL f O ρ (e :: es) ds) (st : St f O ρ s) (hns : starEach (e :: es) f.env = (false, eval e f.env) :: starEach es f.env)
    (k : ∀ vs s', Mv f.G f.W s s' → HasL (f.V O) s'.heap vs ds → Q ⟨vs, []⟩ s') : wpAny f.M f.A (evalArgs fv true (backTo pos (starEach (e :: es) f.env)) []) Q E s := by
  have hh := h.run pos s (fun vs s' => Q ⟨vs, []⟩ s') E st k
  rw [hns] at hh ⊢
  exact PySem.Calls.evalArgs_plain hh

theorem Ev.callB {x : Str} {id : String} {np : Pos} {es : List Expr} {ds : List Dat} (hf : EvS f O ρ (.Name x np) (.val (.builtin id))) (ha : EvL f O ρ (e :: es) ds) (h : OpN f O ρ (fun vs => call (.builtin id) vs) ds d)
    (hns : starEach (e :: es) f.env = (false, eval e f.env) :: starEach es f.env := by rfl) (hpl : (backTo pos (starEach (e :: es) f.env)).any (·.1) = false := by rfl) : Ev f O ρ (.Call (.Name x np) (e :: es) [] pos) d := by
  first | apply Ev.mk | apply EvS.mk | apply Tr.mk | apply EvL.mk | apply Ex.mk | apply ExS.mk | apply It.mk | skip
  intro s Q E st k
  refine wpAny_Call_NameR (hf.run s _ _ st fun fv s₁ m₁ h₁ => ?_)
  have h₁' : fv = .builtin id := h₁
  subst h₁'
  refine PySem.Calls.callWith_builtin hpl (ha.args (st.mv m₁) hns fun vs s₂ m₂ h₂ => ?_)
  exact h s₂ vs _ _ (st.mv (m₁.trans m₂)) h₂ fun v s₃ m₃ h₃ => k v s₃ (m₁.trans (m₂.trans m₃)) h₃
-- a def of the text is called 
theorem Ev.callF {x : Str} {fa : Addr} {o : Obj} {fd : FuncData} {np : Pos} {es : List Expr} {ds : List Dat} (hf : EvS f O ρ (.Name x np) (.val (.ref fa))) (ho : f.G.get? fa = some o) (hod : o.data = .func fd) (ha : EvL f O ρ (e :: es) ds) (h : OpN f O ρ (fun vs => call (.ref fa) vs) ds d)
    (hns : starEach (e :: es) f.env = (false, eval e f.env) :: starEach es f.env := by rfl) : Ev f O ρ (.Call (.Name x np) (e :: es) [] pos) d := by
  first | apply Ev.mk | apply EvS.mk | apply Tr.mk | apply EvL.mk | apply Ex.mk | apply ExS.mk | apply It.mk | skip
  intro s Q E st k
  refine wpAny_Call_NameR (hf.run s _ _ st fun fv s₁ m₁ h₁ => ?_)
  have h₁' : fv = .ref fa := h₁
  subst h₁'
  refine PySem.Calls.callWith_function (o := o) (fd := fd) (ha.args (st.mv m₁) hns fun vs s₂ m₂ h₂ => ⟨⟨(st.mv (m₁.trans m₂)).bel.stays _ _ ho, hod⟩, ?_⟩)
  exact h s₂ vs _ _ (st.mv (m₁.trans m₂)) h₂ fun v s₃ m₃ h₃ => k v s₃ (m₁.trans (m₂.trans m₃)) h₃

-- ### contracts 
-- what a call of a def asks: the frames, the room 
structure Pre (mg mb : Str → Option Value) (G : Heap) (lvl : Nat) (A : Around) (outer : List Env) (V : List Addr) (s : Shared) : Prop where
  bel : Bel A G outer s.heap
  hh : A.handled = none
  dep : A.depth + lvl < recursionLimit
  uni : A.units + 40 * lvl + 100 < cLine
  bas : Bas mg mb G
  frD : FrD s.heap (outer.filterMap (·.frame))
  v0 : ∀ a ∈ V, ∃ o, s.heap.get? a = some o
  tab : TabsIn G s.heap
def Con (prog : Program) (w : World) (mg mb : Str → Option Value) (G : Heap) (lvl : Nat) (fa : Addr) (R : List Dat → Dat → Prop) : Prop :=
  ∀ (A : Around) (outer : List Env) (V : List Addr) (s : Shared) (vs : List Value) (ds : List Dat) (d : Dat) (Q E : Value → Shared → Prop), Pre mg mb G lvl A outer V s → HasL V s.heap vs ds → R ds d →
    (∀ v s', Mv G (outer.filterMap (·.frame)) s s' → Has V s'.heap v d → Q v s') → wpAny (model prog w) A (call (.ref fa) vs) Q E s
theorem OpN.con {lvl : Nat} {fa : Addr} {R : List Dat → Dat → Prop} {ds : List Dat} (C : Con f.prog f.w f.mg f.mb f.G lvl fa R) (hR : R ds d) (hd : f.A.depth + lvl < recursionLimit) (hu : f.A.units + 40 * lvl + 100 < cLine) : OpN f O ρ (fun vs => call (.ref fa) vs) ds d := by
  intro s vs Q E st hv k
  refine C f.A f.outer (f.V O) s vs ds d Q E ⟨st.bel, st.ok.hh, hd, hu, st.ok.bas, st.frD, fun a ha => ?_, st.tab⟩ hv hR k
  rcases List.mem_append.mp ha with ha | ha
  · obtain ⟨p, hp, rfl⟩ := List.mem_map.mp ha
    obtain ⟨vs, ⟨n, e⟩, _⟩ := st.own p hp
    exact ⟨_, e⟩
  · exact st.v0 a ha
end
end Mine

namespace Mine

-- ## statements 
inductive Ot where
  | next (O : List (Addr × List Dat)) (ρ : List (Str × Slot))
  | brk (O : List (Addr × List Dat)) (ρ : List (Str × Slot))
  | cont (O : List (Addr × List Dat)) (ρ : List (Str × Slot))
  | ret (d : Dat)
def Out (f : Fm) (Φ : Ot → Prop) (fl : Flow) (s' : Shared) : Prop :=
  match fl with
  | .next => ∃ O' ρ', Φ (.next O' ρ') ∧ St f O' ρ' s'
  | .brk => ∃ O' ρ', Φ (.brk O' ρ') ∧ St f O' ρ' s'
  | .cont => ∃ O' ρ', Φ (.cont O' ρ') ∧ St f O' ρ' s'
  | .ret v => ∃ d, Φ (.ret d) ∧ Has f.V₀ s'.heap v d ∧ Mv f.G f.Wc f.s₀ s'
@[irreducible] def Ex (f : Fm) (O : List (Addr × List Dat)) (ρ : List (Str × Slot)) (b : List Stmt) (Φ : Ot → Prop) : Prop :=
  ∀ (s : Shared) (E : Value → Shared → Prop), St f O ρ s → wpAny f.M f.A (execs b f.env) (Out f Φ) E s
theorem Ex.mk {f : Fm} {O : List (Addr × List Dat)} {ρ : List (Str × Slot)} {b : List Stmt} {Φ : Ot → Prop} (h : ∀ (s : Shared) (E : Value → Shared → Prop), St f O ρ s → wpAny f.M f.A (execs b f.env) (Out f Φ) E s) : Ex f O ρ b Φ := by
  unfold Ex; exact h
theorem Ex.run {f : Fm} {O : List (Addr × List Dat)} {ρ : List (Str × Slot)} {b : List Stmt} {Φ : Ot → Prop} (h : Ex f O ρ b Φ) : ∀ (s : Shared) (E : Value → Shared → Prop), St f O ρ s → wpAny f.M f.A (execs b f.env) (Out f Φ) E s := by
  unfold Ex at h; exact h
@[irreducible] def ExS (f : Fm) (O : List (Addr × List Dat)) (ρ : List (Str × Slot)) (b : Stmt) (Φ : Ot → Prop) : Prop :=
  ∀ (s : Shared) (E : Value → Shared → Prop), St f O ρ s → wpAny f.M f.A (exec b f.env) (Out f Φ) E s
theorem ExS.mk {f : Fm} {O : List (Addr × List Dat)} {ρ : List (Str × Slot)} {b : Stmt} {Φ : Ot → Prop} (h : ∀ (s : Shared) (E : Value → Shared → Prop), St f O ρ s → wpAny f.M f.A (exec b f.env) (Out f Φ) E s) : ExS f O ρ b Φ := by
  unfold ExS; exact h
theorem ExS.run {f : Fm} {O : List (Addr × List Dat)} {ρ : List (Str × Slot)} {b : Stmt} {Φ : Ot → Prop} (h : ExS f O ρ b Φ) : ∀ (s : Shared) (E : Value → Shared → Prop), St f O ρ s → wpAny f.M f.A (exec b f.env) (Out f Φ) E s := by
  unfold ExS at h; exact h
def thenR (f : Fm) (rest : List Stmt) (Φ : Ot → Prop) : Ot → Prop
  | .next O ρ => Ex f O ρ rest Φ
  | .brk O ρ => Φ (.brk O ρ)
  | .cont O ρ => Φ (.cont O ρ)
  | .ret d => Φ (.ret d)

section
variable {f : Fm} {O : List (Addr × List Dat)} {ρ : List (Str × Slot)} {e l r t value : Expr} {pos p : Pos} {a b c d : Dat} {Φ Ψ : Ot → Prop} {stm : Stmt} {rest : List Stmt}

theorem Out.mono {fl : Flow} {s' : Shared} (h : ∀ o, Φ o → Ψ o) (x : Out f Φ fl s') : Out f Ψ fl s' := by
  cases fl <;> (unfold Out at x ⊢)
  · obtain ⟨O', ρ', a, b⟩ := x; exact ⟨O', ρ', h _ a, b⟩
  · obtain ⟨O', ρ', a, b⟩ := x; exact ⟨O', ρ', h _ a, b⟩
  · obtain ⟨O', ρ', a, b⟩ := x; exact ⟨O', ρ', h _ a, b⟩
  · obtain ⟨d, a, b⟩ := x; exact ⟨d, h _ a, b⟩
theorem Ex.mono {b : List Stmt} (h : Ex f O ρ b Φ) (hi : ∀ o, Φ o → Ψ o) : Ex f O ρ b Ψ := by
  first | apply Ex.mk | apply ExS.mk
  exact fun s E st => wpAny_mono (h.run s E st) (fun _ _ x => x.mono hi) fun _ _ x => x
theorem Ex.nilX (h : Φ (.next O ρ)) : Ex f O ρ [] Φ := by
  first | apply Ex.mk | apply ExS.mk
  exact fun s E st => wpAny_execs_nil ⟨O, ρ, h, st⟩
theorem Ex.consX (h : ExS f O ρ stm (thenR f rest Φ)) : Ex f O ρ (stm :: rest) Φ := by
  first | apply Ev.mk | apply EvS.mk | apply Tr.mk | apply EvL.mk | apply Ex.mk | apply ExS.mk | apply It.mk | skip
  intro s E st
  refine wpAny_execs_cons (wpAny_mono (h.run s E st) (fun fl s' x => ?_) fun _ _ x => x)
  cases fl with
  | next => obtain ⟨O', ρ', a, b⟩ := x; exact (show Ex f O' ρ' rest Φ from a).run s' E b
  | brk => exact x
  | cont => exact x
  | ret v => exact x
-- fewer names 
theorem Ex.weak {ρ' : List (Str × Slot)} {b : List Stmt} (h : Ex f O ρ' b Φ) (hw : ∀ y sl, ρ'.lookup y = some sl → ρ.lookup y = some sl) : Ex f O ρ b Φ := by
  first | apply Ex.mk | apply ExS.mk
  exact fun s E st => h.run s E (st.weak hw)

theorem ExS.ret (h : Ev f O ρ e d) (hΦ : Φ (.ret d)) : ExS f O ρ (.Return (some e) pos) Φ := by
  first | apply Ev.mk | apply EvS.mk | apply Tr.mk | apply EvL.mk | apply Ex.mk | apply ExS.mk | apply It.mk | skip
  intro s E st
  refine wpAny_Return_some (h.run s _ _ st fun v s' m hv => ⟨d, hΦ, hv.keep ?_, (st.mv m).frm⟩)
  have : ∀ a, a ∉ f.V O → a ∉ f.V₀ := fun a ha h => ha (List.mem_append.mpr (.inr h))
  exact ⟨fun a items ha hi => ⟨hi, this a ha⟩, fun a items ha hi => ⟨hi, this a ha⟩⟩
theorem ExS.retOwn {ad : Addr} {ds : List Dat} (h : EvS f O ρ e (.val (.ref ad))) (ho : (ad, ds) ∈ O) (hΦ : Φ (.ret (.list ds))) : ExS f O ρ (.Return (some e) pos) Φ := by
  first | apply Ev.mk | apply EvS.mk | apply Tr.mk | apply EvL.mk | apply Ex.mk | apply ExS.mk | apply It.mk | skip
  intro s E st
  refine wpAny_Return_some (h.run s _ _ st fun v s' m hv => ?_)
  have hv' : v = .ref ad := hv
  subst hv'
  have st' := st.mv m
  obtain ⟨vs, i1, hl⟩ := st'.own _ ho
  refine ⟨.list ds, hΦ, .list i1 (st'.oV _ ho) (hl.keep ?_), st'.frm⟩
  have : ∀ a, a ∉ f.V O → a ∉ f.V₀ := fun a ha h => ha (List.mem_append.mpr (.inr h))
  exact ⟨fun a items ha hi => ⟨hi, this a ha⟩, fun a items ha hi => ⟨hi, this a ha⟩⟩

-- a name that the block may bind 
abbrev Binds (f : Fm) (x : Str) : Prop := f.env.kindOf x = some .local ∨ (f.own = true ∧ f.env.kindOf x = some .cell ∧ ∃ c, f.env.cells.lookup x = some c)
theorem ExS.assignS {x : Str} {px : Pos} {sl : Slot} (hk : Binds f x) (h : EvS f O ρ e sl) (hΦ : Φ (.next O (put ρ x sl))) (hs : swapsWith e (some (.Name x px)) pos.line f.env = pure false := by rfl) : ExS f O ρ (.Assign [.Name x px] e pos) Φ := by
  first | apply Ev.mk | apply EvS.mk | apply Tr.mk | apply EvL.mk | apply Ex.mk | apply ExS.mk | apply It.mk | skip
  intro s E st
  refine wpAny_Assign_Name (h.run s _ _ st fun v s' m hv => ?_) hs
  exact St.bind (st.mv m) hk hv fun s₂ st₂ => ⟨_, _, hΦ, st₂⟩
theorem ExS.assign {x : Str} {px : Pos} (hk : Binds f x) (h : Ev f O ρ e d) (hΦ : Φ (.next O (put ρ x (.dat d)))) (hs : swapsWith e (some (.Name x px)) pos.line f.env = pure false := by rfl) : ExS f O ρ (.Assign [.Name x px] e pos) Φ := ExS.assignS (sl := .dat d) hk (Ev.slot h) hΦ hs

theorem ExS.ifX {v : Bool} {b1 b2 : List Stmt} (ht : Tr f O ρ t v) (h1 : v = true → Ex f O ρ b1 Φ) (h2 : v = false → Ex f O ρ b2 Φ) : ExS f O ρ (.If t b1 b2 pos) Φ := by
  first | apply Ev.mk | apply EvS.mk | apply Tr.mk | apply EvL.mk | apply Ex.mk | apply ExS.mk | apply It.mk | skip
  intro s E st
  refine wpAny_If (ht.run s _ _ st fun s' m => ?_)
  cases v with
  | true => exact (h1 rfl).run s' E (st.mv m)
  | false => exact (h2 rfl).run s' E (st.mv m)
theorem ExS.brkX (h : Φ (.brk O ρ)) : ExS f O ρ (.Break pos) Φ := by
  first | apply Ex.mk | apply ExS.mk
  exact fun s E st => wpAny_bind (wpAny_standAt (wpAny_pure ⟨O, ρ, h, st⟩))

-- ### lists of the block's own 
theorem V_set {i : Nat} {ad : Addr} {ds ds' : List Dat} (hi : O[i]? = some (ad, ds)) : f.V (O.set i (ad, ds')) = f.V O := by
  show (O.set i (ad, ds')).map (·.1) ++ _ = _
  rw [List.map_set]
  congr 1
  have : (O.map (·.1))[i]? = some ad := by simp [hi]
  obtain ⟨h1, h2⟩ := List.getElem?_eq_some_iff.mp this
  rw [← h2, List.set_getElem_self]
theorem St.ownSet {s : Shared} {i : Nat} {ad : Addr} {ds ds' : List Dat} {vs' : List Value} {h' : Heap} (st : St f O ρ s) (hi : O[i]? = some (ad, ds)) (hs : Heap.SameBut ad s.heap h') (hp : h'.PlainList ad vs'.toArray) (hl : HasL (f.V O) s.heap vs' ds') :
    St f (O.set i (ad, ds')) ρ { s with heap := h' } := by
  have hm : (ad, ds) ∈ O := List.mem_of_getElem? hi
  have hV := V_set (f := f) (ds' := ds') hi
  have haV : ad ∈ f.V O := List.mem_append.mpr (.inl (List.mem_map.mpr ⟨_, hm, rfl⟩))
  obtain ⟨vs0, ⟨n0, e0⟩, _⟩ := st.own _ hm
  obtain ⟨n1, e1⟩ := id hp
  have dk : DKeep (f.V O) (f.V O) s.heap h' := dkeep_at hs (.inl haV)
  have fO := st.fO _ hm
  refine { ok := st.ok, bel := bel_at st.ok st.bel fO hs (fun o e _ => ⟨_, e1, fun vs q => nomatch q⟩), frm := frm_at (tk := s.toks) st.frm fO hs ⟨_, e0, fun vs h => nomatch h⟩, loc := ?_, cel := fun n c hc => ?_, vars := fun y sl hy => ?_, own := fun p hpO => ?_,
           nod := ?_, fO := fun p hpO => ?_, v0 := fun a ha => let ⟨_, e⟩ := st.v0 a ha; there_at hs ⟨_, e1⟩ e, frD := frD_at st.frD hs (fun ⟨o, es, ep, e, d⟩ => ?_), kep := fun p hpK => ?_, dat := fun p hp => by rw [hV]; exact (st.dat p hp).keep dk, oV := fun p hp => ?_, tab := tab_at st.tab hs ⟨_, e0, fun vs h => nomatch h⟩ }
  · obtain ⟨m, hn⟩ := st.loc
    refine ⟨m, hn.sameBut hs ?_⟩
    rintro rfl
    obtain ⟨o, es, ep, e, d, _⟩ := hn
    rw [e0] at e; cases e; cases d
  · obtain ⟨v, q⟩ := st.cel n c hc
    refine ⟨v, q.sameBut hs ?_⟩
    rintro rfl
    obtain ⟨o, e, d⟩ := q
    rw [e0] at e; cases e; cases d
  · obtain ⟨v, hv, q⟩ := st.vars y sl hy
    rw [hV]
    refine ⟨v, ?_, q.keep dk⟩
    rcases hv with ⟨k1, m1, n1', e1'⟩ | ⟨k1, c1, l1, e1'⟩
    · refine .inl ⟨k1, m1, n1'.sameBut hs ?_, e1'⟩
      intro hq
      obtain ⟨o, es, ep, e, d, _⟩ := n1'
      rw [hq, e0] at e; cases e; cases d
    · refine .inr ⟨k1, c1, l1, e1'.sameBut hs ?_⟩
      intro hq
      obtain ⟨o, e, d⟩ := e1'
      rw [hq, e0] at e; cases e; cases d
  · rw [hV]
    obtain ⟨j, hj, hje⟩ := List.getElem_of_mem hpO
    rw [List.getElem_set] at hje
    split at hje
    · subst hje
      exact ⟨vs', hp, hl.keep dk⟩
    · rename_i hne
      have hj' : j < O.length := by simpa using hj
      have hpm : p ∈ O := hje ▸ List.getElem_mem hj'
      obtain ⟨vs, ⟨n, e⟩, q⟩ := st.own p hpm
      refine ⟨vs, ⟨n, hs.extBut _ _ ?_ e⟩, q.keep dk⟩
      intro hpa
      obtain ⟨hi1, hi2⟩ := List.getElem?_eq_some_iff.mp hi
      have hnd := st.nod
      have h1 : (O.map (·.1))[i]'(by simpa using hi1) = (O.map (·.1))[j]'(by simpa using hj') := by simp [hi2, hje, hpa]
      exact hne ((List.getElem_inj hnd).mp h1)
  · have : (O.set i (ad, ds')).map (·.1) = O.map (·.1) := by
      have := hV
      exact List.append_cancel_right this
    rw [this]; exact st.nod
  · obtain ⟨j, hj, hje⟩ := List.getElem_of_mem hpO
    rw [List.getElem_set] at hje
    split at hje
    · subst hje; exact fO
    · exact st.fO p (hje ▸ List.getElem_mem (by simpa using hj))
  · rw [e0] at e; cases e; cases d
  · obtain ⟨e, b, c⟩ := st.kep p hpK
    have hmO : (O.set i (ad, ds')).map (·.1) = O.map (·.1) := List.append_cancel_right hV
    rw [hmO]
    refine ⟨hs.extBut _ _ ?_ e, b, c⟩
    rintro rfl
    exact c (List.mem_map.mpr ⟨_, hm, rfl⟩)
  · obtain ⟨j, hj, hje⟩ := List.getElem_of_mem hp
    rw [List.getElem_set] at hje
    split at hje
    · subst hje; exact st.oV (ad, ds) hm
    · exact st.oV p (hje ▸ List.getElem_mem (by simpa using hj))

-- a new list becomes the block's own 
theorem St.ownNew {s : Shared} {vs : List Value} {ds : List Dat} {n : Nat} (st : St f O ρ s) (hv : HasL (f.V O) s.heap vs ds) :
    St f ((s.heap.objs.size, ds) :: O) ρ { s with heap := s.heap.push { cls := .type "list", data := .seq vs.toArray n } } := by
  let s1 : Shared := { s with heap := s.heap.push { cls := .type "list", data := .seq vs.toArray n } }
  have m : Mv f.G f.W s s1 := .push _
  have st1 : St f O ρ s1 := st.mv m
  have dk : DKeep (f.V O) (f.V ((s.heap.objs.size, ds) :: O)) s.heap s1.heap := by
    have h0 := m.dkeep (V := f.V O)
    refine ⟨fun a items ha hi => ⟨(h0.1 a items ha hi).1, fun q => ?_⟩, fun a items ha hi => ⟨(h0.2 a items ha hi).1, fun q => ?_⟩⟩
    · rcases List.mem_cons.mp q with q | q
      · obtain ⟨o, e, _⟩ := hi
        have := Heap.lt_size e
        rw [q] at this
        exact Nat.lt_irrefl _ this
      · exact ha q
    · rcases List.mem_cons.mp q with q | q
      · obtain ⟨n, e⟩ := hi
        have := Heap.lt_size e
        rw [q] at this
        exact Nat.lt_irrefl _ this
      · exact ha q
  have lt0 : f.s₀.heap.objs.size ≤ s.heap.objs.size := by
    obtain ⟨mm, nn⟩ := st.loc
    exact Nat.le_trans st.ok.fL (Nat.le_of_lt nn.lt)
  refine { ok := st.ok, bel := st1.bel, frm := st1.frm, loc := st1.loc, cel := st1.cel, vars := fun y sl hy => ?_, own := fun p hp => ?_, nod := ?_, fO := fun p hp => ?_, v0 := st1.v0, frD := st1.frD, kep := fun p hp => ?_, dat := fun p hp => (st.dat p hp).keep dk, oV := fun p hp => ?_, tab := st1.tab }
  · obtain ⟨v, h1, h2⟩ := st.vars y sl hy
    exact ⟨v, h1.mv m, h2.keep dk⟩
  · rcases List.mem_cons.mp hp with rfl | hp
    · exact ⟨vs, ⟨n, Heap.get?_push_size _ rfl⟩, hv.keep dk⟩
    · obtain ⟨us, h1, h2⟩ := st.own p hp
      exact ⟨us, h1.mv m, h2.keep dk⟩
  · refine List.nodup_cons.mpr ⟨fun q => ?_, st.nod⟩
    exact st.freshV (List.mem_append.mpr (.inl q))
  · rcases List.mem_cons.mp hp with rfl | hp
    · exact lt0
    · exact st.fO p hp
  · obtain ⟨e, b, c⟩ := st.kep p hp
    obtain ⟨e1, _, _⟩ := st1.kep p hp
    refine ⟨e1, b, fun q => ?_⟩
    rcases List.mem_cons.mp q with q | q
    · have := Heap.lt_size e
      rw [q] at this
      exact Nat.lt_irrefl _ this
    · exact c q
  · rcases List.mem_cons.mp hp with rfl | hp
    · exact fun q => st.freshV (List.mem_append.mpr (.inr q))
    · exact st.oV p hp

theorem ExS.assignOwn {x : Str} {px : Pos} {es : List Expr} {ds : List Dat} (hk : Binds f x) (h : EvL f O ρ es ds) (hΦ : ∀ ad, Φ (.next ((ad, ds) :: O) (put ρ x (.val (.ref ad))))) (hsz : ds.length ≤ sizeLine := by first | (simp only [List.length_cons, List.length_nil]; decide) | decide)
    (hs : swapsWith (.List es p) (some (.Name x px)) pos.line f.env = pure false := by rfl) : ExS f O ρ (.Assign [.Name x px] (.List es p) pos) Φ := by
  first | apply Ev.mk | apply EvS.mk | apply Tr.mk | apply EvL.mk | apply Ex.mk | apply ExS.mk | apply It.mk | skip
  intro s E st
  refine wpAny_Assign_Name (List_ (h.run p s _ _ st fun vs s' m hv => ?_)) hs
  refine wpAny_newObj_type ?_ (by show vs.toArray.size ≤ sizeLine; simpa [hv.length] using hsz)
  have st2 := (st.mv m).ownNew (n := 0) hv
  exact St.bind (sl := .val (.ref s'.heap.objs.size)) st2 hk (show SlotIs _ _ (.val _) _ from rfl) fun s₂ st₂ => ⟨_, _, hΦ _, st₂⟩

theorem ExS.append {ap cp : Pos} {i : Nat} {ad : Addr} {ds : List Dat} {ox : Expr} (ho : EvS f O ρ ox (.val (.ref ad))) (hi : O[i]? = some (ad, ds)) (h : Ev f O ρ e d) (hsz : ds.length ≤ sizeLine) (hΦ : Φ (.next (O.set i (ad, ds ++ [d])) ρ))
    (hint : interactive f.env = false := by rfl) (hsw : swapsWith (.Call (.Attribute ox "append" ap) [e] [] cp) none pos.line f.env = pure false := by rfl)
    (hbase : attributeBase ox "append" f.env (eval ox f.env) = eval ox f.env := by rfl)
    (hfew : ((backTo cp (starEach [e] f.env)).all (fun x => !x.1) && (backToKw cp (keywordEach [] f.env)).all (fun x => x.1.isSome) && decide (([e] : List Expr).length + ([] : List Keyword).length + (if ([] : List Keyword).isEmpty then 0 else 1) < 30)) = true := by rfl)
    (hline : (ap.endLine == cp.line) = true := by rfl) (htrees : backTo cp (starEach [e] f.env) = [(false, eval e f.env)] := by rfl) : ExS f O ρ (.Expr (.Call (.Attribute ox "append" ap) [e] [] cp) pos) Φ := by
  first | apply Ev.mk | apply EvS.mk | apply Tr.mk | apply EvL.mk | apply Ex.mk | apply ExS.mk | apply It.mk | skip
  intro s E st
  refine wpAny_Expr (wpAny_Call_append hbase hfew hline htrees (ho.run s _ _ st fun v s₁ m₁ h₁ => ?_)) hint hsw
  have h₁' : v = .ref ad := h₁
  subst h₁'
  have st1 := st.mv m₁
  obtain ⟨vs, ⟨n, e1⟩, hl⟩ := st1.own _ (List.mem_of_getElem? hi)
  refine ⟨ad, vs.toArray, rfl, ⟨_, n, e1, rfl, rfl, rfl⟩, h.run s₁ _ _ st1 fun y s₂ m₂ h₂ => ?_⟩
  have st2 := st1.mv m₂
  obtain ⟨vs2, i2, hl2⟩ := st2.own _ (List.mem_of_getElem? hi)
  refine wpAny_list_append_plain (hsz := by simpa [hl2.length] using hsz) i2 fun h' hp' hs' => ?_
  refine ⟨_, _, hΦ, st2.ownSet (vs' := vs2 ++ [y]) hi hs' (by simpa using hp') (hl2.append (.one h₂))⟩

theorem setItem_last {s : Shared} {ad : Addr} {vs : List Value} {k0 : Int} {t : Tok} {v : Value} {Q : Unit → Shared → Prop} {E : Value → Shared → Prop} (il : s.heap.PlainList ad vs.toArray) (h0 : k0 < 0) (h1 : -(vs.length : Int) ≤ k0) (hsz : vs.length ≤ sizeLine)
    (k : ∀ h', h'.PlainList ad (vs.set (k0 + vs.length).toNat v).toArray → Heap.SameBut ad s.heap h' → Q () { s with heap := h' }) : wpAny f.M f.A (setItem (.ref ad) (.int k0 t) v) Q E s := by
  obtain ⟨ne, ho⟩ := id il
  have hl := il.isList
  rw [sizeLine_eq] at hsz
  unfold setItem
  try with_reducible refine wpAny_holding ?_
  first | refine wpAny_bind (wpAny_pure ?_) | skip
  refine wpAny_bind (wpAny_sequenceKey hl.typeIs (by decide) ?_)
  refine wpAny_bind (wpAny_callSpecial?_slot (name := Str.ofString "__setitem__") hl.typeIs slot_list_setitem (wpAny_call_entry slot_list_setitem hl.typeIs entry_list_setitem ?_ (args_list_setitem _ _ _)))
  show wpAny _ _ (Builtin.List.listSubscript? (.int k0 t) >>= _) _ _ s
  refine wpAny_bind (wpAny_listSubscript_int (fitsIndex_neg h0 (by omega)) ?_)
  have hidx : seqIndex? k0 vs.toArray.size = some (k0 + vs.length).toNat := by rw [List.size_toArray]; exact seqIndex_neg h0 h1
  have hlt : (k0 + vs.length).toNat < vs.length := by omega
  generalize hjj : (k0 + vs.length).toNat = j at hidx hlt k
  obtain ⟨n, rfl⟩ : ∃ n : Nat, k0 = Int.negSucc n := by
    cases k0 with
    | ofNat n => exact absurd h0 (Int.not_lt.mpr (Int.natCast_nonneg n))
    | negSucc n => exact ⟨n, rfl⟩
  have hx : vs.toArray[j]? = some vs[j] := by simp [hlt]
  show wpAny _ _ ((Builtin.List.listItems (.ref ad) >>= fun xs => pure ((seqIndex? (Int.negSucc n) xs.size).bind fun i => xs[i]?.map (i, ·))) >>= _) _ _ s
  refine wpAny_bind (wpAny_bind ?_)
  show wpAny _ _ (seqItems? (.ref ad) >>= _) _ _ s
  refine wpAny_bind (wpAny_seqItems ho rfl (wpAny_pure (wpAny_pure ?_)))
  rw [hidx]
  simp only [Option.bind_some, hx, Option.map_some]
  show wpAny _ _ (setSeqItemAt ad j v >>= _) _ _ s
  have hfin : (s.heap.update ad (Obj.mapSeq (·.setIfInBounds j v))).PlainList ad (vs.set j v).toArray := by
    refine ⟨ne, ?_⟩
    rw [Heap.get?_update_self _ ho rfl]
    simp [Obj.mapSeq]
  refine wpAny_bind (wpAny_setSeqItemAt ho rfl ?_)
  first
    | exact wpAny_bind (wpAny_pure (wpAny_pure ⟨.none, rfl, wpAny_pure (k _ hfin (Heap.SameBut.update ..))⟩))
    | exact wpAny_pure ⟨.none, rfl, wpAny_pure (k _ hfin (Heap.SameBut.update ..))⟩

theorem Ev.neg {i : Int} (h : Ev f O ρ e (.int i)) : Ev f O ρ (.UnaryOp .USub e pos) (.int (-i)) := by
  first | apply Ev.mk | apply EvS.mk | apply Tr.mk | apply EvL.mk | apply Ex.mk | apply ExS.mk | apply It.mk | skip
  intro s Q E st k
  refine UnaryOp_ (h.run s _ _ st fun v s' m hv => ?_)
  cases hv
  exact P.neg_int (k _ _ (m.trans (.toks _)) (.int _ _))

theorem HasL.set {V : List Addr} {h : Heap} {vs : List Value} {ds : List Dat} {v : Value} {d : Dat} (x : HasL V h vs ds) (y : Has V h v d) (j : Nat) : HasL V h (vs.set j v) (ds.set j d) := by
  induction vs generalizing ds j with
  | nil => cases x; exact .nil
  | cons u vs ih =>
    cases x with
    | cons a b =>
      cases j with
      | zero => exact .cons y b
      | succ j => exact .cons a (ih b j)

-- the last item of a list of the block's own is set 
theorem ExS.setLast {i : Nat} {ad : Addr} {ds : List Dat} {ox ix : Expr} (ho : EvS f O ρ ox (.val (.ref ad))) (hi : O[i]? = some (ad, ds)) (hix : Ev f O ρ ix (.int (-1))) (h : Ev f O ρ e d) (hne : ds ≠ []) (hsz : ds.length ≤ sizeLine) (hΦ : Φ (.next (O.set i (ad, ds.dropLast ++ [d])) ρ))
    (hs : swapsWith e (some (.Subscript ox ix p)) pos.line f.env = pure false := by rfl) : ExS f O ρ (.Assign [.Subscript ox ix p] e pos) Φ := by
  first | apply Ev.mk | apply EvS.mk | apply Tr.mk | apply EvL.mk | apply Ex.mk | apply ExS.mk | apply It.mk | skip
  intro s E st
  refine wpAny_Assign_Subscript (h.run s _ _ st fun v s₁ m₁ h₁ => ho.run s₁ _ _ (st.mv m₁) fun ov s₂ m₂ h₂ => hix.run s₂ _ _ (st.mv (m₁.trans m₂)) fun iv s₃ m₃ h₃ => ?_) hs
  have h₂' : ov = .ref ad := h₂
  subst h₂'
  cases h₃
  have st3 := st.mv (m₁.trans (m₂.trans m₃))
  obtain ⟨vs, i1, hl⟩ := st3.own _ (List.mem_of_getElem? hi)
  have hlen : 0 < ds.length := List.length_pos_iff.mpr hne
  have hlL : vs.length = ds.length := hl.length
  refine setItem_last i1 (by decide) (by rw [hlL]; omega) (by rw [hlL]; exact hsz) fun h' hp' hs' => ?_
  refine ⟨_, _, hΦ, st3.ownSet (vs' := vs.set ((-1 : Int) + vs.length).toNat v) hi hs' hp' ?_⟩
  have := HasL.set hl ((h₁.mv m₂).mv m₃) ((-1 : Int) + vs.length).toNat
  have e1 : ((-1 : Int) + vs.length).toNat = ds.length - 1 := by rw [hlL]; omega
  rw [e1] at this ⊢
  have e2 : ds.set (ds.length - 1) d = ds.dropLast ++ [d] := by
    rw [List.set_eq_take_append_cons_drop, if_pos (by omega), List.dropLast_eq_take]
    congr 1
    rw [show ds.length - 1 + 1 = ds.length by omega, List.drop_length]
  rw [e2] at this
  exact this

-- ### loops 
-- the names of ρ₁ stand so in ρ too 
def Sub (ρ₁ ρ : List (Str × Slot)) : Prop := ∀ y sl, ρ₁.lookup y = some sl → ρ.lookup y = some sl
theorem Sub.refl (ρ : List (Str × Slot)) : Sub ρ ρ := fun _ _ h => h
theorem Sub.nilS (ρ : List (Str × Slot)) : Sub [] ρ := fun _ _ h => by simp at h
theorem Sub.consS {ρ₁ ρ : List (Str × Slot)} {x : Str} {sl : Slot} (h : ρ.lookup x = some sl) (hs : Sub ρ₁ ρ) : Sub ((x, sl) :: ρ₁) ρ := by
  intro y sl' hy
  rw [List.lookup_cons] at hy
  by_cases hyx : y = x
  · subst hyx
    simp only [beq_self_eq_true] at hy
    rw [h]; exact hy
  · have : (y == x) = false := by simpa using hyx
    simp only [this] at hy
    exact hs y sl' hy
-- what a turn of a loop leaves 
def turnR (I : Nat → List (Addr × List Dat) → List (Str × Slot) → Prop) (n : Nat) (Φ : Ot → Prop) : Ot → Prop
  | .next O ρ => ∃ m, m < n ∧ ∃ ρ₁, I m O ρ₁ ∧ Sub ρ₁ ρ
  | .cont O ρ => ∃ m, m < n ∧ ∃ ρ₁, I m O ρ₁ ∧ Sub ρ₁ ρ
  | .brk O ρ => Φ (.next O ρ)
  | .ret d => Φ (.ret d)
theorem ExS.whileX {body : List Stmt} (I : Nat → List (Addr × List Dat) → List (Str × Slot) → Prop) (n : Nat) (h0 : I n O ρ)
    (turn : ∀ n O ρ, I n O ρ → ∃ v, Tr f O ρ t v ∧ (v = false → Φ (.next O ρ)) ∧ (v = true → Ex f O ρ body (turnR I n Φ))) : ExS f O ρ (.While t body [] pos) Φ := by
  first | apply Ev.mk | apply EvS.mk | apply Tr.mk | apply EvL.mk | apply Ex.mk | apply ExS.mk | apply It.mk | skip
  intro s E st
  refine wpAny_While (codeAny_whileLoop (fun n s => ∃ O ρ, I n O ρ ∧ St f O ρ s) (fun n s ⟨O, ρ, hI, st⟩ => ?_) n ⟨O, ρ, h0, st⟩)
  obtain ⟨v, ht, hf, hb⟩ := turn n O ρ hI
  refine ht.run s _ _ st fun s' m => ?_
  cases v with
  | false => exact wpAny_execs_nil ⟨O, ρ, hf rfl, st.mv m⟩
  | true =>
    refine wpAny_mono ((hb rfl).run s' _ (st.mv m)) (fun fl s₃ x => ?_) fun _ _ x => x
    cases fl with
    | next => obtain ⟨O', ρ', ⟨m, hm, ρ₁, hI', hsub⟩, st'⟩ := x; exact ⟨m, hm, O', ρ₁, hI', st'.weak hsub⟩
    | cont => obtain ⟨O', ρ', ⟨m, hm, ρ₁, hI', hsub⟩, st'⟩ := x; exact ⟨m, hm, O', ρ₁, hI', st'.weak hsub⟩
    | brk => obtain ⟨O', ρ', hΦ, st'⟩ := x; exact ⟨O', ρ', hΦ, st'⟩
    | ret v => exact x
end
end Mine

namespace Mine

-- ## a def's contract from its body 
abbrev envM (scope : Scope) (cd : Value) (q : Str) (L fa : Addr) : Env := newEnv scope L mainGlobals (cellsFrom (L + 1) scope.names []) (q ++ ".<locals>.") (some fa) cd none builtinsNs
abbrev mkF (prog : Program) (w : World) (mg mb : Str → Option Value) (G : Heap) (A : Around) (env : Env) (outer : List Env) (V : List Addr) (s : Shared) : Fm :=
  { prog, w, mg, mb, G, A := A.deeper env, env, outer := env :: outer, V₀ := V, s₀ := s, Wc := outer.filterMap (·.frame) }
def retIs (d : Dat) : Ot → Prop
  | .ret d' => d' = d
  | _ => False
def parm (ps : List Str) (ds : List Dat) : List (Str × Slot) := ps.zip (ds.map Slot.dat)

theorem bindL_miss {kindOf : Str → Option NameKind} {x : Str} : ∀ (bs : List (Str × Value)) (m : Str → Option Value), x ∉ bs.map (·.1) → bindL kindOf bs m x = m x
  | [], _, _ => rfl
  | (n, v) :: r, m, h => by
    simp only [List.map_cons, List.mem_cons, not_or] at h
    unfold bindL
    rw [bindL_miss r _ h.2]
    split
    · simp [h.1]
    · rfl
theorem bindC_miss {kindOf : Str → Option NameKind} {x : Str} : ∀ (bs : List (Str × Value)) (m : Str → Option Value), x ∉ bs.map (·.1) → bindC kindOf bs m x = m x
  | [], _, _ => rfl
  | (n, v) :: r, m, h => by
    simp only [List.map_cons, List.mem_cons, not_or] at h
    unfold bindC
    rw [bindC_miss r _ h.2]
    split
    · rfl
    · simp [h.1]
theorem bind_hit {kindOf : Str → Option NameKind} {V : List Addr} {h : Heap} {x : Str} {sl : Slot} : ∀ (ps : List Str) (vs : List Value) (ds : List Dat) (m m' : Str → Option Value), ps.Nodup → HasL V h vs ds → (parm ps ds).lookup x = some sl →
    ∃ v, SlotIs V h sl v ∧ (kindOf x = some .local → bindL kindOf (ps.zip vs) m x = some v) ∧ (kindOf x ≠ some .local → bindC kindOf (ps.zip vs) m' x = some v)
  | [], _, _, _, _, _, _, hl => by simp [parm] at hl
  | p :: ps, [], _, _, _, _, hv, hl => by cases hv; simp [parm] at hl
  | p :: ps, v :: vs, [], _, _, _, hv, hl => by cases hv
  | p :: ps, v :: vs, d :: ds, m, m', hn, hv, hl => by
    obtain ⟨hp, hn⟩ := List.nodup_cons.mp hn
    cases hv with
    | cons hd hr =>
      unfold parm at hl
      simp only [List.map_cons, List.zip_cons_cons, List.lookup_cons] at hl
      by_cases hx : x = p
      · subst hx
        simp only [beq_self_eq_true] at hl
        cases hl
        have miss : x ∉ (ps.zip vs).map (·.1) := fun q => by
          obtain ⟨y, hy, rfl⟩ := List.mem_map.mp q
          exact hp (List.of_mem_zip hy).1
        refine ⟨v, hd, fun hk => ?_, fun hk => ?_⟩
        · simp only [List.zip_cons_cons, bindL, if_pos hk, bindL_miss _ _ miss]; simp
        · simp only [List.zip_cons_cons, bindC, if_neg hk, bindC_miss _ _ miss]; simp
      · have hb : (x == p) = false := by simpa using hx
        simp only [hb] at hl
        simp only [List.zip_cons_cons, bindL, bindC]
        exact bind_hit ps vs ds _ _ hn hr hl

theorem lookup_parm {ps : List Str} {ds : List Dat} {x : Str} {sl : Slot} (h : (parm ps ds).lookup x = some sl) : x ∈ ps := by
  have := mem_of_lookup h
  exact (List.of_mem_zip this).1

theorem Con.of_def {prog : Program} {w : World} {mg mb : Str → Option Value} {G : Heap} {lvl : Nat} {fa : Addr} {o : Obj} {fd : FuncData} {body : List Stmt} {R : List Dat → Dat → Prop} (ps : List Str)
    (ho : G.get? fa = some o) (hdata : o.data = .func fd) (hcd : G.CodeRec fd.code fd.qualname) (hbody : fd.body = .stmts body) (hclo : fd.closure = []) (hgl : fd.globals = mainGlobals) (hbi : fd.builtins = builtinsNs)
    (hbind : ∀ vs : List Value, vs.length = ps.length → bindArgs fd ⟨vs, []⟩ = pure (ps.zip vs)) (hnd : ps.Nodup)
    (hkind : ps.all (fun p => fd.scope.names.lookup p == some .local || fd.scope.names.lookup p == some .cell) = true)
    (hR : ∀ ds d, R ds d → ds.length = ps.length) (hlvl : 1 ≤ lvl)
    (hco : fd.scope.isCoroutine = false) (hgen : fd.scope.isGenerator = false) (hk : fd.scope.kind = .function)
    (h : ∀ (A : Around) (L : Addr) (outer : List Env) (V : List Addr) (s : Shared), A.depth + lvl < recursionLimit → A.units + 40 * lvl + 100 < cLine → ∀ ds d, R ds d →
      Ex (mkF prog w mg mb G A (envM fd.scope fd.code fd.qualname L fa) outer V s) [] (parm ps ds) body (retIs d)) : Con prog w mg mb G lvl fa R := by
  intro A outer V s vs ds d Q E pre hv hr k
  have hlen : vs.length = ps.length := hv.length.trans (hR ds d hr)
  have hkd : ∀ x ∈ ps, fd.scope.names.lookup x = some .local ∨ fd.scope.names.lookup x = some .cell := fun x hx => by
    have := List.all_eq_true.mp hkind x hx
    simpa using this
  have hce : ∀ (n : Nat) (x : Str), fd.scope.names.lookup x = some .cell → ((cellsFrom n fd.scope.names []).lookup x).isSome = true := fun n x hx => cellsFrom_some _ _ _ (.inl hx)
  refine wpAny_call (codeAny_call_cells (binds := ps.zip vs) (by have := pre.dep; omega) (pre.bel.stays _ _ ho) hdata (pre.bas.lim.keeps pre.bel.stays) (hcd.keeps pre.bel.stays) hbody (hbind vs hlen) hclo
    (fun x hx => (hkd x.1 (List.of_mem_zip hx).1).imp id fun q => ⟨q, hce _ _ q⟩) (fun s₁ IC => ?_) hco hgen hk)
  have henv : callEnvC fd s.heap.objs.size fa = envM fd.scope fd.code fd.qualname s.heap.objs.size fa := by
    unfold callEnvC envM; rw [hgl, hbi]
  rw [henv] at IC ⊢
  generalize hE : envM fd.scope fd.code fd.qualname s.heap.objs.size fa = env at IC ⊢
  have hloc : env.locals = s.heap.objs.size := by rw [← hE]; rfl
  have hfr : env.frame = some s.heap.objs.size := by rw [← hE]; rfl
  have hsc : env.scope = fd.scope := by rw [← hE]; rfl
  have hcl : env.cells = cellsFrom (s.heap.objs.size + 1) fd.scope.names [] := by rw [← hE]; rfl
  have hkk : ∀ x, env.kindOf x = fd.scope.names.lookup x := fun x => by show env.scope.names.lookup x = _; rw [hsc]
  have noG : G.get? s.heap.objs.size = none := pre.bel.stays.fresh
  obtain ⟨oL, es, ep, eL, dL, rL⟩ := id IC.toInCall.ns
  rw [hloc] at eL
  have keep := IC.toInCall.keep
  obtain ⟨h1, tk1, e1⟩ := IC.toInCall.same
  have mv1 : Mv G (outer.filterMap (·.frame)) s s₁ := by
    rw [e1]
    refine Mv.of_keep fun b o e => ?_
    have := keep b o e
    rw [e1] at this
    exact this
  have ex := h A s.heap.objs.size outer V s pre.dep pre.uni ds d hr
  rw [hE] at ex
  have st : St (mkF prog w mg mb G A env outer V s) [] (parm ps ds) s₁ := by
    refine { ok := ⟨pre.hh, by rw [hsc]; exact hk, by rw [← hE]; rfl, by rw [← hE]; rfl, pre.bas, pre.bel.stays, by rw [hloc]; exact Nat.le_refl _, IC.apart, fun _ n c hc => by have := IC.above n c hc; rw [hloc] at this; exact Nat.le_of_lt this, fun a ha => ?_⟩,
             bel := ⟨trivial, fun b o e => keep b o (pre.bel.stays b o e), ?_⟩, frm := mv1, loc := ⟨_, IC.toInCall.ns⟩, cel := fun n c hc => ⟨_, IC.cell n c hc⟩, vars := fun x sl hx => ?_, own := fun p hp => (nomatch hp), nod := List.nodup_nil, fO := fun p hp => (nomatch hp),
             v0 := fun a ha => let ⟨o, e⟩ := pre.v0 a ha; ⟨o, keep a o e⟩, frD := fun a ha => ?_, kep := fun p hp => (nomatch hp), dat := fun p hp => (nomatch hp), oV := fun p hp => (nomatch hp), tab := mv1.tabs pre.tab }
    · have : (env :: outer).filterMap (·.frame) = s.heap.objs.size :: outer.filterMap (·.frame) := by simp [List.filterMap_cons, hfr]
      rw [show (mkF prog w mg mb G A env outer V s).W = (env :: outer).filterMap (·.frame) from rfl, this] at ha
      rcases List.mem_cons.mp ha with rfl | ha
      · exact .inr (Nat.le_refl _)
      · exact .inl ha
    · refine ⟨by rw [hsc, hk]; decide, ⟨s.heap.objs.size, oL, hfr, noG, eL, fun vs q => by rw [dL] at q; cases q⟩, pre.bel.frames.of_keeps fun b o e _ => ⟨o, keep b o e, rfl⟩⟩
    · obtain ⟨v, hv1, hv2, hv3⟩ := bind_hit (kindOf := env.kindOf) ps vs ds (fun _ => none) (fun _ => none) hnd hv hx
      have hmem := lookup_parm hx
      refine ⟨v, ?_, hv1.keep mv1.dkeep⟩
      rcases hkd x hmem with q | q
      · exact .inl ⟨by rw [hkk]; exact q, _, IC.toInCall.ns, hv2 (by rw [hkk]; exact q)⟩
      · refine .inr ⟨.inl (by rw [hkk]; exact q), ?_⟩
        obtain ⟨c, hc⟩ := Option.isSome_iff_exists.mp (hce (s.heap.objs.size + 1) x q)
        have hc' : env.cells.lookup x = some c := by rw [hcl]; exact hc
        refine ⟨c, hc', ?_⟩
        have := IC.cell x c hc'
        rw [hv3 (by rw [hkk, q]; decide)] at this
        exact this
    · have : (env :: outer).filterMap (·.frame) = s.heap.objs.size :: outer.filterMap (·.frame) := by simp [List.filterMap_cons, hfr]
      rw [show (mkF prog w mg mb G A env outer V s).W = (env :: outer).filterMap (·.frame) from rfl, this] at ha
      rcases List.mem_cons.mp ha with rfl | ha
      · exact ⟨oL, es, ep, eL, dL⟩
      · obtain ⟨o, es', ep', e, d'⟩ := pre.frD a ha
        exact ⟨o, es', ep', keep a o e, d'⟩
  refine wpAny_mono (ex.run s₁ _ st) (fun fl s' hq => ?_) fun _ _ x => x
  cases fl with
  | next => obtain ⟨_, _, hf, _⟩ := hq; exact absurd hf id
  | brk => obtain ⟨_, _, hf, _⟩ := hq; exact absurd hf id
  | cont => obtain ⟨_, _, hf, _⟩ := hq; exact absurd hf id
  | ret v =>
    obtain ⟨d', hd', hv', hm'⟩ := hq
    have : d' = d := hd'
    subst this
    exact k v s' hm' hv'

end Mine

namespace Mine
theorem boot_len : bootBuiltins (Str.ofString "len") = some (.builtin "len") := by decide +kernel
theorem boot_chr : bootBuiltins (Str.ofString "chr") = some (.builtin "chr") := by decide +kernel
theorem boot_range : bootBuiltins (Str.ofString "range") = some (.type "range") := by decide +kernel
theorem boot_zip : bootBuiltins (Str.ofString "zip") = some (.type "zip") := by decide +kernel
theorem boot_enumerate : bootBuiltins (Str.ofString "enumerate") = some (.type "enumerate") := by decide +kernel
theorem boot_sum : bootBuiltins (Str.ofString "sum") = some (.builtin "sum") := by decide +kernel
theorem boot_list : bootBuiltins (Str.ofString "list") = some (.type "list") := by decide +kernel
theorem boot_str : bootBuiltins (Str.ofString "str") = some (.type "str") := by decide +kernel
theorem boot_iter : bootBuiltins (Str.ofString "iter") = some (.builtin "iter") := by decide +kernel
theorem boot_next : bootBuiltins (Str.ofString "next") = some (.builtin "next") := by decide +kernel

section
variable {f : Fm} {O : List (Addr × List Dat)} {ρ : List (Str × Slot)} {e : Expr} {i : Int} {rest : List Stmt} {Φ : Ot → Prop} {ds : List Dat} {d : Dat}
theorem thenN (h : Ex f O ρ rest Φ) : thenR f rest Φ (.next O ρ) := h
theorem EvP.no : EvP f O ρ Option.none Option.none := True.intro
theorem EvP.yes (h : Ev f O ρ e (.int i)) : EvP f O ρ (some e) (some i) := h
theorem OpN.lenStr {x : Str} (hx : x.length ≤ sizeLine) : OpN f O ρ (fun vs => call (.builtin "len") vs) [.str x] (.int x.length) := by
  intro s vs Q E st hv k
  cases hv with
  | cons h1 h2 =>
    cases h2; cases h1
    rw [sizeLine_eq] at hx
    exact P.len_str (by omega) (k _ _ (.toks _) (.int _ _))
theorem OpN.lenList (hx : ds.length ≤ sizeLine) : OpN f O ρ (fun vs => call (.builtin "len") vs) [.list ds] (.int ds.length) := by
  intro s vs Q E st hv k
  cases hv with
  | cons h1 h2 =>
    cases h2
    cases h1 with
    | list i1 n1 hl =>
      rw [sizeLine_eq] at hx
      refine PySem.Calls.call_len_list i1.isList (by simp [hl.length]; omega) ?_
      rw [List.size_toArray, hl.length]
      exact k _ _ (.toks _) (.int _ _)
theorem OpN.chr {n : Int} (h0 : 0 ≤ n) (h1 : n ≤ 0x10FFFF) : OpN f O ρ (fun vs => call (.builtin "chr") vs) [.int n] (.str (S [n.toNat])) := by
  intro s vs Q E st hv k
  cases hv with
  | cons h1 h2 =>
    cases h2; cases h1
    exact P.chr_of_int (by simp; omega) (k _ _ (.toks _) (.str _ _))

theorem sl_upto {α : Type} (l : List α) (n : Nat) : sl l none (some (n : Int)) = l.take n := by
  simp only [sl, Option.elim, clipAt_nat, List.drop_zero, Nat.sub_zero]
  rcases Nat.le_total n l.length with h | h
  · rw [Nat.min_eq_left h]
  · rw [Nat.min_eq_right h, List.take_of_length_le (Nat.le_refl _), List.take_of_length_le h]
theorem sl_from {α : Type} (l : List α) (n : Nat) : sl l (some (n : Int)) none = l.drop n := by
  simp only [sl, Option.elim, clipAt_nat]
  rcases Nat.le_total n l.length with h | h
  · rw [Nat.min_eq_left h, List.take_of_length_le (by simp)]
  · rw [Nat.min_eq_right h, List.drop_of_length_le (by omega), List.drop_of_length_le (by omega)]; simp
theorem sl_run {α : Type} (l : List α) (m n : Nat) (h : m ≤ n) : sl l (some (m : Int)) (some (n : Int)) = (l.drop m).take (n - m) := by
  simp only [sl, Option.elim, clipAt_nat]
  rcases Nat.le_total m l.length with h1 | h1
  · rw [Nat.min_eq_left h1]
    rcases Nat.le_total n l.length with h2 | h2
    · rw [Nat.min_eq_left h2]
    · rw [Nat.min_eq_right h2, List.take_of_length_le (by simp), List.take_of_length_le (by simp; omega)]
  · rw [Nat.min_eq_right h1, List.drop_of_length_le (by omega), List.drop_of_length_le (by omega)]; simp
end

-- ### parse257 
def scan : List Nat → List Nat
  | [] => []
  | c :: r => if c = 34 then (match r with | d :: r' => if d = 34 then 34 :: scan r' else [] | [] => []) else c :: scan r
theorem scan_nil : scan [] = [] := by simp [scan]
theorem scan_qq (r : List Nat) : scan (34 :: 34 :: r) = 34 :: scan r := by simp [scan]
theorem scan_q (r : List Nat) (h : r.head? ≠ some 34) : scan (34 :: r) = [] := by
  cases r with
  | nil => simp [scan]
  | cons d r =>
    have : ¬ d = 34 := fun e => h (by simp [e])
    simp [scan, this]
theorem scan_ne {c : Nat} (r : List Nat) (h : ¬ c = 34) : scan (c :: r) = c :: scan r := by
  cases r <;> simp [scan, h]
def p257 (l : List Nat) : List Nat := if (l.drop 3).take 2 = [32, 34] then scan (l.drop 5) else []
def R257 (ds : List Dat) (d : Dat) : Prop := ∃ l : List Nat, ds = [.str (S l)] ∧ l.length ≤ 1000000 ∧ l.take 3 = [50, 53, 55] ∧ d = .str (S (p257 l))
-- what the loop has read at place i 
def Inv257 (l : List Nat) (k : Nat) (O : List (Addr × List Dat)) (ρ : List (Str × Slot)) : Prop :=
  O = [] ∧ ∃ (i : Nat) (acc : List Nat), i ≤ l.length ∧ k = l.length - i ∧ acc.length ≤ i ∧ acc ++ scan (l.drop i) = scan (l.drop 5) ∧
    ρ = [(Str.ofString "resp", .dat (.str (S l))), (Str.ofString "dirname", .dat (.str (S acc))), (Str.ofString "i", .dat (.int i)), (Str.ofString "n", .dat (.int l.length))]
end Mine

namespace Mine

-- ## iterators 
structure Itr (prog : Program) (w : World) (A : Around) (V : List Addr) (it : Value) (tgt : Expr) (vs : List Value) (es ds : List Dat) (J : Nat → Heap → Prop) (fp wr : List Addr) : Prop where
  sub : ∀ b ∈ wr, b ∈ fp
  frame : ∀ i h h', J i h → (∀ b ∈ fp, ∀ o, h.get? b = some o → h'.get? b = some o) → J i h'
  fpOk : ∀ i h, J i h → ∀ b ∈ fp, ∀ o, h.get? b = some o → KeepOk o
  ex : ∀ i h, J i h → ∀ b ∈ fp, ∃ o, h.get? b = some o
  item : ∀ (i : Nat) (d : Dat) (s : Shared) (Q : Value → Shared → Prop) (E : Value → Shared → Prop), ds[i]? = some d → J i s.heap → HasL V s.heap vs es → (∀ a ∈ V, ∃ o, s.heap.get? a = some o) →
    (∀ v h' tk, J (i + 1) h' → Has V h' v d → (∀ b o, b ∉ wr → s.heap.get? b = some o → h'.get? b = some o) → Q v { s with heap := h', toks := tk }) →
    wpAny (model prog w) A (pyNext it) (fun r s₁ => ∃ v, r = some v ∧ wpAny (model prog w) A (letOwnedTupleGo tgt it v) (fun _ s₂ => Q v s₂) E s₁) E s
  done : ∀ (s : Shared) (Q : Shared → Prop) (E : Value → Shared → Prop), J ds.length s.heap →
    (∀ h' tk, (∀ b o, b ∉ wr → s.heap.get? b = some o → h'.get? b = some o) → Q { s with heap := h', toks := tk }) → wpAny (model prog w) A (pyNext it) (fun r s₁ => r = none ∧ Q s₁) E s
  self : ∀ i (s : Shared) (Q : Value → Shared → Prop) (E : Value → Shared → Prop), J i s.heap → Q it s → wpAny (model prog w) A (pyIter it) Q E s


abbrev withF (f : Fm) (V : List Addr) (K : List (Addr × Obj)) (D : List (List Value × List Dat)) : Fm := { f with V₀ := V, K := K, D := D }

section
variable {f : Fm} {O : List (Addr × List Dat)} {ρ : List (Str × Slot)} {s : Shared} {wr fp V V' : List Addr} {K K' : List (Addr × Obj)} {D D' : List (List Value × List Dat)} {h' : Heap} {tk : Nat}

-- objects that are none of the frame's are made anew 
theorem St.foreign (st : St (withF f V K D) O ρ s) (hlo : ∀ b ∈ wr, f.s₀.heap.objs.size ≤ b) (hwV : ∀ b ∈ wr, b ∈ V) (hV : ∀ a ∈ V', a ∈ V) (hex : ∀ a ∈ V', ∃ o, h'.get? a = some o) (hD : ∀ p ∈ D', p ∈ D)
    (hK : ∀ p ∈ K', h'.get? p.1 = some p.2 ∧ KeepOk p.2 ∧ p.1 ∉ O.map (·.1)) (hdat : ∀ b ∈ wr, ∀ o, s.heap.get? b = some o → KeepOk o)
    (k : ∀ b o, b ∉ wr → s.heap.get? b = some o → h'.get? b = some o) : St (withF f V' K' D') O ρ { s with heap := h', toks := tk } := by
  have nd : ∀ b o, s.heap.get? b = some o → ¬ KeepOk o → b ∉ wr := fun b o e hk hb => hk (hdat b hb o e)
  have ndict : ∀ o : Obj, ∀ es ep, o.data = .dict es ep → ¬ KeepOk o := fun o es ep e hk => hk.1 _ _ e
  have ncell : ∀ o : Obj, ∀ v, o.data = .cell v → ¬ KeepOk o := fun o v e hk => hk.2.1 _ e
  have ntab : ∀ o : Obj, tabB o = true → ¬ KeepOk o := fun o e hk => by rw [hk.2.2.1] at e; cases e
  have notV : ∀ a, a ∉ O.map (·.1) ++ V → a ∉ wr ∧ a ∉ O.map (·.1) ++ V' := fun a ha => ⟨fun hw => ha (List.mem_append.mpr (.inr (hwV a hw))), fun h => ha (by
    rcases List.mem_append.mp h with h | h
    · exact List.mem_append.mpr (.inl h)
    · exact List.mem_append.mpr (.inr (hV a h)))⟩
  have dk : DKeep (O.map (·.1) ++ V) (O.map (·.1) ++ V') s.heap h' :=
    ⟨fun a items ha ⟨o, e, r⟩ => ⟨⟨o, k a o (notV a ha).1 e, r⟩, (notV a ha).2⟩, fun a items ha ⟨n, e⟩ => ⟨⟨n, k a _ (notV a ha).1 e⟩, (notV a ha).2⟩⟩
  have ck : CKeep s.heap h' := fun c o vs e x y => ⟨o, k c o (nd c o e fun hk => hk.2.2.2 vs y x) e, x, y⟩
  have frm : Mv f.G f.Wc f.s₀ { s with heap := h', toks := tk } := by
    obtain ⟨⟨h1, t1, g1, e1, c1⟩, g, kk⟩ := st.frm
    refine ⟨⟨h', tk, g1, by rw [e1], c1⟩, g, fun b o e => ?_⟩
    have q := kk b o e
    split
    · rename_i hb
      rw [if_pos hb] at q
      obtain ⟨o', e', c1, c2⟩ := q
      exact ⟨o', k b _ (fun hb => absurd (Heap.lt_size e) (Nat.not_lt.mpr (hlo b hb))) e', c1, fun q => (c2 q).up ck⟩
    rename_i hb
    rw [if_neg hb] at q
    obtain ⟨sl, e', c⟩ := q
    exact ⟨sl, k b _ (fun hb => absurd (Heap.lt_size e) (Nat.not_lt.mpr (hlo b hb))) e', c⟩
  have kV : ∀ x v, VarIs f.env s.heap x v → VarIs f.env h' x v := by
    rintro x v (⟨h1, m, ⟨o, es, ep, e, d, r⟩, h3⟩ | ⟨h1, c, h2, ⟨o, e, d⟩⟩)
    · exact .inl ⟨h1, m, ⟨o, es, ep, k _ _ (nd _ _ e (ndict _ _ _ d)) e, d, r⟩, h3⟩
    · exact .inr ⟨h1, c, h2, ⟨o, k _ _ (nd _ _ e (ncell _ _ d)) e, d⟩⟩
  have ok : (withF f V' K' D').Ok := { st.ok with }
  refine { ok := ok, bel := ⟨st.bel.stack, fun b o e => k b o (fun hb => ?_) (st.bel.stays b o e), ?_⟩, frm := frm, loc := ?_, cel := fun n c hc => ?_, vars := fun y sl hy => ?_, own := fun p hp => ?_, nod := st.nod, fO := st.fO, v0 := hex, frD := fun a ha => ?_, kep := hK,
           dat := fun p hp => (st.dat p (hD p hp)).keep dk, oV := fun p hp h => st.oV p hp (hV _ h), tab := fun P hP => by
             obtain ⟨op, e, ok⟩ := st.tab P hP
             exact ⟨op, k P op (nd _ _ e (ntab _ ok.b)) e, ok.up ck⟩ }
  · have := ok.notG (hlo b hb)
    rw [this] at e; cases e
  · have go : ∀ l : List Env, (∀ a ∈ l.filterMap (·.frame), ∃ o es ep, s.heap.get? a = some o ∧ o.data = .dict es ep) → s.heap.FunFrames f.G l → h'.FunFrames f.G l := by
      intro l
      induction l with
      | nil => intro _ _; trivial
      | cons env r ih =>
        rintro hd ⟨hk, ⟨L, o, hf, hn, ho, hdd⟩, hr⟩
        have hL : L ∈ (env :: r).filterMap (·.frame) := by rw [List.filterMap_cons, hf]; exact List.mem_cons_self
        obtain ⟨o', es, ep, e', d'⟩ := hd L hL
        refine ⟨hk, ⟨L, o, hf, hn, k _ _ (nd _ _ e' (ndict _ _ _ d')) ho, hdd⟩, ih (fun a ha => hd a ?_) hr⟩
        rw [List.filterMap_cons, hf]; exact List.mem_cons_of_mem _ ha
    exact go _ st.frD st.bel.frames
  · obtain ⟨m, o, es, ep, e, d, r⟩ := st.loc
    exact ⟨m, o, es, ep, k _ _ (nd _ _ e (ndict _ _ _ d)) e, d, r⟩
  · obtain ⟨v, o, e, d⟩ := st.cel n c hc
    exact ⟨v, o, k _ _ (nd _ _ e (ncell _ _ d)) e, d⟩
  · obtain ⟨v, h1, h2⟩ := st.vars y sl hy
    exact ⟨v, kV y v h1, h2.keep dk⟩
  · obtain ⟨vs, ⟨n, e⟩, h2⟩ := st.own p hp
    exact ⟨vs, ⟨n, k _ _ (fun hb => st.oV p hp (hwV _ hb)) e⟩, h2.keep dk⟩
  · obtain ⟨o, es, ep, e, d⟩ := st.frD a ha
    exact ⟨o, es, ep, k _ _ (nd _ _ e (ndict _ _ _ d)) e, d⟩

-- more addresses that may turn, more that is kept 
theorem St.enter (st : St f O ρ s) {s₀ : Shared} (h0 : St f O ρ s₀) (m : Mv f.G f.W s₀ s) (hlo : ∀ b ∈ wr, s₀.heap.objs.size ≤ b) (hex : ∀ a ∈ wr, ∃ o, s.heap.get? a = some o) (hK : ∀ p ∈ K, s.heap.get? p.1 = some p.2 ∧ KeepOk p.2 ∧ p.1 ∉ O.map (·.1)) {vs : List Value} {es : List Dat} (hd : HasL (f.V O) s₀.heap vs es) :
    St (withF f (wr ++ f.V₀) (K ++ f.K) ((vs, es) :: f.D)) O ρ s := by
  have nw : ∀ a o, s₀.heap.get? a = some o → a ∉ wr := fun a o e hw => absurd (Heap.lt_size e) (Nat.not_lt.mpr (hlo a hw))
  have dk : DKeep (f.V O) (O.map (·.1) ++ (wr ++ f.V₀)) s₀.heap s.heap := by
    have d0 := m.dkeep (V := f.V O)
    have nv : ∀ a, a ∉ f.V O → a ∉ wr → a ∉ O.map (·.1) ++ (wr ++ f.V₀) := fun a h1 h2 h => by
      rcases List.mem_append.mp h with h | h
      · exact h1 (List.mem_append.mpr (.inl h))
      · rcases List.mem_append.mp h with h | h
        · exact h2 h
        · exact h1 (List.mem_append.mpr (.inr h))
    refine ⟨fun a items ha hi => ⟨(d0.1 a items ha hi).1, ?_⟩, fun a items ha hi => ⟨(d0.2 a items ha hi).1, ?_⟩⟩
    · obtain ⟨o, e, _⟩ := hi
      exact nv a ha (nw a o e)
    · obtain ⟨n, e⟩ := hi
      exact nv a ha (nw a _ e)
  refine { ok := { st.ok with }, bel := st.bel, frm := st.frm, loc := st.loc, cel := st.cel, vars := fun y sl hy => ?_, own := fun p hp => ?_, nod := st.nod, fO := st.fO, v0 := fun a ha => ?_, frD := st.frD, kep := fun p hp => ?_, dat := fun p hp => ?_, oV := fun p hp h => ?_, tab := st.tab }
  · obtain ⟨v, h1, h2⟩ := h0.vars y sl hy
    exact ⟨v, h1.mv m, h2.keep dk⟩
  · obtain ⟨us, h1, h2⟩ := h0.own p hp
    exact ⟨us, h1.mv m, h2.keep dk⟩
  · rcases List.mem_append.mp ha with ha | ha
    · exact hex a ha
    · exact st.v0 a ha
  · rcases List.mem_append.mp hp with hp | hp
    · exact hK p hp
    · exact st.kep p hp
  · rcases List.mem_append.mp h with h | h
    · obtain ⟨us, ⟨n, e⟩, _⟩ := h0.own p hp
      exact nw _ _ e h
    · exact st.oV p hp h
  · rcases List.mem_cons.mp hp with rfl | hp
    · exact hd.keep dk
    · exact (h0.dat p hp).keep dk

-- the iterator of an expression 
@[irreducible] def It (f : Fm) (O : List (Addr × List Dat)) (ρ : List (Str × Slot)) (iter tgt : Expr) (ds : List Dat) : Prop :=
  ∀ (s : Shared) (Q : Value → Shared → Prop) (E : Value → Shared → Prop), St f O ρ s →
    (∀ it s₁ s' vs es J fp wr, Mv f.G f.W s s₁ → Mv f.G f.W s₁ s' → HasL (f.V O) s₁.heap vs es → (∀ V, (∀ b ∈ wr, b ∈ V) → Itr f.prog f.w f.A V it tgt vs es ds J fp wr) → J 0 s'.heap → (∀ b ∈ wr, s₁.heap.objs.size ≤ b) →
      (∀ b ∈ fp, b ∉ O.map (·.1)) → s₁.heap.objs.size ≤ s'.heap.objs.size → Q it s') → wpAny f.M f.A (eval iter f.env) (fun x s₁ => wpAny f.M f.A (pyIter x) Q E s₁) E s
theorem It.mk {f : Fm} {O : List (Addr × List Dat)} {ρ : List (Str × Slot)} {iter tgt : Expr} {ds : List Dat} (h : ∀ (s : Shared) (Q : Value → Shared → Prop) (E : Value → Shared → Prop), St f O ρ s → (∀ it s₁ s' vs es J fp wr, Mv f.G f.W s s₁ → Mv f.G f.W s₁ s' → HasL (f.V O) s₁.heap vs es → (∀ V, (∀ b ∈ wr, b ∈ V) → Itr f.prog f.w f.A V it tgt vs es ds J fp wr) → J 0 s'.heap → (∀ b ∈ wr, s₁.heap.objs.size ≤ b) → (∀ b ∈ fp, b ∉ O.map (·.1)) → s₁.heap.objs.size ≤ s'.heap.objs.size → Q it s') → wpAny f.M f.A (eval iter f.env) (fun x s₁ => wpAny f.M f.A (pyIter x) Q E s₁) E s) : It f O ρ iter tgt ds := by
  unfold It; exact h
theorem It.run {f : Fm} {O : List (Addr × List Dat)} {ρ : List (Str × Slot)} {iter tgt : Expr} {ds : List Dat} (h : It f O ρ iter tgt ds) : ∀ (s : Shared) (Q : Value → Shared → Prop) (E : Value → Shared → Prop), St f O ρ s → (∀ it s₁ s' vs es J fp wr, Mv f.G f.W s s₁ → Mv f.G f.W s₁ s' → HasL (f.V O) s₁.heap vs es → (∀ V, (∀ b ∈ wr, b ∈ V) → Itr f.prog f.w f.A V it tgt vs es ds J fp wr) → J 0 s'.heap → (∀ b ∈ wr, s₁.heap.objs.size ≤ b) → (∀ b ∈ fp, b ∉ O.map (·.1)) → s₁.heap.objs.size ≤ s'.heap.objs.size → Q it s') → wpAny f.M f.A (eval iter f.env) (fun x s₁ => wpAny f.M f.A (pyIter x) Q E s₁) E s := by
  unfold It at h; exact h

-- the objects of a heap at some places 
def objsAt (h : Heap) (l : List Addr) : List (Addr × Obj) := l.filterMap fun a => (h.get? a).map fun o => (a, o)
theorem objsAt_mem {h : Heap} {l : List Addr} {p : Addr × Obj} (x : p ∈ objsAt h l) : p.1 ∈ l ∧ h.get? p.1 = some p.2 := by
  obtain ⟨a, ha, e⟩ := List.mem_filterMap.mp x
  obtain ⟨o, ho, rfl⟩ := Option.map_eq_some_iff.mp e
  exact ⟨ha, ho⟩
theorem mem_objsAt {h : Heap} {l : List Addr} {a : Addr} {o : Obj} (ha : a ∈ l) (e : h.get? a = some o) : (a, o) ∈ objsAt h l := List.mem_filterMap.mpr ⟨a, ha, by rw [e]; rfl⟩
end
end Mine

namespace Mine

-- a target takes a datum 
def As (f : Fm) (O : List (Addr × List Dat)) (ρ : List (Str × Slot)) (tgt : Expr) (d : Dat) (ρ' : List (Str × Slot)) : Prop :=
  ∀ (s : Shared) (v : Value) (Q : Unit → Shared → Prop) (E : Value → Shared → Prop), St f O ρ s → Has (f.V O) s.heap v d → (∀ s', St f O ρ' s' → Q () s') → wpAny f.M f.A (assign tgt f.env v) Q E s
def forR (I : Nat → List (Addr × List Dat) → List (Str × Slot) → Prop) (i : Nat) (Φ : Ot → Prop) : Ot → Prop
  | .next O ρ => ∃ ρ₁, I (i + 1) O ρ₁ ∧ Sub ρ₁ ρ
  | .cont O ρ => ∃ ρ₁, I (i + 1) O ρ₁ ∧ Sub ρ₁ ρ
  | .brk O ρ => Φ (.next O ρ)
  | .ret d => Φ (.ret d)

section
variable {f : Fm} {O : List (Addr × List Dat)} {ρ : List (Str × Slot)} {iter tgt : Expr} {pos : Pos} {ds : List Dat} {d : Dat} {Φ : Ot → Prop} {body : List Stmt}

theorem As.name {x : Str} (hk : Binds f x) : As f O ρ (.Name x pos) d (put ρ x (.dat d)) := by
  intro s v Q E st hv k
  exact wpAny_assign_Name (St.bind (sl := .dat d) st hk hv fun s' st' => k s' st')

-- the frame of the loop is left 
theorem St.drop {s : Shared} {V : List Addr} {K : List (Addr × Obj)} {D : List (List Value × List Dat)} (hK : ∀ p ∈ f.K, p ∈ K) (hV : ∀ a ∈ f.V₀, a ∈ V) (hD : ∀ p ∈ f.D, p ∈ D) (st : St (withF f V K D) O ρ s) : St f O ρ s :=
  St.foreign (f := f) (V' := f.V₀) (K' := f.K) (D' := f.D) (wr := []) (h' := s.heap) (tk := s.toks) st (fun _ h => nomatch h) (fun _ h => nomatch h) hV (fun a ha => st.v0 a (hV a ha)) hD (fun p hp => st.kep p (hK p hp)) (fun _ h => nomatch h) fun _ _ _ e => e

theorem Out.drop {V : List Addr} {K : List (Addr × Obj)} {D : List (List Value × List Dat)} {fl : Flow} {s : Shared} (hK : ∀ p ∈ f.K, p ∈ K) (hV : ∀ a ∈ f.V₀, a ∈ V) (hD : ∀ p ∈ f.D, p ∈ D) (h : Out (withF f V K D) Φ fl s) : Out f Φ fl s := by
  cases fl with
  | next => obtain ⟨O', ρ', a, b⟩ := h; exact ⟨O', ρ', a, b.drop hK hV hD⟩
  | brk => obtain ⟨O', ρ', a, b⟩ := h; exact ⟨O', ρ', a, b.drop hK hV hD⟩
  | cont => obtain ⟨O', ρ', a, b⟩ := h; exact ⟨O', ρ', a, b.drop hK hV hD⟩
  | ret v =>
    obtain ⟨d, a, b, c⟩ := h
    refine ⟨d, a, b.keep ?_, c⟩
    exact ⟨fun x items hx hi => ⟨hi, fun q => hx (hV x q)⟩, fun x items hx hi => ⟨hi, fun q => hx (hV x q)⟩⟩

theorem ExS.forX (hit : It f O ρ iter tgt ds) (I : Nat → List (Addr × List Dat) → List (Str × Slot) → Prop) (h0 : ∃ ρ₁, I 0 O ρ₁ ∧ Sub ρ₁ ρ) (hO : ∀ i O' ρ', I i O' ρ' → O'.map (·.1) = O.map (·.1))
    (turn : ∀ V K D i O' ρ' d, I i O' ρ' → ds[i]? = some d → ∃ ρ'', As (withF f V K D) O' ρ' tgt d ρ'' ∧ Ex (withF f V K D) O' ρ'' body (forR I i Φ))
    (done : ∀ O' ρ', I ds.length O' ρ' → Φ (.next O' ρ')) (hs : ∀ x, foldedSetIterable iter f.env x = pure x := by intro _; rfl) : ExS f O ρ (.For tgt iter body [] pos) Φ := by
  first | apply Ev.mk | apply EvS.mk | apply Tr.mk | apply EvL.mk | apply Ex.mk | apply ExS.mk | apply It.mk | skip
  intro s E st
  obtain ⟨ρ₁, hI0, hsub⟩ := h0
  refine wpAny_For (hit.run s _ _ st fun it s₁ s' vs es J fp wr m₁ m₂ hd ITA hJ hlo hfO hle => ?_) hs
  have IT := ITA (O.map (·.1) ++ (wr ++ f.V₀)) fun b hb => List.mem_append.mpr (.inr (List.mem_append.mpr (.inl hb)))
  have st1 := (st.mv m₁).weak hsub
  have st2 := st1.mv m₂
  have lo0 : ∀ b ∈ wr, f.s₀.heap.objs.size ≤ b := fun b hb => by
    obtain ⟨mm, nn⟩ := st1.loc
    exact Nat.le_trans (Nat.le_trans st1.ok.fL (Nat.le_of_lt nn.lt)) (hlo b hb)
  have ent : St (withF f (wr ++ f.V₀) (objsAt s'.heap fp ++ f.K) ((vs, es) :: f.D)) O ρ₁ s' :=
    st2.enter st1 m₂ hlo (fun a ha => IT.ex 0 _ hJ a (IT.sub a ha)) (fun p hp => by
      obtain ⟨h1, h2⟩ := objsAt_mem hp
      exact ⟨h2, IT.fpOk 0 _ hJ _ h1 _ h2, hfO _ h1⟩) hd
  have fKw : ∀ p ∈ f.K, p.1 ∉ wr := fun p hp hw => by
    obtain ⟨e, _, _⟩ := st1.kep p hp
    exact absurd (Heap.lt_size e) (Nat.not_lt.mpr (hlo _ hw))
  refine codeAny_forLoop_any (fun n s => ∃ i O' ρ', n = ds.length + 1 - i ∧ i ≤ ds.length ∧ I i O' ρ' ∧ J i s.heap ∧ St (withF f (wr ++ f.V₀) (objsAt s.heap fp ++ f.K) ((vs, es) :: f.D)) O' ρ' s) ?_ (ds.length + 1) ⟨0, O, ρ₁, rfl, Nat.zero_le _, hI0, hJ, ent⟩
  rintro n s₂ ⟨i, O', ρ', rfl, hi, hI, hJi, st3⟩
  have hOO := hO i O' ρ' hI
  have hVe : (withF f (wr ++ f.V₀) (objsAt s₂.heap fp ++ f.K) ((vs, es) :: f.D)).V O' = O.map (·.1) ++ (wr ++ f.V₀) := by show O'.map _ ++ _ = _; rw [hOO]
  have vex : ∀ a ∈ O.map (·.1) ++ (wr ++ f.V₀), ∃ o, s₂.heap.get? a = some o := fun a ha => by
    rcases List.mem_append.mp ha with ha | ha
    · rw [← hOO] at ha
      obtain ⟨p, hp, rfl⟩ := List.mem_map.mp ha
      obtain ⟨us, ⟨n, e⟩, _⟩ := st3.own p hp
      exact ⟨_, e⟩
    · exact st3.v0 a ha
  have KA : ∀ p ∈ f.K, p ∈ objsAt s₂.heap fp ++ f.K := fun p hp => List.mem_append.mpr (.inr hp)
  rcases Nat.lt_or_ge i ds.length with hlt | hge
  · have hd' : ds[i]? = some ds[i] := List.getElem?_eq_getElem hlt
    have hdata : HasL (O.map (·.1) ++ (wr ++ f.V₀)) s₂.heap vs es := by
      have := st3.dat (vs, es) List.mem_cons_self
      rw [hVe] at this
      exact this
    refine wpAny_mono (IT.item i ds[i] s₂ (fun v s₄ => ∃ h' tk, s₄ = { s₂ with heap := h', toks := tk } ∧ J (i + 1) h' ∧ Has (O.map (·.1) ++ (wr ++ f.V₀)) h' v ds[i] ∧ (∀ b o, b ∉ wr → s₂.heap.get? b = some o → h'.get? b = some o)) (notedBy (model f.prog f.w) f.A f.env _) hd' hJi hdata vex
      (fun v h' tk hJ' hv' hk' => ⟨h', tk, rfl, hJ', hv', hk'⟩)) (fun r s₄ hr => ?_) fun _ _ x => x
    obtain ⟨v, rfl, hr⟩ := hr
    refine wpAny_mono hr (fun _ s₅ h5 => ?_) fun _ _ x => x
    obtain ⟨h', tk, rfl, hJ', hv', hk'⟩ := h5
    have st4 : St (withF f (wr ++ f.V₀) (objsAt h' fp ++ f.K) ((vs, es) :: f.D)) O' ρ' { s₂ with heap := h', toks := tk } := by
      refine St.foreign (f := f) st3 lo0 (fun b hb => List.mem_append.mpr (.inl hb)) (fun a ha => ha) (fun a ha => ?_) (fun p hp => hp) (fun p hp => ?_) (fun b hb o e => IT.fpOk i _ hJi b (IT.sub b hb) o e) hk'
      · rcases List.mem_append.mp ha with ha | ha
        · exact IT.ex (i + 1) _ hJ' a (IT.sub a ha)
        · by_cases hw : a ∈ wr
          · exact IT.ex (i + 1) _ hJ' a (IT.sub a hw)
          · obtain ⟨o, e⟩ := st3.v0 a (List.mem_append.mpr (.inr ha))
            exact ⟨o, hk' a o hw e⟩
      · rcases List.mem_append.mp hp with hp | hp
        · obtain ⟨h1, h2⟩ := objsAt_mem hp
          refine ⟨h2, IT.fpOk (i + 1) _ hJ' _ h1 _ h2, ?_⟩
          rw [hOO]; exact hfO _ h1
        · obtain ⟨e, b, c⟩ := st3.kep p (List.mem_append.mpr (.inr hp))
          exact ⟨hk' _ _ (fKw p hp) e, b, c⟩
    obtain ⟨ρ'', has, hex⟩ := turn (wr ++ f.V₀) (objsAt h' fp ++ f.K) ((vs, es) :: f.D) i O' ρ' ds[i] hI hd'
    have hv2 : Has ((withF f (wr ++ f.V₀) (objsAt h' fp ++ f.K) ((vs, es) :: f.D)).V O') h' v ds[i] := by
      have : (withF f (wr ++ f.V₀) (objsAt h' fp ++ f.K) ((vs, es) :: f.D)).V O' = O.map (·.1) ++ (wr ++ f.V₀) := by show O'.map _ ++ _ = _; rw [hOO]
      rw [this]; exact hv'
    refine has _ v _ _ st4 hv2 fun s₆ st6 => ?_
    refine wpAny_mono (hex.run s₆ _ st6) (fun fl s₇ ho => ?_) fun _ _ x => x
    have nx : (∃ O₁ ρ₁, (∃ ρ₂, I (i + 1) O₁ ρ₂ ∧ Sub ρ₂ ρ₁) ∧ St (withF f (wr ++ f.V₀) (objsAt h' fp ++ f.K) ((vs, es) :: f.D)) O₁ ρ₁ s₇) →
        ∃ m, m < ds.length + 1 - i ∧ ∃ i O' ρ', m = ds.length + 1 - i ∧ i ≤ ds.length ∧ I i O' ρ' ∧ J i s₇.heap ∧ St (withF f (wr ++ f.V₀) (objsAt s₇.heap fp ++ f.K) ((vs, es) :: f.D)) O' ρ' s₇ := by
      rintro ⟨O₁, ρ₁, ⟨ρ₂, hI2, hs2⟩, st7⟩
      have st7' := st7.weak hs2
      have hOO1 := hO _ _ _ hI2
      have kfp : ∀ b ∈ fp, ∀ o, h'.get? b = some o → s₇.heap.get? b = some o := fun b hb o e => (st7.kep (b, o) (List.mem_append.mpr (.inl (mem_objsAt hb e)))).1
      have hJ7 : J (i + 1) s₇.heap := IT.frame _ _ _ hJ' kfp
      refine ⟨ds.length + 1 - (i + 1), by omega, i + 1, O₁, ρ₂, rfl, hlt, hI2, hJ7, ?_⟩
      refine St.foreign (f := f) (wr := []) (h' := s₇.heap) (tk := s₇.toks) st7' (fun _ h => nomatch h) (fun _ h => nomatch h) (fun a ha => ha) (fun a ha => st7.v0 a ha) (fun p hp => hp) (fun p hp => ?_) (fun _ h => nomatch h) fun _ _ _ e => e
      rcases List.mem_append.mp hp with hp | hp
      · obtain ⟨h1, h2⟩ := objsAt_mem hp
        refine ⟨h2, IT.fpOk (i + 1) _ hJ7 _ h1 _ h2, ?_⟩
        rw [hOO1]; exact hfO _ h1
      · exact st7'.kep p (List.mem_append.mpr (.inr hp))
    cases fl with
    | next => exact nx ho
    | cont => exact nx ho
    | brk =>
      obtain ⟨O₁, ρ₁, hΦ, st7⟩ := ho
      exact ⟨O₁, ρ₁, hΦ, st7.drop (fun p hp => List.mem_append.mpr (.inr hp)) (fun a ha => List.mem_append.mpr (.inr ha)) (fun p hp => List.mem_cons_of_mem _ hp)⟩
    | ret v =>
      exact Out.drop (Φ := Φ) (fl := .ret v) (fun p hp => List.mem_append.mpr (.inr hp)) (fun a ha => List.mem_append.mpr (.inr ha)) (fun p hp => List.mem_cons_of_mem _ hp) ho
  · have hie : i = ds.length := Nat.le_antisymm hi hge
    subst hie
    refine wpAny_mono (IT.done s₂ (fun s₄ => ∃ h' tk, s₄ = { s₂ with heap := h', toks := tk } ∧ ∀ b o, b ∉ wr → s₂.heap.get? b = some o → h'.get? b = some o) (notedBy (model f.prog f.w) f.A f.env _) hJi fun h' tk hk' => ⟨h', tk, rfl, hk'⟩) (fun r s₄ hr => ?_) fun _ _ x => x
    obtain ⟨rfl, h', tk, rfl, hk'⟩ := hr
    refine wpAny_execs_nil ⟨O', ρ', done O' ρ' hI, ?_⟩
    refine St.foreign (f := f) (V' := f.V₀) (K' := f.K) (D' := f.D) st3 lo0 (fun b hb => List.mem_append.mpr (.inl hb)) (fun a ha => List.mem_append.mpr (.inr ha)) (fun a ha => ?_) (fun p hp => List.mem_cons_of_mem _ hp) (fun p hp => ?_) (fun b hb o e => IT.fpOk _ _ hJi b (IT.sub b hb) o e) hk'
    · obtain ⟨o, e⟩ := st1.v0 a ha
      have hw : a ∉ wr := fun hw => absurd (Heap.lt_size e) (Nat.not_lt.mpr (hlo _ hw))
      obtain ⟨o', e'⟩ := st3.v0 a (List.mem_append.mpr (.inr ha))
      exact ⟨o', hk' a o' hw e'⟩
    · obtain ⟨e, b, c⟩ := st3.kep p (List.mem_append.mpr (.inr hp))
      exact ⟨hk' _ _ (fKw p hp) e, b, c⟩
end
end Mine

namespace Mine

-- what keeps all outside V keeps the data 
theorem HasL.out {V wr : List Addr} {h h' : Heap} {vs : List Value} {es : List Dat} (x : HasL V h vs es) (hw : ∀ b ∈ wr, b ∈ V) (k : ∀ b o, b ∉ wr → h.get? b = some o → h'.get? b = some o) : HasL V h' vs es :=
  x.keep ⟨fun a items ha ⟨o, e, r⟩ => ⟨⟨o, k a o (fun q => ha (hw a q)) e, r⟩, ha⟩, fun a items ha ⟨n, e⟩ => ⟨⟨n, k a _ (fun q => ha (hw a q)) e⟩, ha⟩⟩

theorem Itr.of_walks {prog : Program} {w : World} {A : Around} {V : List Addr} {I : Addr} {tgt : Expr} {vs : List Value} {es ds : List Dat} {fp wr : List Addr} {P : Nat → Value → Prop} {J : Nat → Heap → Prop} (W : Walks prog w A I fp wr ds.length P J) (hw : ∀ b ∈ wr, b ∈ V)
    (hP : ∀ i v d h, P i v → ds[i]? = some d → HasL V h vs es → Has V h v d) (hok : ∀ i h, J i h → ∀ b ∈ fp, ∀ o, h.get? b = some o → KeepOk o) (hex : ∀ i h, J i h → ∀ b ∈ fp, ∃ o, h.get? b = some o)
    (htg : ∀ i v (s : Shared) (Q : Unit → Shared → Prop) (E : Value → Shared → Prop), J i s.heap → Q () s → wpAny (model prog w) A (letOwnedTupleGo tgt (.ref I) v) Q E s) : Itr prog w A V (.ref I) tgt vs es ds J fp wr where
  sub := W.sub
  frame := W.frame
  fpOk := hok
  ex := hex
  item := fun i d s Q E hd hJ hv hV k => by
    have hlt : i < ds.length := (List.getElem?_eq_some_iff.mp hd).1
    refine W.item i s _ E hlt hJ fun v h' tk hPv hJ' hk => ⟨v, rfl, htg (i + 1) v _ _ _ hJ' ?_⟩
    exact k v h' tk hJ' (hP i v d h' hPv hd (hv.out hw hk)) hk
  done := fun s Q E hJ k => W.done s _ E hJ fun h' tk hk => ⟨rfl, k h' tk hk⟩
  self := W.self

theorem size_up (h : Heap) (o : Obj) : h.objs.size ≤ (h.push o).objs.size := by rw [Heap.size_push]; exact Nat.le_succ _
theorem keep_fields {o : Obj} {vs : Array Value} (h : o.data = .fields vs) {x : String} (hc : o.cls = .type x) (hx : x ≠ "code" := by decide) : KeepOk o := ⟨fun _ _ q => (by rw [h] at q; cases q), fun _ q => (by rw [h] at q; cases q), tabB_cls (by rw [hc]; exact fun q => nomatch q), fun _ _ q => hx (by rw [hc] at q; injection q)⟩
theorem keep_seq {o : Obj} {vs : Array Value} {n : Nat} (h : o.data = .seq vs n) : KeepOk o := ⟨fun _ _ q => (by rw [h] at q; cases q), fun _ q => (by rw [h] at q; cases q), tabB_data fun _ q => (by rw [h] at q; cases q), fun _ q => (by rw [h] at q; cases q)⟩

-- a target that lets no tuple go at a list's iterator 
theorem letgo_list {prog : Program} {w : World} {A : Around} {tgt : Expr} {I ax : Addr} {i : Nat} {v : Value} {s : Shared} {Q : Unit → Shared → Prop} {E : Value → Shared → Prop} (h : s.heap.IsListIter I ax i) (k : Q () s) : wpAny (model prog w) A (letOwnedTupleGo tgt (.ref I) v) Q E s := by
  obtain ⟨o, e, c, d⟩ := h
  have go : wpAny (model prog w) A (do
      let (.ref r, .ref a) := (Value.ref I, v) | return
      let o ← load r
      match o.cls, o.data with
      | .type n, .fields vs =>
        if ["enumerate", "zip", "dict_itemiterator", "dict_reverseitemiterator", "odict_iterator", "itertools.zip_longest", "itertools.pairwise"].contains n && vs[0]? == some (rawInt a) then
          rule "for.unpacks-the-owned-tuple"
          updateField r 0 .none
      | _, _ => pure ()) Q E s := by
    cases v <;> first
      | exact wpAny_pure k
      | (refine wpAny_bind (wpAny_load e ?_)
         rw [c, d]
         exact wpAny_pure k)
  cases tgt <;> first | exact wpAny_pure k | exact go

section
variable {f : Fm} {O : List (Addr × List Dat)} {ρ : List (Str × Slot)} {iter tgt e : Expr} {ds : List Dat}

theorem It.list (h : Ev f O ρ iter (.list ds)) : It f O ρ iter tgt ds := by
  first | apply Ev.mk | apply EvS.mk | apply Tr.mk | apply EvL.mk | apply Ex.mk | apply ExS.mk | apply It.mk | skip
  intro s Q E st k
  refine h.run s _ _ st fun v s₁ m₁ h₁ => ?_
  have st1 := st.mv m₁
  cases h₁ with
  | list i1 n1 hl =>
    rename_i ax vs
    have hne : ax ≠ s₁.heap.objs.size := by
      obtain ⟨n, e⟩ := i1
      exact Nat.ne_of_lt (Heap.lt_size e)
    refine wpAny_pyIter_list i1.isList ?_
    have W := Walks.list (prog := f.prog) (w := f.w) st.ok.hh s₁.heap.objs.size ax hne vs.toArray
    have hlen : vs.toArray.size = ds.length := by simp [hl.length]
    rw [hlen] at W
    refine k (.ref s₁.heap.objs.size) s₁ _ vs ds _ _ _ m₁ (.push _) hl (fun V hw => Itr.of_walks W hw (fun i v d h hv hd hh => ?_) (fun i h hJ b hb o e => ?_) (fun i h hJ b hb => ?_) fun i v s Q E hJ hQ => letgo_list hJ.1 hQ)
      ⟨⟨_, Heap.get?_push_size _ rfl, rfl, rfl⟩, (i1.at fun o e => Heap.get?_push_of_some _ e).isList⟩ (fun b hb => by rw [List.mem_singleton.mp hb]; exact Nat.le_refl _) (fun b hb hO => ?_) (size_up _ _)
    · obtain ⟨d', hd', hx⟩ := hh.getV (k := i) (by simpa using hv)
      rw [hd] at hd'; cases hd'; exact hx
    · obtain ⟨⟨oi, ei, ci, di⟩, ⟨ol, el, _, n, dl⟩⟩ := hJ
      rcases List.mem_cons.mp hb with rfl | hb
      · rw [ei] at e; cases e; exact keep_fields di ci
      · have hb' := List.mem_singleton.mp hb; rw [hb', el] at e; cases e; exact keep_seq dl
    · obtain ⟨⟨oi, ei, _, di⟩, ⟨ol, el, _⟩⟩ := hJ
      rcases List.mem_cons.mp hb with rfl | hb
      · exact ⟨_, ei⟩
      · rw [List.mem_singleton.mp hb]; exact ⟨_, el⟩
    · rcases List.mem_cons.mp hb with rfl | hb
      · exact st1.freshV (List.mem_append.mpr (.inl hO))
      · have hb' := List.mem_singleton.mp hb; subst hb'
        exact n1 (List.mem_append.mpr (.inl hO))

theorem It.str {x : List Nat} {nm : Str} {np : Pos} (h : Ev f O ρ iter (.str (S x))) : It f O ρ iter (.Name nm np) (x.map fun c => Dat.str (S [c])) := by
  first | apply Ev.mk | apply EvS.mk | apply Tr.mk | apply EvL.mk | apply Ex.mk | apply ExS.mk | apply It.mk | skip
  intro s Q E st k
  refine h.run s _ _ st fun v s₁ m₁ h₁ => ?_
  have st1 := st.mv m₁
  cases h₁
  rename_i tx
  have hlen : (S x).cps.size = (x.map fun c => Dat.str (S [c])).length := by simp [S]
  have fin : ∀ (ty : String) (ob : Obj), ty ≠ "code" → Walks f.prog f.w f.A s₁.heap.objs.size [s₁.heap.objs.size] [s₁.heap.objs.size] (S x).cps.size (SignAt (S x)) (fun i h => h.IsStrIter s₁.heap.objs.size ty (S x) tx i) → (s₁.heap.push ob).IsStrIter s₁.heap.objs.size ty (S x) tx 0 →
      Q (.ref s₁.heap.objs.size) { s₁ with heap := s₁.heap.push ob } := by
    intro ty ob hty W h0
    rw [hlen] at W
    refine k (.ref s₁.heap.objs.size) s₁ _ [] [] _ _ _ m₁ (.push _) .nil (fun V hw => Itr.of_walks W hw (fun i v d h hv hd hh => ?_) (fun i h hJ b hb o e => ?_) (fun i h hJ b hb => ?_) fun i v s Q E hJ hQ => wpAny_pure hQ)
      h0 (fun b hb => by rw [List.mem_singleton.mp hb]; exact Nat.le_refl _) (fun b hb hO => ?_) (size_up _ _)
    · obtain ⟨c, u, hc, rfl⟩ := hv
      have : d = .str (S [c]) := by
        have hc' : x[i]? = some c := by simpa [S] using hc
        rw [List.getElem?_map, hc'] at hd
        cases hd; rfl
      rw [this]; exact .str _ _
    · obtain ⟨oi, ei, ci, di⟩ := hJ
      rw [List.mem_singleton.mp hb, ei] at e; cases e; exact keep_fields di ci hty
    · obtain ⟨oi, ei, _, di⟩ := hJ
      rw [List.mem_singleton.mp hb]; exact ⟨_, ei⟩
    · rw [List.mem_singleton.mp hb] at hO
      exact st1.freshV (List.mem_append.mpr (.inl hO))
  cases ha : (S x).cps.all (· < 128)
  · exact wpAny_pyIter_wide ha (fin _ _ (by decide) (Walks.strWide st.ok.hh _ (S x) tx) ⟨_, Heap.get?_push_size _ rfl, rfl, rfl⟩)
  · exact wpAny_pyIter_ascii ha (fin _ _ (by decide) (Walks.strAscii st.ok.hh _ (S x) tx) ⟨_, Heap.get?_push_size _ rfl, rfl, rfl⟩)

-- a range from a to b 
theorem It.rangeV {a b : Int} {n : Nat} {nm : Str} {np : Pos} (hn : n = (b - a).toNat) (ha : -(2 ^ 62) ≤ a) (hb : b < 2 ^ 62) (ha' : a < 2 ^ 62) (hb' : -(2 ^ 62) ≤ b)
    (h : ∀ (s : Shared) (Q : Value → Shared → Prop) (E : Value → Shared → Prop), St f O ρ s → (∀ s₀ t u v tk, Mv f.G f.W s s₀ → Q (.ref s₀.heap.objs.size) { s₀ with heap := s₀.heap.push { cls := .type "range", data := .fields #[.int a t, .int b u, .int 1 v] }, toks := tk }) → wpAny f.M f.A (eval iter f.env) Q E s) :
    It f O ρ iter (.Name nm np) ((List.range n).map fun i => Dat.int (a + (i : Nat))) := by
  first | apply Ev.mk | apply EvS.mk | apply Tr.mk | apply EvL.mk | apply Ex.mk | apply ExS.mk | apply It.mk | skip
  intro s Q E st k
  refine h s _ _ st fun s₀ t u v tk m₀ => ?_
  have hsz : Builtin.Range.rangeSize a b 1 = (n : Int) := by rw [rangeSize_one]; split <;> omega
  let s₁ : Shared := { s₀ with heap := s₀.heap.push { cls := .type "range", data := .fields #[.int a t, .int b u, .int 1 v] }, toks := tk }
  have m₁ : Mv f.G f.W s s₁ := m₀.trans (.of_keep fun b o e => Heap.get?_push_of_some _ e)
  have st1 := st.mv m₁
  refine wpAny_pyIter_range (s := s₁) (IsRange.new ..) (small_one ha ha' hb' hb) ?_
  have W := Walks.range (prog := f.prog) (w := f.w) st.ok.hh s₁.heap.objs.size a 1 n
  have hlen : n = ((List.range n).map fun i => Dat.int (a + (i : Nat))).length := by simp
  rw [hlen] at W
  refine k (.ref s₁.heap.objs.size) s₁ _ [] [] _ _ _ m₁ (.push _) .nil (fun V hw => Itr.of_walks W hw (fun i v d h hv hd hh => ?_) (fun i h hJ b hb o e => ?_) (fun i h hJ b hb => ?_) fun i v s Q E hJ hQ => wpAny_pure hQ)
    ?_ (fun b hb => by rw [List.mem_singleton.mp hb]; exact Nat.le_refl _) (fun b hb hO => ?_) (size_up _ _)
  · obtain ⟨t, rfl⟩ := hv
    have hi : i < n := by have := (List.getElem?_eq_some_iff.mp hd).1; simpa using this
    have : d = .int (a + (i : Int) * 1) := by
      rw [List.getElem?_map, List.getElem?_range hi] at hd
      simp at hd; rw [← hd]; simp
    rw [this]; exact .int _ _
  · have hJ' : h.get? s₁.heap.objs.size = some _ := hJ
    rw [List.mem_singleton.mp hb, hJ'] at e; cases e; exact keep_fields rfl rfl
  · have hJ' : h.get? s₁.heap.objs.size = some _ := hJ
    rw [List.mem_singleton.mp hb]; exact ⟨_, hJ'⟩
  · have e1 : a + ((0 : Nat) : Int) * 1 = a := by simp
    show IsRangeIter _ _ _ _ _
    rw [e1, ← hlen, hsz]
    simp only [Int.natCast_zero, Int.sub_zero]
    exact Heap.get?_push_size _ rfl
  · rw [List.mem_singleton.mp hb] at hO
    exact st1.freshV (List.mem_append.mpr (.inl hO))
end
end Mine

namespace Mine

-- ## comprehensions 
-- the frame of a comprehension 
abbrev compF (f : Fm) (V : List Addr) (cl : List (Str × Addr)) (C : Addr) (scope : Scope) (s₁ : Shared) : Fm :=
  { f with env := compEnvC scope cl C f.env, V₀ := V, s₀ := s₁, Wc := f.W, own := false, K := [], D := [] }
abbrev tests (ifs : List Expr) (env : Env) : Sem Bool := forIn ifs true fun c r => if r = true then do let ok ← isTrue c env (eval c env); pure (ForInStep.yield ok) else pure (ForInStep.yield r)
def Ts (f : Fm) (O : List (Addr × List Dat)) (ρ : List (Str × Slot)) (ifs : List Expr) (b : Bool) : Prop :=
  ∀ (s : Shared) (Q : Bool → Shared → Prop) (E : Value → Shared → Prop), St f O ρ s → (∀ s', Mv f.G f.W s s' → Q b s') → wpAny f.M f.A (tests ifs f.env) Q E s
theorem Ts.none {f : Fm} {O : List (Addr × List Dat)} {ρ : List (Str × Slot)} : Ts f O ρ [] true := by
  first | apply Ev.mk | apply EvS.mk | apply Tr.mk | apply EvL.mk | apply It.mk | skip
  exact fun s Q E st k => wpAny_tests_nil (k s (.refl s))
theorem Ts.one {f : Fm} {O : List (Addr × List Dat)} {ρ : List (Str × Slot)} {c : Expr} {b : Bool} (h : Tr f O ρ c b) : Ts f O ρ [c] b := by
  first | apply Ev.mk | apply EvS.mk | apply Tr.mk | apply EvL.mk | apply It.mk | skip
  exact fun s Q E st k => wpAny_tests_one (h.run s _ _ st k)

section
variable {prog : Program} {w : World} {A : Around} {R : Result → Shared → Prop} {s : Shared}
theorem compTurn_gen (elt target iter : Expr) (ifs : List Expr) (scope : Scope) (pos : Pos) (it acc : Value) (env : Env) :
    compTurn (.ListComp elt [⟨target, iter, ifs, 0⟩] scope pos) 0 it acc env = (do
      standAt iter.pos
      match ← pyNext it with
      | none => pure (.done .next)
      | some v =>
        letOwnedTupleGo target it v
        assign target env v
        let mut ok := true
        for c in ifs do
          if ok then ok ← isTrue c env (eval c env)
        if ok then
          (do let _ ← call (.builtin "list.append") [acc, ← eval elt env])
        again (.compLoop (.ListComp elt [⟨target, iter, ifs, 0⟩] scope pos) 0 it acc env)) := by rfl
theorem codeAny_compLoop_gen {elt target iter : Expr} {ifs : List Expr} {scope : Scope} {pos : Pos} {it acc : Value} {env : Env} (I : Nat → Shared → Prop)
    (turn : ∀ n s, I n s → wpAny (model prog w) A (pyNext it) (fun r s₁ => match r with
      | none => R (.ok .next) s₁
      | some v => wpAny (model prog w) A (letOwnedTupleGo target it v) (fun _ s₁' => wpAny (model prog w) A (assign target env v) (fun _ s₂ =>
          wpAny (model prog w) A (tests ifs env) (fun ok s₃ =>
            if ok = true then wpAny (model prog w) A (eval elt env) (fun x s₄ =>
              wpAny (model prog w) A (call (.builtin "list.append") [acc, x]) (fun _ s₅ => ∃ m, m < n ∧ I m s₅) (notedBy (model prog w) A env fun e s' => R (.error e) s') s₄) (notedBy (model prog w) A env fun e s' => R (.error e) s') s₃
            else ∃ m, m < n ∧ I m s₃) (notedBy (model prog w) A env fun e s' => R (.error e) s') s₂) (notedBy (model prog w) A env fun e s' => R (.error e) s') s₁') (notedBy (model prog w) A env fun e s' => R (.error e) s') s₁) (notedBy (model prog w) A env fun e s' => R (.error e) s') s)
    (n : Nat) (h : I n s) : codeAny (model prog w) A (.compLoop (.ListComp elt [⟨target, iter, ifs, 0⟩] scope pos) 0 it acc env) R s := by
  refine codeAny_loop rfl I (fun n s hI => ?_) n h
  show wpAny _ A ((compTurn (.ListComp elt [⟨target, iter, ifs, 0⟩] scope pos) 0 it acc env).onRaise (fun x => do noteFrame x env; theTreesLotGoes x)) _ _ s
  refine wpAny_noted ?_
  rw [compTurn_gen]
  refine wpAny_bind (wpAny_standAt (wpAny_bind (wpAny_mono (turn n s hI) (fun r s₁ h₁ => ?_) fun _ _ h' => h')))
  cases r with
  | none => exact wpAny_pure h₁
  | some v =>
    refine wpAny_bind (wpAny_mono h₁ (fun _ s₁' h₁' => ?_) fun _ _ h' => h')
    refine wpAny_bind (wpAny_mono h₁' (fun _ s₂ h₂ => wpAny_bind (wpAny_mono h₂ (fun ok s₃ h₃ => ?_) fun _ _ h' => h')) fun _ _ h' => h')
    cases ok with
    | false => exact wpAny_pure ⟨rfl, h₃⟩
    | true => exact wpAny_bind (wpAny_bind (wpAny_mono h₃ (fun x s₄ h₄ => wpAny_bind (wpAny_mono h₄ (fun _ s₅ h₅ => wpAny_pure (wpAny_pure ⟨rfl, h₅⟩)) fun _ _ h' => h')) fun _ _ h' => h'))
end

-- what a comprehension takes over from its block 
def Cap (f : Fm) (scope : Scope) (cl : List (Str × Addr)) (ρ ρc : List (Str × Slot)) : Prop :=
  Sub ρc ρ ∧ (∀ x sl, ρc.lookup x = some sl → ∃ c, f.env.cells.lookup x = some c ∧ cl.lookup x = some c ∧ (f.env.kindOf x = some .cell ∨ f.env.kindOf x = some .free) ∧ ((relabel scope f.env).names.lookup x = some .cell ∨ (relabel scope f.env).names.lookup x = some .free)) ∧
  (∀ n c, cl.lookup n = some c → f.env.cells.lookup n = some c) ∧ cl.Pairwise (fun x y => x.2 ≠ y.2)

theorem Cap.nil {f : Fm} {scope : Scope} {ρ : List (Str × Slot)} : Cap f scope [] ρ [] := ⟨Sub.nilS ρ, fun x sl h => by simp at h, fun n c h => by simp at h, .nil⟩
theorem Cap.of {f : Fm} {scope : Scope} {cl : List (Str × Addr)} {ρ ρc : List (Str × Slot)} (hsub : Sub ρc ρ)
    (h : ∀ x ∈ ρc.map (·.1), ∃ c, f.env.cells.lookup x = some c ∧ cl.lookup x = some c ∧ (f.env.kindOf x = some .cell ∨ f.env.kindOf x = some .free) ∧ ((relabel scope f.env).names.lookup x = some .cell ∨ (relabel scope f.env).names.lookup x = some .free))
    (hcl : ∀ p ∈ cl, f.env.cells.lookup p.1 = some p.2) (hp : cl.Pairwise (fun x y => x.2 ≠ y.2)) : Cap f scope cl ρ ρc :=
  ⟨hsub, fun x sl hx => h x (List.mem_map.mpr ⟨_, mem_of_lookup hx, rfl⟩), fun n c hc => hcl _ (mem_of_lookup hc), hp⟩

-- a comprehension's items 
def picked {α : Type} (p : α → Bool) (g : α → Dat) (xs : List α) : List Dat := (xs.filter p).map g

section
variable {f : Fm} {O : List (Addr × List Dat)} {ρ ρc : List (Str × Slot)} {iter tgt elt : Expr} {ifs : List Expr} {scope : Scope} {pos : Pos} {cl : List (Str × Addr)} {ds : List Dat} {α : Type} {xs : List α} {j : α → Dat} {p : α → Bool} {g : α → Dat}

theorem picked_take {i : Nat} {d : α} (h : xs[i]? = some d) : picked p g (xs.take (i + 1)) = picked p g (xs.take i) ++ (if p d then [g d] else []) := by
  unfold picked
  rw [List.take_add_one, h]
  cases hp : p d <;> simp [hp]

theorem St.comp {s₁ s' s₄ : Shared} {wr fp : List Addr} {vs : List Value} {es : List Dat} {J : Nat → Heap → Prop} {it : Value} {Dd C : Addr} {V : List Addr} (st1 : St f O ρ s₁) (hcap : Cap f scope cl ρ ρc) (hkind : scope.kind = .function) (hd : HasL (f.V O) s₁.heap vs es)
    (IT : Itr f.prog f.w f.A V it tgt vs es ds J fp wr) (hJ : J 0 s'.heap) (hlo : ∀ b ∈ wr, s₁.heap.objs.size ≤ b) (m₂ : Mv f.G f.W s₁ s') (hDd : Dd = s'.heap.objs.size)
    (keep : ∀ b o, s'.heap.get? b = some o → s₄.heap.get? b = some o) (m₄ : Mv f.G f.W s₁ s₄) (hC : s'.heap.objs.size < C) (hns : s₄.heap.Ns C fun _ => none) (hpl : s₄.heap.PlainList Dd #[]) (hle : s₁.heap.objs.size ≤ s'.heap.objs.size) :
    J 0 s₄.heap ∧ Dd ∉ fp ∧ St (withF (compF f [] cl C scope s₁) (wr ++ f.V O) (objsAt s₄.heap fp) [(vs, es)]) [(Dd, [])] ρc s₄ := by
  have st4 := st1.mv m₄
  have nwr : ∀ a o, s₁.heap.get? a = some o → a ∉ wr := fun a o e hw => absurd (Heap.lt_size e) (Nat.not_lt.mpr (hlo a hw))
  have nD : ∀ a o, s₁.heap.get? a = some o → a ≠ Dd := fun a o e q => by
    have := Heap.lt_size e
    rw [q, hDd] at this
    exact absurd this (Nat.not_lt.mpr hle)
  have vlt : ∀ a ∈ f.V O, ∃ o, s₁.heap.get? a = some o := fun a ha => by
    rcases List.mem_append.mp ha with ha | ha
    · obtain ⟨p, hp, rfl⟩ := List.mem_map.mp ha
      obtain ⟨us, ⟨n, e⟩, _⟩ := st1.own p hp
      exact ⟨_, e⟩
    · exact st1.v0 a ha
  have dk : DKeep (f.V O) ([Dd] ++ (wr ++ f.V O)) s₁.heap s₄.heap := by
    have d0 := m₄.dkeep (V := f.V O)
    have nv : ∀ a o, s₁.heap.get? a = some o → a ∉ f.V O → a ∉ [Dd] ++ (wr ++ f.V O) := fun a o e h1 h => by
      rcases List.mem_append.mp h with h | h
      · exact nD a o e (List.mem_singleton.mp h)
      · rcases List.mem_append.mp h with h | h
        · exact nwr a o e h
        · exact h1 h
    refine ⟨fun a items ha hi => ⟨(d0.1 a items ha hi).1, ?_⟩, fun a items ha hi => ⟨(d0.2 a items ha hi).1, ?_⟩⟩
    · obtain ⟨o, e, _⟩ := hi
      exact nv a o e ha
    · obtain ⟨n, e⟩ := hi
      exact nv a _ e ha
  have Dfp : Dd ∉ fp := fun h => by
    obtain ⟨o, e⟩ := IT.ex 0 _ hJ _ h
    have := Heap.lt_size e
    rw [hDd] at this
    exact Nat.lt_irrefl _ this
  have Dnot : Dd ∉ wr ++ f.V O := fun h => by
    rcases List.mem_append.mp h with h | h
    · exact Dfp (IT.sub _ h)
    · obtain ⟨o, e⟩ := vlt _ h
      exact nD _ _ e rfl
  have hJ4 : J 0 s₄.heap := IT.frame _ _ _ hJ fun b _ o e => keep b o e
  refine ⟨hJ4, Dfp, { ok := ⟨st1.ok.hh, hkind, st1.ok.glob, st1.ok.bi, st1.ok.bas, st1.bel.stays, Nat.le_of_lt (Nat.lt_of_le_of_lt hle hC), hcap.2.2.2, (fun h => nomatch h), fun a ha => Or.inl ha⟩, bel := st4.bel, frm := m₄, loc := ⟨_, hns⟩, cel := fun n c hc => st4.cel n c (hcap.2.2.1 n c hc), vars := fun x sl hx => ?_, own := fun p hp => ?_, nod := by simp, fO := fun p hp => ?_, v0 := fun a ha => ?_, frD := st4.frD, kep := fun p hp => ?_, oV := fun p hp => ?_, dat := fun p hp => ?_, tab := st4.tab }⟩
  · obtain ⟨v, hv, hs⟩ := st1.vars x sl (hcap.1 x sl hx)
    obtain ⟨c, h1, h2, h3, h4⟩ := hcap.2.1 x sl hx
    refine ⟨v, .inr ⟨h4, c, h2, ?_⟩, hs.keep dk⟩
    rcases hv with ⟨hk, _⟩ | ⟨_, c', hc', hv'⟩
    · rcases h3 with h3 | h3 <;> (rw [h3] at hk; cases hk)
    · rw [h1] at hc'; cases hc'
      exact m₄.cell hv'
  · rw [List.mem_singleton.mp hp]
    exact ⟨[], hpl, .nil⟩
  · rw [List.mem_singleton.mp hp]
    show s₁.heap.objs.size ≤ Dd
    rw [hDd]; exact hle
  · rcases List.mem_append.mp ha with ha | ha
    · obtain ⟨o, e⟩ := IT.ex 0 _ hJ a (IT.sub a ha)
      exact ⟨o, keep a o e⟩
    · obtain ⟨o, e⟩ := vlt a ha
      exact m₄.there e
  · obtain ⟨h1, h2⟩ := objsAt_mem hp
    refine ⟨h2, IT.fpOk 0 _ hJ4 _ h1 _ h2, fun q => ?_⟩
    rw [List.mem_singleton.mp q] at h1
    exact Dfp h1
  · rw [List.mem_singleton.mp hp]; exact Dnot
  · rw [List.mem_singleton.mp hp]; exact hd.keep dk

-- what a turn of a comprehension does 
def Turn {α : Type} (f : Fm) (scope : Scope) (cl : List (Str × Addr)) (ρc : List (Str × Slot)) (tgt elt : Expr) (ifs : List Expr) (xs : List α) (j : α → Dat) (p : α → Bool) (g : α → Dat) : Prop :=
  ∀ (C : Addr) (s₁ : Shared) (V : List Addr) (K : List (Addr × Obj)) (D : List (List Value × List Dat)) (Dd : Addr) (acc : List Dat) (i : Nat) (d : α), xs[i]? = some d →
    ∃ ρ'', Sub ρc ρ'' ∧ As (withF (compF f [] cl C scope s₁) V K D) [(Dd, acc)] ρc tgt (j d) ρ'' ∧ Ts (withF (compF f [] cl C scope s₁) V K D) [(Dd, acc)] ρ'' ifs (p d) ∧
      (p d = true → Ev (withF (compF f [] cl C scope s₁) V K D) [(Dd, acc)] ρ'' elt (g d))

-- the block of a comprehension 
theorem comp_core {s₁ s' : Shared} {wr fp : List Addr} {vs : List Value} {es : List Dat} {J : Nat → Heap → Prop} {it : Value} {RR : Value → Addr → Result → Shared → Prop} {E : Value → Shared → Prop}
    (st1 : St f O ρ s₁) (hcap : Cap f scope cl ρ ρc) (hkind : scope.kind = .function) (hcell : ∀ y ∈ scope.names, y.2 ≠ .cell) (hd : HasL (f.V O) s₁.heap vs es)
    (ITA : ∀ V, (∀ b ∈ wr, b ∈ V) → Itr f.prog f.w f.A V it tgt vs es (xs.map j) J fp wr) (hJ : J 0 s'.heap) (hlo : ∀ b ∈ wr, s₁.heap.objs.size ≤ b) (hle : s₁.heap.objs.size ≤ s'.heap.objs.size) (m₂ : Mv f.G f.W s₁ s') (hsz : xs.length ≤ sizeLine) (turn : Turn f scope cl ρc tgt elt ifs xs j p g)
    (hRR : ∀ Dd C m s₅ us, s₁.heap.objs.size ≤ Dd → s₁.heap.objs.size ≤ C → Dd ≠ C → s₅.heap.Ns C m → Mv f.G f.W s₁ s₅ → s₅.heap.PlainList Dd us.toArray → HasL (f.V O) s₅.heap us (picked p g xs) → Dd ∉ f.V O → RR (.ref Dd) C (.ok .next) s₅) :
    wpAny f.M f.A (newList []) (fun acc s₃ => wpAny f.M f.A (newFunctionEnv scope f.env.globals cl [] f.env.qual none .none (some f.env)) (fun cenv s₄ =>
      codeAny f.M f.A (.compStart (.ListComp elt [⟨tgt, iter, ifs, 0⟩] scope pos) 0 it acc { cenv with scope := relabel scope f.env }) (RR acc cenv.locals) s₄) E s₃) E s' := by
  refine wpAny_newObj_type (wpAny_newFunctionEnv hcell (by intro y hy; simp at hy) (fun h₁ hns₁ hsb₁ => ?_) hkind)
  dsimp only at hns₁ hsb₁ ⊢
  generalize hH2 : s'.heap.push { cls := .type "list", dict := none, data := .seq ([] : List Value).toArray } = H2 at hns₁ hsb₁ ⊢
  have hC : H2.objs.size = s'.heap.objs.size + 1 := by rw [← hH2, Heap.size_push]
  have hDC : s'.heap.objs.size ≠ H2.objs.size := by rw [hC]; exact Nat.ne_of_lt (Nat.lt_succ_self _)
  have below : ∀ b, b < s'.heap.objs.size → b ≠ H2.objs.size := fun b hb => by rw [hC]; exact Nat.ne_of_lt (Nat.lt_succ_of_lt hb)
  have old : ∀ b o, s'.heap.get? b = some o → h₁.get? b = some o := fun b o e => hsb₁.extBut b o (below b (Heap.lt_size e)) (Heap.get?_push_of_some _ (hH2 ▸ Heap.get?_push_of_some _ e))
  have hacc : h₁.PlainList s'.heap.objs.size #[] := ⟨_, hsb₁.extBut _ _ hDC (Heap.get?_push_of_some _ (hH2 ▸ Heap.get?_push_size _ rfl))⟩
  let V : List Addr := [s'.heap.objs.size] ++ (wr ++ f.V O)
  have IT := ITA V fun b hb => List.mem_append.mpr (.inr (List.mem_append.mpr (.inl hb)))
  have lo0 : ∀ b ∈ wr, s₁.heap.objs.size ≤ b := hlo
  have loop : ∀ s₄ : Shared, s₄ = { s' with heap := h₁, toks := s'.toks + ([] : List (Str × Value)).length } →
      codeAny f.M f.A (.compLoop (.ListComp elt [⟨tgt, iter, ifs, 0⟩] scope pos) 0 it (.ref s'.heap.objs.size) (compEnvC scope cl H2.objs.size f.env)) (RR (.ref s'.heap.objs.size) H2.objs.size) s₄ := by
    rintro s₄ rfl
    have m₄ : Mv f.G f.W s₁ { s' with heap := h₁, toks := s'.toks + ([] : List (Str × Value)).length } := m₂.trans (.of_keep old)
    obtain ⟨hJ4, Dfp, st4⟩ := St.comp (scope := scope) (cl := cl) (ρc := ρc) (C := H2.objs.size) st1 hcap hkind hd IT hJ hlo m₂ rfl old m₄ (by rw [hC]; exact Nat.lt_succ_self _) hns₁ hacc hle
    refine codeAny_compLoop_gen (fun n s => ∃ i, n = xs.length + 1 - i ∧ i ≤ xs.length ∧ J i s.heap ∧ St (withF (compF f [] cl H2.objs.size scope s₁) (wr ++ f.V O) (objsAt s.heap fp) [(vs, es)]) [(s'.heap.objs.size, picked p g (xs.take i))] ρc s) ?_ (xs.length + 1)
      ⟨0, rfl, Nat.zero_le _, hJ4, by simpa [picked] using st4⟩
    rintro n s₂ ⟨i, rfl, hi, hJi, st3⟩
    have vex : ∀ a ∈ V, ∃ o, s₂.heap.get? a = some o := fun a ha => by
      rcases List.mem_append.mp ha with ha | ha
      · obtain ⟨us, ⟨n, e⟩, _⟩ := st3.own _ (List.mem_singleton.mpr rfl)
        rw [List.mem_singleton.mp ha]; exact ⟨_, e⟩
      · exact st3.v0 a ha
    rcases Nat.lt_or_ge i xs.length with hlt | hge
    · have hd0 : xs[i]? = some xs[i] := List.getElem?_eq_getElem hlt
      have hd' : (xs.map j)[i]? = some (j xs[i]) := by rw [List.getElem?_map, hd0]; rfl
      have hdata : HasL V s₂.heap vs es := st3.dat (vs, es) (List.mem_singleton.mpr rfl)
      refine wpAny_mono (IT.item i (j xs[i]) s₂ (fun v s₄ => ∃ h' tk, s₄ = { s₂ with heap := h', toks := tk } ∧ J (i + 1) h' ∧ Has V h' v (j xs[i]) ∧ (∀ b o, b ∉ wr → s₂.heap.get? b = some o → h'.get? b = some o)) (notedBy (model f.prog f.w) f.A (compEnvC scope cl H2.objs.size f.env) _) hd' hJi hdata vex
        (fun v h' tk hJ' hv' hk' => ⟨h', tk, rfl, hJ', hv', hk'⟩)) (fun r s₄ hr => ?_) fun _ _ x => x
      obtain ⟨v, rfl, hr⟩ := hr
      refine wpAny_mono hr (fun _ s₅ h5 => ?_) fun _ _ x => x
      obtain ⟨h', tk, rfl, hJ', hv', hk'⟩ := h5
      have st4 : St (withF (compF f [] cl H2.objs.size scope s₁) (wr ++ f.V O) (objsAt h' fp) [(vs, es)]) [(s'.heap.objs.size, picked p g (xs.take i))] ρc { s₂ with heap := h', toks := tk } := by
        refine St.foreign (f := compF f [] cl H2.objs.size scope s₁) st3 lo0 (fun b hb => List.mem_append.mpr (.inl hb)) (fun a ha => ha) (fun a ha => ?_) (fun p hp => hp) (fun p hp => ?_) (fun b hb o e => IT.fpOk i _ hJi b (IT.sub b hb) o e) hk'
        · by_cases hw : a ∈ wr
          · exact IT.ex (i + 1) _ hJ' a (IT.sub a hw)
          · obtain ⟨o, e⟩ := st3.v0 a ha
            exact ⟨o, hk' a o hw e⟩
        · obtain ⟨h1, h2⟩ := objsAt_mem hp
          refine ⟨h2, IT.fpOk (i + 1) _ hJ' _ h1 _ h2, fun q => ?_⟩
          rw [List.mem_singleton.mp q] at h1
          exact Dfp h1
      obtain ⟨ρ'', hsub, has, hts, hel⟩ := turn H2.objs.size s₁ (wr ++ f.V O) (objsAt h' fp) [(vs, es)] s'.heap.objs.size (picked p g (xs.take i)) i xs[i] hd0
      have fin : ∀ (acc' : List Dat) (s₇ : Shared), acc' = picked p g (xs.take (i + 1)) → St (withF (compF f [] cl H2.objs.size scope s₁) (wr ++ f.V O) (objsAt h' fp) [(vs, es)]) [(s'.heap.objs.size, acc')] ρ'' s₇ →
          ∃ m, m < xs.length + 1 - i ∧ ∃ i, m = xs.length + 1 - i ∧ i ≤ xs.length ∧ J i s₇.heap ∧ St (withF (compF f [] cl H2.objs.size scope s₁) (wr ++ f.V O) (objsAt s₇.heap fp) [(vs, es)]) [(s'.heap.objs.size, picked p g (xs.take i))] ρc s₇ := by
        rintro acc' s₇ rfl st7
        have st7' := st7.weak hsub
        have kfp : ∀ b ∈ fp, ∀ o, h'.get? b = some o → s₇.heap.get? b = some o := fun b hb o e => (st7.kep (b, o) (mem_objsAt hb e)).1
        have hJ7 : J (i + 1) s₇.heap := IT.frame _ _ _ hJ' kfp
        refine ⟨xs.length + 1 - (i + 1), by omega, i + 1, rfl, hlt, hJ7, ?_⟩
        refine St.foreign (f := compF f [] cl H2.objs.size scope s₁) (wr := []) (h' := s₇.heap) (tk := s₇.toks) st7' (fun _ h => nomatch h) (fun _ h => nomatch h) (fun a ha => ha) (fun a ha => st7.v0 a ha) (fun p hp => hp) (fun p hp => ?_) (fun _ h => nomatch h) fun _ _ _ e => e
        obtain ⟨h1, h2⟩ := objsAt_mem hp
        refine ⟨h2, IT.fpOk (i + 1) _ hJ7 _ h1 _ h2, fun q => ?_⟩
        rw [List.mem_singleton.mp q] at h1
        exact Dfp h1
      refine has _ v _ _ st4 hv' fun s₆ st6 => ?_
      refine hts s₆ _ _ st6 fun s₆' m₆ => ?_
      have st6' := st6.mv m₆
      have ptk := picked_take (p := p) (g := g) hd0
      cases hp : p xs[i] with
      | false =>
        rw [hp] at ptk
        exact fin _ _ (by rw [ptk]; simp) st6'
      | true =>
        rw [hp] at ptk
        refine (hel hp).run s₆' _ _ st6' fun y s₈ m₈ hy => ?_
        have st8 := st6'.mv m₈
        obtain ⟨us, iu, hu⟩ := st8.own _ (List.mem_singleton.mpr rfl)
        have hul : us.length ≤ sizeLine := by
          rw [hu.length]
          refine Nat.le_trans ?_ hsz
          unfold picked
          rw [List.length_map]
          exact Nat.le_trans (List.length_filter_le _ _) (by rw [List.length_take]; exact Nat.min_le_right _ _)
        refine wpAny_list_append_plain (hsz := by simpa using hul) iu fun h₉ hp₉ hs₉ => ?_
        refine fin _ _ (by rw [ptk]; rfl) (st8.ownSet (i := 0) (vs' := us ++ [y]) rfl hs₉ (by simpa using hp₉) (hu.append (.one hy)))
    · have hie : i = xs.length := Nat.le_antisymm hi hge
      subst hie
      refine wpAny_mono (IT.done s₂ (fun s₄ => ∃ h' tk, s₄ = { s₂ with heap := h', toks := tk } ∧ ∀ b o, b ∉ wr → s₂.heap.get? b = some o → h'.get? b = some o) (notedBy (model f.prog f.w) f.A (compEnvC scope cl H2.objs.size f.env) _) (by rw [List.length_map]; exact hJi) fun h' tk hk' => ⟨h', tk, rfl, hk'⟩) (fun r s₄ hr => ?_) fun _ _ x => x
      obtain ⟨rfl, h', tk, rfl, hk'⟩ := hr
      have st5 : St (withF (compF f [] cl H2.objs.size scope s₁) (f.V O) [] []) [(s'.heap.objs.size, picked p g (xs.take xs.length))] ρc { s₂ with heap := h', toks := tk } := by
        refine St.foreign (f := compF f [] cl H2.objs.size scope s₁) (V' := f.V O) (K' := []) (D' := []) st3 lo0 (fun b hb => List.mem_append.mpr (.inl hb)) (fun a ha => List.mem_append.mpr (.inr ha)) (fun a ha => ?_) (fun p hp => nomatch hp) (fun p hp => nomatch hp) (fun b hb o e => IT.fpOk _ _ hJi b (IT.sub b hb) o e) hk'
        obtain ⟨o, e⟩ : ∃ o, s₁.heap.get? a = some o := by
          rcases List.mem_append.mp ha with ha | ha
          · obtain ⟨p, hp, rfl⟩ := List.mem_map.mp ha
            obtain ⟨us, ⟨n, e⟩, _⟩ := st1.own p hp
            exact ⟨_, e⟩
          · exact st1.v0 a ha
        have hw : a ∉ wr := fun hw => absurd (Heap.lt_size e) (Nat.not_lt.mpr (hlo _ hw))
        obtain ⟨o', e'⟩ := st3.v0 a (List.mem_append.mpr (.inr ha))
        exact ⟨o', hk' a o' hw e'⟩
      obtain ⟨us, iu, hu⟩ := st5.own _ (List.mem_singleton.mpr rfl)
      obtain ⟨m, hm⟩ := st5.loc
      rw [List.take_length] at hu
      refine hRR _ _ m _ us (st5.fO _ (List.mem_singleton.mpr rfl)) st5.ok.fL hDC hm st5.frm iu (hu.keep ?_) (st5.oV _ (List.mem_singleton.mpr rfl))
      exact ⟨fun x items hx hi => ⟨hi, fun q => hx (List.mem_append.mpr (.inr q))⟩, fun x items hx hi => ⟨hi, fun q => hx (List.mem_append.mpr (.inr q))⟩⟩
  have hJ1 : J 0 h₁ := IT.frame _ _ _ hJ fun b _ o e => old b o e
  exact codeAny_compStart_list (loop _ rfl) (IT.self 0 _ _ _ hJ1 (loop _ rfl))

-- what is left of the comprehension's names 
theorem comp_gone {s₁ s₅ : Shared} {C Dd : Addr} {h' : Heap} {m : Str → Option Value} {us : List Value} {res : List Dat} (hC : s₁.heap.objs.size ≤ C) (hDC : Dd ≠ C) (hn : s₅.heap.Ns C m) (mv : Mv f.G f.W s₁ s₅) (hp : s₅.heap.PlainList Dd us.toArray) (hu : HasL (f.V O) s₅.heap us res) (hDV : Dd ∉ f.V O)
    (hs : Heap.SameBut C s₅.heap h') : Mv f.G f.W s₁ { s₅ with heap := h' } ∧ Has (f.V O) h' (.ref Dd) (.list res) := by
  refine ⟨?_, ?_⟩
  · have ck : CKeep s₅.heap h' := by
      obtain ⟨oL, es, ep, eL, dL, _⟩ := id hn
      exact ckeep_at hs ⟨oL, eL, fun vs h => by rw [dL] at h; cases h⟩
    obtain ⟨⟨h1, t1, g1, rfl, c1⟩, g, k⟩ := mv
    refine ⟨⟨h', t1, g1, rfl, c1⟩, g, fun b o e => ?_⟩
    have q := k b o e
    have : b ≠ C := by rintro rfl; exact absurd (Heap.lt_size e) (Nat.not_lt.mpr hC)
    split
    · rename_i hb
      rw [if_pos hb] at q
      obtain ⟨o', e', c1, c2⟩ := q
      exact ⟨o', hs.extBut b _ this e', c1, fun q => (c2 q).up ck⟩
    rename_i hb
    rw [if_neg hb] at q
    obtain ⟨sl, e', c⟩ := q
    exact ⟨sl, hs.extBut b _ this e', c⟩
  · obtain ⟨oL, es, ep, eL, dL, _⟩ := id hn
    have dk : DKeep (f.V O) (f.V O) s₅.heap h' := dkeep_at hs (.inr ⟨oL, eL, fun items n q => by rw [dL] at q; cases q⟩)
    exact .list (dk.2 _ _ hDV hp).1 hDV (hu.keep dk)

-- the names of a comprehension go 
theorem St.letC {s : Shared} {C : Addr} {m : Str → Option Value} {h' : Heap} (st : St f O ρ s) (hn : s.heap.Ns C m) (hlo : f.s₀.heap.objs.size ≤ C) (hCL : f.env.locals ≠ C) (hW : C ∉ f.W) (hV : C ∉ f.V₀) (hs : Heap.SameBut C s.heap h') : St f O ρ { s with heap := h' } := by
  obtain ⟨oL, es, ep, eL, dL, _⟩ := id hn
  have dk : ∀ V, DKeep V V s.heap h' := fun V => dkeep_at hs (.inr ⟨oL, eL, fun items n q => by rw [dL] at q; cases q⟩)
  have ncell : ∀ c v, s.heap.IsCell c v → c ≠ C := by
    rintro c v ⟨o, e, d⟩ rfl
    rw [eL] at e; cases e; rw [dL] at d; cases d
  refine { ok := st.ok, bel := ⟨st.bel.stack, fun c o e => hs.extBut c o ?_ (st.bel.stays c o e), ?_⟩, frm := frm_at (tk := s.toks) st.frm hlo hs ⟨oL, eL, fun vs h => by rw [dL] at h; cases h⟩, loc := ?_, cel := fun n c hc => ?_, vars := fun y sl' hy => ?_, own := fun p hp => ?_, nod := st.nod, fO := st.fO, v0 := fun a ha => ?_, frD := fun a ha => ?_, kep := fun p hp => ?_, dat := fun p hp => (st.dat p hp).keep (dk _), oV := st.oV, tab := tab_at st.tab hs ⟨oL, eL, fun vs h => by rw [dL] at h; cases h⟩ }
  · rintro rfl; rw [st.ok.notG hlo] at e; cases e
  · have go : ∀ l : List Env, (∀ a ∈ l.filterMap (·.frame), a ≠ C) → s.heap.FunFrames f.G l → h'.FunFrames f.G l := by
      intro l
      induction l with
      | nil => intro _ _; trivial
      | cons env r ih =>
        rintro hd ⟨hk, ⟨L, o, hf, hn, ho, hdd⟩, hr⟩
        refine ⟨hk, ⟨L, o, hf, hn, hs.extBut L o (hd L (by rw [List.filterMap_cons, hf]; exact List.mem_cons_self)) ho, hdd⟩, ih (fun a ha => hd a ?_) hr⟩
        rw [List.filterMap_cons, hf]; exact List.mem_cons_of_mem _ ha
    exact go _ (fun a ha q => hW (q ▸ ha)) st.bel.frames
  · obtain ⟨mm, nn⟩ := st.loc
    exact ⟨mm, nn.sameBut hs hCL⟩
  · obtain ⟨v, q⟩ := st.cel n c hc
    exact ⟨v, q.sameBut hs (ncell c v q)⟩
  · obtain ⟨u, hu, q⟩ := st.vars y sl' hy
    refine ⟨u, ?_, q.keep (dk _)⟩
    rcases hu with ⟨k1, m1, n1, e1⟩ | ⟨k1, c1, l1, e1⟩
    · exact .inl ⟨k1, m1, n1.sameBut hs hCL, e1⟩
    · exact .inr ⟨k1, c1, l1, e1.sameBut hs (ncell _ _ e1)⟩
  · obtain ⟨vs, ⟨n, e⟩, r⟩ := st.own p hp
    refine ⟨vs, ⟨n, hs.extBut _ _ ?_ e⟩, r.keep (dk _)⟩
    rintro hpL
    rw [hpL, eL] at e; cases e; cases dL
  · obtain ⟨o, e⟩ := st.v0 a ha
    exact ⟨o, hs.extBut _ _ (fun q => hV (q ▸ ha)) e⟩
  · obtain ⟨o, es, ep, e, d⟩ := st.frD a ha
    exact ⟨o, es, ep, hs.extBut _ _ (fun q => hW (q ▸ ha)) e, d⟩
  · obtain ⟨e, b, c⟩ := st.kep p hp
    refine ⟨hs.extBut _ _ ?_ e, b, c⟩
    rintro hpL
    rw [hpL, eL] at e; cases e; exact b.1 _ _ dL

-- a comprehension 
theorem Ev.comp {p : α → Bool} {g : α → Dat} (hit : It f O ρ iter tgt (xs.map j)) (hclos : closureFor scope f.env = pure cl) (hcap : Cap f scope cl ρ ρc) (turn : Turn f scope cl ρc tgt elt ifs xs j p g) (hsz : xs.length ≤ sizeLine) (hkind : scope.kind = .function := by rfl) (hcell : ∀ y ∈ scope.names, y.2 ≠ .cell := by decide)
    (hnames : ∀ y ∈ scope.names, y.2 = .local → scope.names.lookup y.1 = some .local := by decide) (hs : ∀ x, foldedSetIterable iter f.env x = pure x := by intro _; rfl) : Ev f O ρ (.ListComp elt [⟨tgt, iter, ifs, 0⟩] scope pos) (.list (picked p g xs)) := by
  first | apply Ev.mk | apply EvS.mk | apply Tr.mk | apply EvL.mk | apply Ex.mk | apply ExS.mk | apply It.mk | skip
  intro s Q E st k
  rw [eval_ListComp]
  refine wpAny_comprehension_free (use := none) rfl hs hclos hkind hnames ?_
  refine hit.run s _ _ st fun it s₁ s' vs es J fp wr m₁ m₂ hd ITA hJ hlo hfO hle => ?_
  refine comp_core (RR := fun acc C => compPost _ _ E none Q acc C) (st.mv m₁) hcap hkind hcell hd ITA hJ hlo hle m₂ hsz turn ?_
  intro Dd C m s₅ us hDd hC hDC hn mv hp hu hDV
  refine ⟨m, hn, fun h' hs' => ?_⟩
  obtain ⟨h1, h2⟩ := comp_gone hC hDC hn mv hp hu hDV hs'
  exact k _ _ (m₁.trans h1) h2

-- a comprehension that a name takes at once 
theorem ExS.assignComp {p : α → Bool} {g : α → Dat} {y : Str} {py cpos : Pos} {Φ : Ot → Prop} (hk : f.env.kindOf y = some .local) (hit : It f O ρ iter tgt (xs.map j)) (hclos : closureFor scope f.env = pure cl) (hcap : Cap f scope cl ρ ρc) (turn : Turn f scope cl ρc tgt elt ifs xs j p g) (hsz : xs.length ≤ sizeLine)
    (hΦ : Φ (.next O (put ρ y (.dat (.list (picked p g xs)))))) (hsw : swapsWith (.ListComp elt [⟨tgt, iter, ifs, 0⟩] scope cpos) (some (.Name y py)) pos.line f.env = pure true := by rfl) (hkind : scope.kind = .function := by rfl) (hcell : ∀ y ∈ scope.names, y.2 ≠ .cell := by decide)
    (hnames : ∀ y ∈ scope.names, y.2 = .local → scope.names.lookup y.1 = some .local := by decide) (hs : ∀ x, foldedSetIterable iter f.env x = pure x := by intro _; rfl) : ExS f O ρ (.Assign [.Name y py] (.ListComp elt [⟨tgt, iter, ifs, 0⟩] scope cpos) pos) Φ := by
  first | apply Ev.mk | apply EvS.mk | apply Tr.mk | apply EvL.mk | apply Ex.mk | apply ExS.mk | apply It.mk | skip
  intro s E st
  rw [exec_Assign_Name_used _ _ _ _ hsw]
  refine wpAny_bind (wpAny_standAt (wpAny_bind ?_))
  show wpAny _ _ (do let _ ← comprehension (.ListComp elt [⟨tgt, iter, ifs, 0⟩] scope cpos) scope f.env _ (newList []) false (eval iter f.env) (some (PySem.assign (.Name y py) f.env))) _ _ s
  refine wpAny_bind (wpAny_mono (wpAny_comprehension_free (use := some (PySem.assign (.Name y py) f.env)) (Q := fun _ s' => Out f Φ .next s') rfl hs hclos hkind hnames ?_) (fun _ s' hq => wpAny_pure (wpAny_pure hq)) fun _ _ e => e)
  refine hit.run s _ _ st fun it s₁ s' vs es J fp wr m₁ m₂ hd ITA hJ hlo hfO hle => ?_
  refine comp_core (RR := fun acc C => compPost _ _ E (some (PySem.assign (.Name y py) f.env)) (fun _ s' => Out f Φ .next s') acc C) (st.mv m₁) hcap hkind hcell hd ITA hJ hlo hle m₂ hsz turn ?_
  intro Dd C m s₅ us hDd hC hDC hn mv hp hu hDV
  have st1 := st.mv m₁
  have st5 := st1.mv mv
  obtain ⟨mL, hL⟩ := st5.loc
  have hLC : f.env.locals ≠ C := by
    rintro e
    obtain ⟨_, n1⟩ := st1.loc
    exact absurd n1.lt (Nat.not_lt.mpr (by rw [e]; exact hC))
  show wpAny _ _ (PySem.assign (.Name y py) f.env (.ref Dd)) _ _ _
  refine wpAny_assign_Name (wpAny_storeName_local hk hL (fun h₂ hn₂ hs₂ => ?_) (by rw [st.ok.kind]; rfl))
  have hv : Has (f.V O) s₅.heap (.ref Dd) (.list (picked p g xs)) := .list hp hDV hu
  have st6 := st5.storeL (sl := .dat (.list (picked p g xs))) (tk := s₅.toks + 1) hk hv hL hn₂ hs₂
  refine ⟨m, hn.sameBut hs₂ (Ne.symm hLC), fun h₃ hs₃ => ⟨O, _, hΦ, ?_⟩⟩
  refine st6.letC (C := C) (m := m) (hn.sameBut hs₂ (Ne.symm hLC)) ?_ hLC (fun hw => ?_) (fun hw => ?_) hs₃
  · obtain ⟨_, n1⟩ := st1.loc
    exact Nat.le_trans (Nat.le_trans st1.ok.fL (Nat.le_of_lt n1.lt)) hC
  · obtain ⟨o, _, _, e, _⟩ := st1.frD C hw
    exact absurd (Heap.lt_size e) (Nat.not_lt.mpr hC)
  · obtain ⟨o, e⟩ := st1.v0 C hw
    exact absurd (Heap.lt_size e) (Nat.not_lt.mpr hC)

-- a comprehension without tests 
def TurnA {α : Type} (f : Fm) (scope : Scope) (cl : List (Str × Addr)) (ρc : List (Str × Slot)) (tgt elt : Expr) (xs : List α) (j : α → Dat) (g : α → Dat) : Prop :=
  ∀ (C : Addr) (s₁ : Shared) (V : List Addr) (K : List (Addr × Obj)) (D : List (List Value × List Dat)) (Dd : Addr) (acc : List Dat) (x : α), x ∈ xs →
    ∃ ρ'', Sub ρc ρ'' ∧ As (withF (compF f [] cl C scope s₁) V K D) [(Dd, acc)] ρc tgt (j x) ρ'' ∧ Ev (withF (compF f [] cl C scope s₁) V K D) [(Dd, acc)] ρ'' elt (g x)
theorem TurnA.turn (h : TurnA f scope cl ρc tgt elt xs j g) : Turn f scope cl ρc tgt elt [] xs j (fun _ => true) g := fun C s₁ V K D Dd acc i d hd =>
  let ⟨ρ'', a, b, c⟩ := h C s₁ V K D Dd acc d (List.mem_of_getElem? hd)
  ⟨ρ'', a, b, Ts.none, fun _ => c⟩
theorem picked_all : picked (fun _ => true) g xs = xs.map g := by unfold picked; rw [List.filter_eq_self.mpr fun _ _ => rfl]
theorem Ev.compA {g : α → Dat} (hit : It f O ρ iter tgt (xs.map j)) (hclos : closureFor scope f.env = pure cl) (hcap : Cap f scope cl ρ ρc) (turn : TurnA f scope cl ρc tgt elt xs j g) (hsz : xs.length ≤ sizeLine) (hkind : scope.kind = .function := by rfl) (hcell : ∀ y ∈ scope.names, y.2 ≠ .cell := by decide)
    (hnames : ∀ y ∈ scope.names, y.2 = .local → scope.names.lookup y.1 = some .local := by decide) (hs : ∀ x, foldedSetIterable iter f.env x = pure x := by intro _; rfl) : Ev f O ρ (.ListComp elt [⟨tgt, iter, [], 0⟩] scope pos) (.list (xs.map g)) :=
  Ev.of (Ev.comp hit hclos hcap turn.turn hsz hkind hcell hnames hs) (by rw [picked_all])
theorem ExS.assignCompA {g : α → Dat} {y : Str} {py cpos : Pos} {Φ : Ot → Prop} (hk : f.env.kindOf y = some .local) (hit : It f O ρ iter tgt (xs.map j)) (hclos : closureFor scope f.env = pure cl) (hcap : Cap f scope cl ρ ρc) (turn : TurnA f scope cl ρc tgt elt xs j g) (hsz : xs.length ≤ sizeLine)
    (hΦ : Φ (.next O (put ρ y (.dat (.list (xs.map g)))))) (hsw : swapsWith (.ListComp elt [⟨tgt, iter, [], 0⟩] scope cpos) (some (.Name y py)) pos.line f.env = pure true := by rfl) (hkind : scope.kind = .function := by rfl) (hcell : ∀ y ∈ scope.names, y.2 ≠ .cell := by decide)
    (hnames : ∀ y ∈ scope.names, y.2 = .local → scope.names.lookup y.1 = some .local := by decide) (hs : ∀ x, foldedSetIterable iter f.env x = pure x := by intro _; rfl) : ExS f O ρ (.Assign [.Name y py] (.ListComp elt [⟨tgt, iter, [], 0⟩] scope cpos) pos) Φ :=
  ExS.assignComp hk hit hclos hcap turn.turn hsz (by rw [picked_all]; exact hΦ) hsw hkind hcell hnames hs
end
end Mine

namespace Mine

-- ## tuple targets 
def puts : List (Str × Slot) → List (Str × Pos) → List Dat → List (Str × Slot)
  | ρ, x :: xs, d :: ds => puts (put ρ x.1 (.dat d)) xs ds
  | ρ, _, _ => ρ
section
variable {f : Fm} {O : List (Addr × List Dat)} {ρ : List (Str × Slot)} {pos : Pos} {ds : List Dat} {d : Dat}

-- data that go along 
theorem St.addD {s : Shared} {vs : List Value} {es : List Dat} (st : St f O ρ s) (h : HasL (f.V O) s.heap vs es) : St (withF f f.V₀ f.K ((vs, es) :: f.D)) O ρ s :=
  { ok := { st.ok with }, bel := st.bel, frm := st.frm, loc := st.loc, cel := st.cel, vars := st.vars, own := st.own, nod := st.nod, fO := st.fO, v0 := st.v0, frD := st.frD, kep := st.kep, oV := st.oV, tab := st.tab,
    dat := fun p hp => by
      rcases List.mem_cons.mp hp with rfl | hp
      · exact h
      · exact st.dat p hp }
theorem St.dropD {s : Shared} {D : List (List Value × List Dat)} (hD : ∀ p ∈ f.D, p ∈ D) (st : St (withF f f.V₀ f.K D) O ρ s) : St f O ρ s := st.drop (fun _ h => h) (fun _ h => h) hD

theorem assignEach_names (env : Env) : ∀ xs : List (Str × Pos), assignEach (xs.map fun p => Expr.Name p.1 p.2) env = xs.map fun p => (false, PySem.assign (.Name p.1 p.2) env)
  | [] => rfl
  | x :: xs => by
    show (false, PySem.assign (.Name x.1 x.2) env) :: assignEach (xs.map fun p => Expr.Name p.1 p.2) env = _
    rw [assignEach_names env xs]; rfl

theorem names_run {D : List (List Value × List Dat)} {E : Value → Shared → Prop} : ∀ (xs : List (Str × Pos)) (vs : List Value) (ds : List Dat) (ρ : List (Str × Slot)) (s : Shared) (Q : Unit → Shared → Prop), (∀ x ∈ xs, Binds f x.1) → xs.length = ds.length → vs.length = ds.length →
    (∀ (i : Nat) v d, vs[i]? = some v → ds[i]? = some d → ∃ p ∈ D, ∃ j : Nat, p.1[j]? = some v ∧ p.2[j]? = some d) → St (withF f f.V₀ f.K D) O ρ s → (∀ s', St (withF f f.V₀ f.K D) O (puts ρ xs ds) s' → Q () s') →
    wpAny f.M f.A (assignInOrder (xs.map fun p => PySem.assign (.Name p.1 p.2) f.env) vs) Q E s
  | [], [], [], _, s, Q, _, _, _, _, st, k => wpAny_assignInOrder_none (k s st)
  | x :: xs, v :: vs, d :: ds, ρ, s, Q, hb, h1, h2, hD, st, k => by
    refine wpAny_assignInOrder_more ?_
    obtain ⟨p, hp, j, hj1, hj2⟩ := hD 0 v d rfl rfl
    obtain ⟨d', e1, e2⟩ := (st.dat p hp).getV hj1
    rw [hj2] at e1; cases e1
    refine As.name (f := withF f f.V₀ f.K D) (d := d) (hb x List.mem_cons_self) s v _ _ st e2 fun s₁ st1 => ?_
    exact names_run xs vs ds _ s₁ Q (fun y hy => hb y (List.mem_cons_of_mem _ hy)) (by simpa using h1) (by simpa using h2) (fun i v d hv hd => hD (i + 1) v d (by simpa using hv) (by simpa using hd)) st1 k
  | [], v :: vs, [], _, _, _, _, _, h, _, _, _ => by simp at h
  | [], _, d :: ds, _, _, _, _, h, _, _, _, _ => by simp at h
  | x :: xs, _, [], _, _, _, _, h, _, _, _, _ => by simp at h
  | x :: xs, [], d :: ds, _, _, _, _, _, h, _, _, _ => by simp at h

theorem As.names {xs : List (Str × Pos)} {k : Nat} (hb : ∀ x ∈ xs, Binds f x.1) (hl : xs.length = ds.length) : As f O ρ (.Tuple (xs.map fun p => Expr.Name p.1 p.2) k pos) (.tuple ds) (puts ρ xs ds) := by
  intro s v Q E st hv kk
  cases hv with
  | tuple i1 n1 h1 =>
    rename_i a vs
    refine wpAny_assign_Tuple st.ok.hh i1 (by rw [assignEach_names]; simp [h1.length, hl]) ?_ fun h' hx => ?_
    · rw [assignEach_names]
      clear hb hl
      rw [List.findIdx?_eq_none_iff]
      intro y hy
      obtain ⟨p, _, rfl⟩ := List.mem_map.mp hy
      rfl
    · have m : Mv f.G f.W s { s with heap := h' } := Mv.of_keepH fun b o e => hx b o (Nat.ne_of_lt (Heap.lt_size e)) e
      have st1 := (st.mv m).addD (h1.mv m)
      have e1 : (assignEach (xs.map fun p => Expr.Name p.1 p.2) f.env).map (·.2) = xs.map fun p => PySem.assign (.Name p.1 p.2) f.env := by rw [assignEach_names, List.map_map]; rfl
      rw [e1]
      refine names_run (D := (vs, ds) :: f.D) xs vs ds ρ _ Q hb hl h1.length (fun i v d hv hd => ⟨(vs, ds), List.mem_cons_self, i, hv, hd⟩) st1 fun s' st' => ?_
      exact kk s' (st'.dropD fun p hp => List.mem_cons_of_mem _ hp)

theorem As.tuple2 {x y : Str} {px py : Pos} {k : Nat} {d1 d2 : Dat} (hx : Binds f x) (hy : Binds f y) : As f O ρ (.Tuple [.Name x px, .Name y py] k pos) (.tuple [d1, d2]) (put (put ρ x (.dat d1)) y (.dat d2)) :=
  As.names (xs := [(x, px), (y, py)]) (ds := [d1, d2]) (fun z hz => by
    rcases List.mem_cons.mp hz with rfl | hz
    · exact hx
    · rw [List.mem_singleton.mp hz]; exact hy) rfl
end

-- ## iterators that give tuples 
theorem Itr.of_walksT {prog : Program} {w : World} {A : Around} {V : List Addr} {I : Addr} {elts : List Expr} {k : Nat} {pos : Pos} {vs : List Value} {es ds : List Dat} {fp wr : List Addr} {P : Nat → Array Value → Prop} {J : Nat → Heap → Prop} {Mid : Nat → Addr → Heap → Prop}
    (W : WalksT prog w A I fp wr ds.length P J Mid) (hw : ∀ b ∈ wr, b ∈ V)
    (hP : ∀ i vals d h, P i vals → ds[i]? = some d → HasL V h vs es → ∃ l, d = .tuple l ∧ HasL V h vals.toList l) (hok : ∀ i h, J i h → ∀ b ∈ fp, ∀ o, h.get? b = some o → KeepOk o) (hex : ∀ i h, J i h → ∀ b ∈ fp, ∃ o, h.get? b = some o) :
    Itr prog w A V (.ref I) (.Tuple elts k pos) vs es ds J fp wr where
  sub := W.sub
  frame := W.frame
  fpOk := hok
  ex := hex
  item := fun i d s Q E hd hJ hv hV k' => by
    have hlt : i < ds.length := (List.getElem?_eq_some_iff.mp hd).1
    refine W.item i s _ E hlt hJ fun T vals h' tk hPv hT hTup hMid hk => ⟨.ref T, rfl, W.go elts k pos i T _ _ _ hMid fun h'' hSt hk' => ?_⟩
    have hTw := W.apart i T _ hMid
    have hTV : T ∉ V := fun q => by
      obtain ⟨o, e⟩ := hV T q
      exact absurd (Heap.lt_size e) (Nat.not_lt.mpr hT)
    have keep : ∀ b o, b ∉ wr → s.heap.get? b = some o → h''.get? b = some o := fun b o hb e => hk' b o hb (hk b o hb e)
    obtain ⟨l, rfl, hl⟩ := hP i vals d h'' hPv hd (hv.out hw keep)
    refine k' (.ref T) h'' tk hSt ?_ keep
    obtain ⟨o, e, c, n, q⟩ := hTup
    exact .tuple (vs := vals.toList) ⟨o, hk' T o hTw e, c, n, by simpa using q⟩ hTV hl
  done := fun s Q E hJ k => W.done s _ E hJ fun h' tk hk => ⟨rfl, k h' tk hk⟩
  self := W.self

section
variable {f : Fm} {O : List (Addr × List Dat)} {ρ : List (Str × Slot)} {iter : Expr} {pos : Pos} {elts : List Expr} {k : Nat}

theorem Has.lists {V : List Addr} {h : Heap} {v : Value} {ds : List Dat} (x : Has V h v (.list ds)) : ∃ a vs, v = .ref a ∧ h.PlainList a vs.toArray ∧ a ∉ V ∧ HasL V h vs ds := by
  cases x with
  | list i n l => exact ⟨_, _, rfl, i, n, l⟩

-- the pairs of two lists 
theorem It.zip2 {ds₁ ds₂ : List Dat} (h : ∀ (s : Shared) (Q : Value → Shared → Prop) (E : Value → Shared → Prop), St f O ρ s → (∀ v₁ v₂ s', Mv f.G f.W s s' → Has (f.V O) s'.heap v₁ (.list ds₁) → Has (f.V O) s'.heap v₂ (.list ds₂) → wpAny f.M f.A (call (.type "zip") [v₁, v₂]) Q E s') → wpAny f.M f.A (eval iter f.env) Q E s) :
    It f O ρ iter (.Tuple elts k pos) ((ds₁.zip ds₂).map fun p => Dat.tuple [p.1, p.2]) := by
  first | apply Ev.mk | apply EvS.mk | apply Tr.mk | apply EvL.mk | apply Ex.mk | apply ExS.mk | apply It.mk | skip
  intro s Q E st kk
  refine h s _ _ st fun v₁ v₂ s₁ m₁ h₁ h₂ => ?_
  have st1 := st.mv m₁
  obtain ⟨a₁, vs₁, rfl, i₁, n₁, l₁⟩ := h₁.lists
  obtain ⟨a₂, vs₂, rfl, i₂, n₂, l₂⟩ := h₂.lists
  have lt₁ : a₁ < s₁.heap.objs.size := by obtain ⟨n, e⟩ := i₁; exact Heap.lt_size e
  have lt₂ : a₂ < s₁.heap.objs.size := by obtain ⟨n, e⟩ := i₂; exact Heap.lt_size e
  refine call_zip_2 i₁.isList i₂.isList fun h' hz hTI hTO hi1 hi2 hsz hkeep => ?_
  generalize hN : s₁.heap.objs.size = N at *
  have D : ZipApart (N + 4) (N + 2) (N + 3) N (N + 1) a₁ a₂ := by constructor <;> (show @Ne Nat _ _) <;> (have := lt₁; have := lt₂; simp only [Addr] at *; omega)
  have W := WalksT.zip2 (prog := f.prog) (w := f.w) st.ok.hh (N + 4) (N + 2) (N + 3) N (N + 1) a₁ a₂ D vs₁.toArray vs₂.toArray
  have hlen : min vs₁.toArray.size vs₂.toArray.size = ((ds₁.zip ds₂).map fun p => Dat.tuple [p.1, p.2]).length := by simp [l₁.length, l₂.length]
  rw [hlen] at W
  have hz0 : IsZip h' (N + 4) (N + 2) (N + 3) .none := hz
  refine W.self 0 _ _ _ ⟨hz, hTI, ⟨_, _, hTO⟩, hi1, hi2, i₁.isList.at fun o e => hkeep _ o e, i₂.isList.at fun o e => hkeep _ o e⟩ ?_
  refine kk (.ref (N + 4)) s₁ _ (vs₁ ++ vs₂) (ds₁ ++ ds₂) _ _ _ m₁ (Mv.of_keepH hkeep) (l₁.append l₂) (fun V hw => Itr.of_walksT W hw (fun i vals d h hv hd hh => ?_) (fun i h hJ b hb o e => ?_) fun i h hJ b hb => ?_)
    ⟨hz, hTI, ⟨_, _, hTO⟩, hi1, hi2, i₁.isList.at fun o e => hkeep _ o e, i₂.isList.at fun o e => hkeep _ o e⟩ (fun b hb => ?_) (fun b hb hO => ?_) (by rw [hN, hsz]; exact Nat.le_add_right _ _)
  · obtain ⟨x, y, hx, hy, rfl⟩ := hv
    have hx' : vs₁[i]? = some x := by simpa using hx
    have hy' : vs₂[i]? = some y := by simpa using hy
    have hil : i < vs₁.length := (List.getElem?_eq_some_iff.mp hx').1
    obtain ⟨d₁, e1, q1⟩ := hh.getV (k := i) (v := x) (by rw [List.getElem?_append_left hil]; exact hx')
    obtain ⟨d₂, e2, q2⟩ := hh.getV (k := vs₁.length + i) (v := y) (by rw [List.getElem?_append_right (Nat.le_add_right _ _), Nat.add_sub_cancel_left]; exact hy')
    rw [List.getElem?_append_left (by rw [← l₁.length]; exact hil)] at e1
    rw [l₁.length, List.getElem?_append_right (Nat.le_add_right _ _), Nat.add_sub_cancel_left] at e2
    refine ⟨[d₁, d₂], ?_, .cons q1 (.cons q2 .nil)⟩
    have ez : (ds₁.zip ds₂)[i]? = some (d₁, d₂) := List.getElem?_zip_eq_some.mpr ⟨e1, e2⟩
    rw [List.getElem?_map, ez] at hd
    simpa using hd.symm
  · obtain ⟨z1, z2, ⟨_, _, z3⟩, ⟨o4, z4, c4, d4⟩, ⟨o5, z5, c5, d5⟩, ⟨o6, z6, _, n6, d6⟩, ⟨o7, z7, _, n7, d7⟩⟩ := hJ
    simp only [List.mem_cons, List.not_mem_nil, or_false] at hb
    rcases hb with rfl | rfl | rfl | rfl | rfl | rfl | rfl
    · rw [z1] at e; cases e; exact keep_fields rfl rfl
    · rw [z2] at e; cases e; exact keep_seq rfl
    · rw [z3] at e; cases e; exact keep_seq rfl
    · rw [z4] at e; cases e; exact keep_fields d4 c4
    · rw [z5] at e; cases e; exact keep_fields d5 c5
    · rw [z6] at e; cases e; exact keep_seq d6
    · rw [z7] at e; cases e; exact keep_seq d7
  · obtain ⟨z1, z2, ⟨_, _, z3⟩, ⟨o4, z4, c4, d4⟩, ⟨o5, z5, c5, d5⟩, ⟨o6, z6, _, n6, d6⟩, ⟨o7, z7, _, n7, d7⟩⟩ := hJ
    simp only [List.mem_cons, List.not_mem_nil, or_false] at hb
    rcases hb with rfl | rfl | rfl | rfl | rfl | rfl | rfl
    · exact ⟨_, z1⟩
    · exact ⟨_, z2⟩
    · exact ⟨_, z3⟩
    · exact ⟨_, z4⟩
    · exact ⟨_, z5⟩
    · exact ⟨_, z6⟩
    · exact ⟨_, z7⟩
  · rw [hN]
    simp only [List.mem_cons, List.not_mem_nil, or_false] at hb
    rcases hb with rfl | rfl | rfl | rfl <;> first | exact Nat.le_refl _ | exact Nat.le_add_right _ _
  · have old : ∀ c, c ∈ O.map (·.1) → c < N := fun c hc => by
      obtain ⟨p, hp, rfl⟩ := List.mem_map.mp hc
      obtain ⟨us, ⟨n, e⟩, _⟩ := st1.own p hp
      rw [← hN]; exact Heap.lt_size e
    have hbN := old b hO
    simp only [List.mem_cons, List.not_mem_nil, or_false] at hb
    rcases hb with rfl | rfl | rfl | rfl | rfl | rfl | rfl
    · exact absurd hbN (Nat.not_lt.mpr (Nat.le_add_right _ _))
    · exact absurd hbN (Nat.not_lt.mpr (Nat.le_add_right _ _))
    · exact absurd hbN (Nat.not_lt.mpr (Nat.le_add_right _ _))
    · exact absurd hbN (Nat.lt_irrefl _)
    · exact absurd hbN (Nat.not_lt.mpr (Nat.le_add_right _ _))
    · exact n₁ (List.mem_append.mpr (.inl hO))
    · exact n₂ (List.mem_append.mpr (.inl hO))

-- the numbered items of a list 
theorem It.enumerate {ds : List Dat} (h : ∀ (s : Shared) (Q : Value → Shared → Prop) (E : Value → Shared → Prop), St f O ρ s → (∀ v s', Mv f.G f.W s s' → Has (f.V O) s'.heap v (.list ds) → wpAny f.M f.A (call (.type "enumerate") [v]) Q E s') → wpAny f.M f.A (eval iter f.env) Q E s) :
    It f O ρ iter (.Tuple elts k pos) (ds.zipIdx.map fun p => Dat.tuple [.int (p.2 : Nat), p.1]) := by
  first | apply Ev.mk | apply EvS.mk | apply Tr.mk | apply EvL.mk | apply Ex.mk | apply ExS.mk | apply It.mk | skip
  intro s Q E st kk
  refine h s _ _ st fun v s₁ m₁ h₁ => ?_
  have st1 := st.mv m₁
  obtain ⟨a, vs, rfl, i₁, n₁, l₁⟩ := h₁.lists
  have lt₁ : a < s₁.heap.objs.size := by obtain ⟨n, e⟩ := i₁; exact Heap.lt_size e
  refine call_enumerate_list i₁.isList fun h' he hit hsz hkeep => ?_
  generalize hN : s₁.heap.objs.size = N at *
  have W := WalksT.enumerate (prog := f.prog) (w := f.w) st.ok.hh (N + 1) N a (Nat.ne_of_gt (Nat.lt_succ_self _)) (Nat.ne_of_lt (Nat.lt_succ_of_lt lt₁)) (Nat.ne_of_lt lt₁) vs.toArray
  have hlen : vs.toArray.size = (ds.zipIdx.map fun p => Dat.tuple [.int (p.2 : Nat), p.1]).length := by simp [l₁.length]
  rw [hlen] at W
  have hJ0 : (∃ old, IsEnum h' (N + 1) N ((0 : Nat) : Int) old) ∧ h'.IsListIter N a 0 ∧ h'.IsList a vs.toArray := ⟨⟨_, he⟩, hit, i₁.isList.at fun o e => hkeep _ o e⟩
  refine W.self 0 _ _ _ hJ0 ?_
  refine kk (.ref (N + 1)) s₁ _ vs ds _ _ _ m₁ (Mv.of_keepH hkeep) l₁ (fun V hw => Itr.of_walksT W hw (fun i vals d h hv hd hh => ?_) (fun i h hJ b hb o e => ?_) fun i h hJ b hb => ?_)
    hJ0 (fun b hb => ?_) (fun b hb hO => ?_) (by rw [hN, hsz]; exact Nat.le_add_right _ _)
  · obtain ⟨t, x, hx, rfl⟩ := hv
    obtain ⟨d₁, e1, q1⟩ := hh.getV (k := i) (v := x) (by simpa using hx)
    refine ⟨[.int (i : Nat), d₁], ?_, .cons (.int _ _) (.cons q1 .nil)⟩
    rw [List.getElem?_map, List.getElem?_zipIdx, e1] at hd
    simpa using hd.symm
  · obtain ⟨⟨_, z1⟩, ⟨o4, z4, c4, d4⟩, ⟨o6, z6, _, n6, d6⟩⟩ := hJ
    simp only [List.mem_cons, List.not_mem_nil, or_false] at hb
    rcases hb with rfl | rfl | rfl
    · rw [z1] at e; cases e; exact keep_fields rfl rfl
    · rw [z4] at e; cases e; exact keep_fields d4 c4
    · rw [z6] at e; cases e; exact keep_seq d6
  · obtain ⟨⟨_, z1⟩, ⟨o4, z4, c4, d4⟩, ⟨o6, z6, _, n6, d6⟩⟩ := hJ
    simp only [List.mem_cons, List.not_mem_nil, or_false] at hb
    rcases hb with rfl | rfl | rfl
    · exact ⟨_, z1⟩
    · exact ⟨_, z4⟩
    · exact ⟨_, z6⟩
  · rw [hN]
    simp only [List.mem_cons, List.not_mem_nil, or_false] at hb
    rcases hb with rfl | rfl
    · exact Nat.le_add_right _ _
    · exact Nat.le_refl _
  · have old : ∀ c, c ∈ O.map (·.1) → c < N := fun c hc => by
      obtain ⟨p, hp, rfl⟩ := List.mem_map.mp hc
      obtain ⟨us, ⟨n, e⟩, _⟩ := st1.own p hp
      rw [← hN]; exact Heap.lt_size e
    have hbN := old b hO
    simp only [List.mem_cons, List.not_mem_nil, or_false] at hb
    rcases hb with rfl | rfl | rfl
    · exact absurd hbN (Nat.not_lt.mpr (Nat.le_add_right _ _))
    · exact absurd hbN (Nat.lt_irrefl _)
    · exact n₁ (List.mem_append.mpr (.inl hO))
end
end Mine

namespace Mine

-- ## texts joined and cut 
def jn (sep : List Nat) : List (List Nat) → List Nat
  | [] => []
  | [p] => p
  | p :: q :: r => p ++ sep ++ jn sep (q :: r)
def cut (c : Nat) : List Nat → List (List Nat)
  | [] => [[]]
  | x :: r => if x = c then [] :: cut c r else match cut c r with
    | p :: ps => (x :: p) :: ps
    | [] => [[x]]
theorem jn_S (sep : List Nat) : ∀ ps : List (List Nat), Str.join (S sep) (ps.map S) = S (jn sep ps)
  | [] => rfl
  | [p] => rfl
  | p :: q :: r => by
    show S p ++ S sep ++ Str.join (S sep) ((q :: r).map S) = _
    rw [jn_S sep (q :: r), S_append, S_append]; rfl
theorem cut_ne (c : Nat) : ∀ l, cut c l ≠ []
  | [] => by simp [cut]
  | x :: r => by
    unfold cut
    split
    · simp
    · split <;> simp
theorem cut_free (c : Nat) : ∀ l, c ∉ l → cut c l = [l]
  | [], _ => rfl
  | x :: r, h => by
    have h1 : ¬ x = c := fun e => h (e ▸ List.mem_cons_self)
    rw [cut, if_neg h1, cut_free c r fun m => h (List.mem_cons_of_mem _ m)]
theorem cut_app (c : Nat) (r : List Nat) : ∀ l, c ∉ l → cut c (l ++ c :: r) = l :: cut c r
  | [], _ => by simp [cut]
  | x :: l, h => by
    have h1 : ¬ x = c := fun e => h (e ▸ List.mem_cons_self)
    rw [List.cons_append, cut, if_neg h1, cut_app c r l fun m => h (List.mem_cons_of_mem _ m)]
theorem cut_jn (c : Nat) : ∀ ps : List (List Nat), ps ≠ [] → (∀ p ∈ ps, c ∉ p) → cut c (jn [c] ps) = ps
  | [], h, _ => absurd rfl h
  | [p], _, h => cut_free c p (h p (List.mem_singleton.mpr rfl))
  | p :: q :: r, _, h => by
    show cut c (p ++ [c] ++ jn [c] (q :: r)) = _
    rw [List.append_assoc, List.singleton_append, cut_app c _ p (h p List.mem_cons_self), cut_jn c (q :: r) (by simp) fun x hx => h x (List.mem_cons_of_mem _ hx)]
theorem cut_len (c : Nat) : ∀ l, (cut c l).length ≤ l.length + 1
  | [] => by simp [cut]
  | x :: r => by
    have ih := cut_len c r
    unfold cut
    split
    · simp; omega
    · split
      · rename_i p ps e; rw [e] at ih; simp at ih ⊢; omega
      · simp
theorem split_S (x : List Nat) (c : Nat) : Txt.split (S x) (S [c]) = (cut c x).map S := by
  have h1 := StrLaws.join_split (S x) (S [c])
  have h2 : ∀ p ∈ Txt.split (S x) (S [c]), c ∉ p.cps.toList := StrLaws.split_free (S x) c
  have hne : Txt.split (S x) (S [c]) ≠ [] := by
    unfold Txt.split
    split
    · simp
    · split
      · simp
      · rw [StrLaws.partsBetween_eq]
        obtain ⟨p, r, e⟩ := StrLaws.partsFrom_ne (S x) (S [c]).length 0 (Builtin.Str.occurrences (S x) (S [c]) 0 (S x).length ((S x).length + 1))
        rw [e]; simp
  generalize hT : Txt.split (S x) (S [c]) = T at *
  have hm : (T.map (·.cps.toList)).map S = T := by
    rw [List.map_map]
    conv => rhs; rw [← List.map_id T]
    apply List.map_congr_left
    intro a _
    exact (S_of a).symm
  have hx : x = jn [c] (T.map (·.cps.toList)) := by
    apply S_inj.mp
    rw [← jn_S, hm, h1]
  rw [hx, cut_jn c _ (by simpa using hne) ?_, hm]
  intro p hp
  obtain ⟨a, ha, rfl⟩ := List.mem_map.mp hp
  exact h2 a ha
theorem replace_S (x z : List Nat) (c : Nat) : Txt.replace (S x) (S [c]) (S z) = S (jn z (cut c x)) := by
  have h := StrLaws.replace_one (S x) (S z) c
  have e : (⟨#[c]⟩ : Str) = S [c] := rfl
  rw [e] at h
  rw [h, split_S, jn_S]
theorem count_aux (x : Str) (c : Nat) : ∀ (cuts : List Nat) (a f : Nat), StrLaws.ChainG x ⟨#[c]⟩ x.length a cuts f → (∀ k, f ≤ k → ¬ StrLaws.At x ⟨#[c]⟩ x.length k) → cuts.length = (x.cps.toList.drop a).count c
  | [], a, f, h, hn => by
    have e : f = a := h
    subst e
    symm
    rw [List.length_nil, List.count_eq_zero]
    intro hm
    obtain ⟨j, hj⟩ := List.getElem?_of_mem hm
    rw [List.getElem?_drop] at hj
    exact hn (f + j) (Nat.le_add_right _ _) ((StrLaws.subAt_one x c (f + j)).mpr hj)
  | d :: r, a, f, h, hn => by
    obtain ⟨h1, h2, h3, h4⟩ := h
    have ih := count_aux x c r _ f h4 hn
    have hd := (StrLaws.subAt_one x c d).mp h2
    have hdl : d < x.cps.toList.length := (List.getElem?_eq_some_iff.mp hd).1
    have e1 : x.cps.toList.drop a = (x.cps.toList.drop a).take (d - a) ++ x.cps.toList.drop d := by
      conv => lhs; rw [← List.take_append_drop (d - a) (x.cps.toList.drop a)]
      rw [List.drop_drop]
      congr 2; omega
    have e2 : x.cps.toList.drop d = c :: x.cps.toList.drop (d + 1) := by
      rw [List.drop_eq_getElem_cons hdl]
      congr 1
      rw [List.getElem?_eq_getElem hdl] at hd
      exact Option.some.inj hd
    have e3 : ((x.cps.toList.drop a).take (d - a)).count c = 0 := by
      rw [List.count_eq_zero]
      intro hm
      obtain ⟨j, hj⟩ := List.getElem?_of_mem hm
      have hlt : j < d - a := by
        have := (List.getElem?_eq_some_iff.mp hj).1
        rw [List.length_take] at this
        omega
      rw [List.getElem?_take_of_lt hlt, List.getElem?_drop] at hj
      exact h3 (a + j) (Nat.le_add_right _ _) (by omega) ((StrLaws.subAt_one x c (a + j)).mpr hj)
    have e4 : d + (⟨#[c]⟩ : Str).length = d + 1 := rfl
    rw [e4] at ih
    rw [e1, e2, List.count_append, e3, List.count_cons_self, List.length_cons, ih]
    omega
theorem count_S (x : List Nat) (c : Nat) : Txt.count (S x) (S [c]) = ((x.count c : Nat) : Int) := by
  obtain ⟨f, h1, h2⟩ := StrLaws.occ_tight (S x) ⟨#[c]⟩ (Nat.le_refl 1)
  have := count_aux (S x) c _ 0 f h1 h2
  unfold Txt.count
  have e : S [c] = (⟨#[c]⟩ : Str) := rfl
  rw [e, this]
  simp [S]

section
variable {f : Fm} {O : List (Addr × List Dat)} {ρ : List (Str × Slot)} {o e : Expr} {ap pos : Pos} {c d : Dat}

-- a method of a text, with one argument 
theorem Ev.methS {x : Str} {name : Str} {id : String} (ho : Ev f O ρ o (.str x)) (he : Ev f O ρ e d) (slot : PySem.Slot "str" name id) (ty : typeOf (.builtin id) = pure (.type "method_descriptor")) (h : Op2 f O ρ (fun a b => call (.builtin id) [a, b]) (.str x) d c)
    (hbase : attributeBase o name f.env (eval o f.env) = eval o f.env := by rfl) (hs : starEach [e] f.env = [(false, eval e f.env)] := by rfl) (hline : (ap.endLine == pos.line) = true := by rfl) : Ev f O ρ (.Call (.Attribute o name ap) [e] [] pos) c := by
  first | apply Ev.mk | apply EvS.mk | apply Tr.mk | apply EvL.mk | apply Ex.mk | apply ExS.mk | apply It.mk | skip
  intro s Q E st k
  refine Call_method1 hbase hs hline (ho.run s _ _ st fun v s₁ m₁ h₁ => ?_)
  cases h₁
  rename_i tx
  refine ⟨"str", id, F.plainAttrs_str, slot, ty, typeIs_str _ _ _, (fun a q => nomatch q), ?_⟩
  refine PySem.Calls.callWith_builtin rfl (PySem.Calls.evalArgs_plain (PySem.Calls.spliced_cons (he.run s₁ _ _ (st.mv m₁) fun v s₂ m₂ h₂ => PySem.Calls.spliced_nil ?_)))
  exact h s₂ _ v _ _ (st.mv (m₁.trans m₂)) (.str x tx) h₂ fun u s₃ m₃ h₃ => k u s₃ (m₁.trans (m₂.trans m₃)) h₃

theorem HasL.strs {V : List Addr} {h : Heap} : ∀ {vs : List Value} {ps : List (List Nat)}, HasL V h vs (ps.map fun p => Dat.str (S p)) → ∃ l : List (Str × Tok), vs = strValues l ∧ l.map (·.1) = ps.map S
  | _, [], .nil => ⟨[], rfl, rfl⟩
  | _, p :: ps, .cons a b => by
    obtain ⟨l, rfl, e⟩ := HasL.strs b
    cases a with
    | str x t => exact ⟨(S p, t) :: l, rfl, by simp [e]⟩

theorem joinOk_of (sep : Str) (ts : List Str) (h : (ts.map (·.length)).sum + ts.length * sep.length ≤ sizeLine) : JoinOk sep ts = true := by
  have go : ∀ (ts : List Str) (n : Nat), ts.foldl (fun a (x : Str) => a + x.length + sep.length) n = n + (ts.map (·.length)).sum + ts.length * sep.length := by
    intro ts
    induction ts with
    | nil => intro n; simp
    | cons t ts ih => intro n; rw [List.foldl_cons, ih]; simp only [List.map_cons, List.sum_cons, List.length_cons, Nat.add_mul, Nat.one_mul]; omega
  unfold JoinOk Builtin.Str.tooLong
  rw [List.foldl_toArray' (h := rfl), go]
  simp; omega

theorem Op2.joinL {sep : List Nat} {ds : List Dat} (ps : List (List Nat)) (hds : ds = ps.map fun p => Dat.str (S p)) (hsz : (ps.map (·.length)).sum + ps.length * sep.length ≤ sizeLine) : Op2 f O ρ (fun a b => call (.builtin "str.join") [a, b]) (.str (S sep)) (.list ds) (.str (S (jn sep ps))) := by
  subst hds
  intro s va vb Q E st ha hb k
  cases ha
  obtain ⟨a, vs, rfl, i1, n1, l1⟩ := hb.lists
  obtain ⟨l, rfl, e⟩ := l1.strs
  refine SC.join i1.isList e (joinOk_of _ _ ?_) fun t' tk => ?_
  · have e1 : (ps.map S).map (·.length) = ps.map (·.length) := by rw [List.map_map]; apply List.map_congr_left; intro p _; exact S_length p
    rw [e1, List.length_map, S_length]; exact hsz
  · have : Txt.join (S sep) (ps.map S) = S (jn sep ps) := by
      unfold Txt.join; rw [StrLaws.glued_eq_join, jn_S]
    rw [this]
    exact k _ _ (.toks _) (.str _ _)

theorem newStrs {s : Shared} {tk : Nat} (st : St f O ρ s) {l : List (Str × Tok)} {ps : List (List Nat)} (hl : l.map (·.1) = ps.map S) : Has (f.V O) (s.heap.push { cls := .type "list", data := .seq (strValues l).toArray }) (.ref s.heap.objs.size) (.list (ps.map fun p => Dat.str (S p))) := by
  refine newL st ?_
  induction ps generalizing l with
  | nil => cases l with | nil => exact .nil | cons a b => simp at hl
  | cons p ps ih =>
    cases l with
    | nil => simp at hl
    | cons a l =>
      simp only [List.map_cons, List.cons.injEq] at hl
      show HasL _ _ (Value.str a.1 a.2 :: strValues l) (Dat.str (S p) :: ps.map fun p => Dat.str (S p))
      rw [hl.1]
      exact .cons (.str _ _) (ih hl.2)

theorem Op2.splitOne {x : List Nat} {y : Nat} (hsz : x.length + 1 ≤ sizeLine) : Op2 f O ρ (fun a b => call (.builtin "str.split") [a, b]) (.str (S x)) (.str (S [y])) (.list ((cut y x).map fun p => Dat.str (S p))) := by
  intro s va vb Q E st ha hb k
  cases ha; cases hb
  rename_i t u
  have hx : (S x).length ≤ sizeLine := by rw [S_length]; omega
  have hy : ((S [y]).length == 0) = false := rfl
  have hsp := split_S x y
  cases h1 : (decide ((S x).length < (S [y]).length) || decide (Builtin.Str.strKind (S x) < Builtin.Str.strKind (S [y])))
  · cases hf : (Builtin.Str.occurrences (S x) (S [y]) 0 (S x).length ((S x).length + 1)).isEmpty
    · have e : Txt.split (S x) (S [y]) = Builtin.Str.partsBetween (S x) (Builtin.Str.occurrences (S x) (S [y]) 0 (S x).length ((S x).length + 1)) (S [y]).length := by
        unfold Txt.split; rw [h1, hf]; rfl
      have hn : (Builtin.Str.partsBetween (S x) (Builtin.Str.occurrences (S x) (S [y]) 0 (S x).length ((S x).length + 1)) (S [y]).length).length ≤ sizeLine := by
        rw [← e, hsp, List.length_map]
        exact Nat.le_trans (cut_len y x) hsz
      refine call_meets F.slot_str_split (typeIs_str _ _ _) F.entry_str_split (F.args_str_split_2 _ _) (meets_str_split_sep (S x) (S [y]) t u h1 hy hf hx hn) ?_
      show wants Q E _ { s with toks := _, heap := s.heap.push { cls := .type "list", data := .seq (strsFrom s.toks (Builtin.Str.partsBetween (S x) (Builtin.Str.occurrences (S x) (S [y]) 0 (S x).length ((S x).length + 1)) (S [y]).length)).toArray } }
      rw [strsFrom_eq]
      exact k _ _ (.of_keep fun b o e => Heap.get?_push_of_some _ e) (newStrs (tk := 0) st (by rw [numbered_texts, ← e, hsp]))
    · have e : Txt.split (S x) (S [y]) = [S x] := by unfold Txt.split; rw [h1, hf]; rfl
      exact call_meets F.slot_str_split (typeIs_str _ _ _) F.entry_str_split (F.args_str_split_2 _ _) (meets_str_split_not_found (S x) (S [y]) t u h1 hy hf)
        (k _ _ (.of_keep fun b o e => Heap.get?_push_of_some _ e) (newStrs (tk := 0) st (l := [(S x, t)]) (by rw [← hsp, e]; rfl)))
  · have e : Txt.split (S x) (S [y]) = [S x] := by unfold Txt.split; rw [h1]; rfl
    exact call_meets F.slot_str_split (typeIs_str _ _ _) F.entry_str_split (F.args_str_split_2 _ _) (meets_str_split_cannot_occur (S x) (S [y]) t u h1)
      (k _ _ (.of_keep fun b o e => Heap.get?_push_of_some _ e) (newStrs (tk := 0) st (l := [(S x, t)]) (by rw [← hsp, e]; rfl)))

theorem Op2.countOne {x : List Nat} {y : Nat} : Op2 f O ρ (fun a b => call (.builtin "str.count") [a, b]) (.str (S x)) (.str (S [y])) (.int ((x.count y : Nat) : Int)) := by
  intro s va vb Q E st ha hb k
  cases ha; cases hb
  refine SC.count ?_
  rw [count_S]
  exact k _ _ (.toks _) (.int _ _)

-- ### in 
theorem Op2.inStr1 {x : List Nat} {y : Nat} : Op2 f O ρ (compareOp .In) (.str (S [y])) (.str (S x)) (.bool (decide (y ∈ x))) := by
  intro s va vb Q E st ha hb k
  cases ha; cases hb
  refine P.in_str ?_
  have := StrLaws.found_one (S x) y
  have e : S [y] = (⟨#[y]⟩ : Str) := rfl
  rw [e, this]
  have e2 : (S x).cps.toList = x := by simp [S]
  rw [e2]
  exact k _ _ (.refl s) (.bool _)
theorem Op2.notInStr1 {x : List Nat} {y : Nat} : Op2 f O ρ (compareOp .NotIn) (.str (S [y])) (.str (S x)) (.bool (!decide (y ∈ x))) := by
  intro s va vb Q E st ha hb k
  cases ha; cases hb
  refine PyProof.Rows.notIn_str ?_
  have := StrLaws.found_one (S x) y
  have e : S [y] = (⟨#[y]⟩ : Str) := rfl
  rw [e, this]
  have e2 : (S x).cps.toList = x := by simp [S]
  rw [e2]
  exact k _ _ (.refl s) (.bool _)
theorem HasL.strsAre {V : List Addr} {h : Heap} : ∀ {vs : List Value} {ps : List Str}, HasL V h vs (ps.map Dat.str) → StrsAre vs ps
  | _, [], .nil => .nil
  | _, p :: ps, .cons a b => by
    cases a with
    | str x t => exact .cons _ _ (HasL.strsAre b)
theorem Op2.inStrs {x : Str} {ys : List Str} : Op2 f O ρ (compareOp .In) (.str x) (.tuple (ys.map Dat.str)) (.bool (ys.any (· == x))) := by
  intro s va vb Q E st ha hb k
  cases ha
  cases hb with
  | tuple i1 n1 h1 => exact in_tuple_strs i1 (by simpa using h1.strsAre) (k _ _ (.refl s) (.bool _))

-- ### equal data 
mutual
theorem Has.reads {V : List Addr} {h : Heap} : ∀ {v : Value} {d : Dat} (n : Nat), Has V h v d → kqdOk n d = true → ∃ as, Reads h v (kqdP d) as
  | _, _, _, .none, _ => ⟨_, Reads.none⟩
  | _, _, _, .bool b, _ => ⟨_, Reads.bool b⟩
  | _, _, _, .int i t, _ => ⟨_, Reads.int i t⟩
  | _, _, _, .str x t, _ => ⟨_, Reads.str x t⟩
  | _, _, 0, .tuple _ _ _, hk => by simp [kqdOk] at hk
  | _, _, 0, .list _ _ _, hk => by simp [kqdOk] at hk
  | _, _, n + 1, .tuple ⟨o, e, c, m, dd⟩ _ r, hk => by
    obtain ⟨as, q⟩ := HasL.reads n r (by simpa [kqdOk] using hk)
    rw [kqdP]
    exact ⟨as, Reads.tuple e c dd (by simpa using q)⟩
  | _, _, n + 1, .list ⟨m, e⟩ _ r, hk => by
    obtain ⟨as, q⟩ := HasL.reads n r (by simpa [kqdOk] using hk)
    rw [kqdP]
    exact ⟨_, Reads.list e rfl rfl (by simpa using q)⟩
theorem HasL.reads {V : List Addr} {h : Heap} : ∀ {vs : List Value} {ds : List Dat} (n : Nat), HasL V h vs ds → (∀ d ∈ ds, kqdOk n d = true) → ∃ as, ReadsAll h vs (kqdPs ds) as
  | _, _, _, .nil, _ => ⟨_, ReadsAll.nil⟩
  | _, _, n, .cons hd r, hk => by
    obtain ⟨as, q⟩ := Has.reads n hd (hk _ (.head _))
    obtain ⟨bs, p⟩ := HasL.reads n r fun d hm => hk d (.tail _ hm)
    rw [kqdPs]
    exact ⟨_, ReadsAll.cons q p⟩
end
theorem kqd_bool {d e : Dat} {b : Bool} (h1 : kqdOk 8 d = true) (h2 : kqdOk 8 e = true) (hb : b = true ↔ d = e) : PyData.eqv (kqdP d) (kqdP e) = b := by
  have q := kqd_eqv 8 d e 8 h1 h2
  rw [Bool.eq_iff_iff, q, hb]
theorem kqd_shaped {d : Dat} (h1 : kqdOk 8 d = true) : SeqAt.shaped (kqdP d) = true := by
  have l := kqd_lay 8 d h1
  unfold SeqAt.shaped; rw [l.1, Bool.true_and]; exact decide_eq_true (Nat.le_trans l.2 (by decide))
theorem Op2.eqD {a e : Dat} {b : Bool} (h1 : kqdOk 8 a = true) (h2 : kqdOk 8 e = true) (hu : f.A.units + 64 < cLine) (hb : b = true ↔ a = e) : Op2 f O ρ (compareOp .Eq) a e (.bool b) := by
  intro s va vb Q E st ha hb' k
  obtain ⟨as, ra⟩ := ha.reads 8 h1
  obtain ⟨bs, rb⟩ := hb'.reads 8 h2
  refine eq_dataH ra rb (kqd_shaped h1) (kqd_shaped h2) hu ?_
  rw [kqd_bool h1 h2 hb]
  exact k _ _ (.refl s) (.bool _)
theorem Op2.neD {a e : Dat} {b : Bool} (h1 : kqdOk 8 a = true) (h2 : kqdOk 8 e = true) (hu : f.A.units + 64 < cLine) (hb : b = true ↔ a = e) : Op2 f O ρ (compareOp .NotEq) a e (.bool (!b)) := by
  intro s va vb Q E st ha hb' k
  obtain ⟨as, ra⟩ := ha.reads 8 h1
  obtain ⟨bs, rb⟩ := hb'.reads 8 h2
  refine ne_dataH ra rb (kqd_shaped h1) (kqd_shaped h2) hu ?_
  rw [kqd_bool h1 h2 hb]
  exact k _ _ (.refl s) (.bool _)
end
end Mine

namespace Mine

-- ## the reader, plainly 
def scanQ (q : Nat) : List Nat → List Nat
  | [] => []
  | c :: r => if c = q then (match r with | d :: r' => if d = q then q :: scanQ q r' else [] | [] => []) else c :: scanQ q r
theorem scanQ_nil (q : Nat) : scanQ q [] = [] := by simp [scanQ]
theorem scanQ_qq (q : Nat) (r : List Nat) : scanQ q (q :: q :: r) = q :: scanQ q r := by simp [scanQ]
theorem scanQ_one (q : Nat) : scanQ q [q] = [] := by simp [scanQ]
theorem scanQ_q (q : Nat) {d : Nat} (r : List Nat) (h : ¬ d = q) : scanQ q (q :: d :: r) = [] := by simp [scanQ, h]
theorem scanQ_ne (q : Nat) {c : Nat} (r : List Nat) (h : ¬ c = q) : scanQ q (c :: r) = c :: scanQ q r := by
  cases r <;> simp [scanQ, h]
theorem scanQ_induct {q : Nat} {P : List Nat → Prop} (h0 : P []) (h1 : P [q]) (h2 : ∀ r, P r → P (q :: q :: r)) (h3 : ∀ d r, ¬ d = q → P (q :: d :: r)) (h4 : ∀ c r, ¬ c = q → P r → P (c :: r)) : ∀ l, P l := by
  intro l
  induction hn : l.length using Nat.strongRecOn generalizing l with
  | ind n ih =>
    match l, hn with
    | [], _ => exact h0
    | [c], hn =>
      by_cases hc : c = q
      · rw [hc]; exact h1
      · exact h4 c [] hc h0
    | c :: d :: r, hn =>
      by_cases hc : c = q
      · rw [hc]
        by_cases hd : d = q
        · rw [hd]; exact h2 r (ih r.length (by simp at hn; omega) r rfl)
        · exact h3 d r hd
      · exact h4 c (d :: r) hc (ih (d :: r).length (by simp at hn ⊢; omega) (d :: r) rfl)
theorem scan_eq : ∀ l, scan l = scanQ 34 l := by
  refine scanQ_induct (q := 34) ?_ ?_ ?_ ?_ ?_
  · rw [scan_nil, scanQ_nil]
  · rw [scan_q _ (by simp), scanQ_one]
  · intro r h; rw [scan_qq, scanQ_qq, h]
  · intro d r h; rw [scan_q _ (by simpa using h), scanQ_q _ _ h]
  · intro c r h ih; rw [scan_ne _ h, scanQ_ne _ _ h, ih]
theorem scanQ_len (q : Nat) : ∀ l, (scanQ q l).length ≤ l.length := by
  refine scanQ_induct (q := q) ?_ ?_ ?_ ?_ ?_
  · rw [scanQ_nil]; exact Nat.le_refl _
  · rw [scanQ_one]; simp
  · intro r h; rw [scanQ_qq]; simp; omega
  · intro d r h; rw [scanQ_q _ _ h]; simp
  · intro c r h ih; rw [scanQ_ne _ _ h]; simpa using ih
def trn (c : Nat) : Nat := if c = 34 then 39 else if c = 39 then 34 else c
def turn (l : List Nat) : List Nat := l.map trn
theorem trn_trn (c : Nat) : trn (trn c) = c := by
  unfold trn
  by_cases h : c = 34
  · simp [h]
  · by_cases h' : c = 39
    · simp [h']
    · simp [h, h']
theorem turn_length (l : List Nat) : (turn l).length = l.length := by simp [turn]
theorem trn_34 {c : Nat} : trn c = 34 ↔ c = 39 := by
  unfold trn
  by_cases h : c = 34
  · simp [h]
  · by_cases h' : c = 39
    · simp [h']
    · simp [h, h']
theorem turn_scan : ∀ l, turn (scanQ 34 (turn l)) = scanQ 39 l := by
  refine scanQ_induct (q := 39) ?_ ?_ ?_ ?_ ?_
  · simp [turn, scanQ_nil]
  · show turn (scanQ 34 [34]) = _
    rw [scanQ_one, scanQ_one]; rfl
  · intro r h
    show turn (scanQ 34 (34 :: 34 :: turn r)) = _
    rw [scanQ_qq, scanQ_qq, ← h]; rfl
  · intro d r h
    show turn (scanQ 34 (34 :: trn d :: turn r)) = _
    rw [scanQ_q _ _ (fun e => h (trn_34.mp e)), scanQ_q _ _ h]; rfl
  · intro c r h ih
    show turn (scanQ 34 (trn c :: turn r)) = _
    rw [scanQ_ne _ _ (fun e => h (trn_34.mp e)), scanQ_ne _ _ h, ← ih]
    show trn (trn c) :: turn (scanQ 34 (turn r)) = _
    rw [trn_trn]

-- the last word goes on 
def app (ws : List (Nat × List Nat)) (st : List Nat) : List (Nat × List Nat) :=
  match ws.getLast? with
  | some p => ws.dropLast ++ [(p.1, p.2 ++ st)]
  | none => ws
-- a word begins 
def beg (fresh : Bool) (c : Nat) (ws : List (Nat × List Nat)) : List (Nat × List Nat) := if fresh then ws ++ [(if c = 34 then 1 else 0, [])] else ws
def rdN : Nat → List Nat → Bool → List (Nat × List Nat) → List (Nat × List Nat)
  | 0, _, _, ws => ws
  | _ + 1, [], _, ws => ws
  | n + 1, c :: r, fresh, ws =>
    if c = 39 ∨ c = 34 then rdN n (r.drop ((scanQ c r).length + (scanQ c r).count c + 1)) false (app (beg fresh c ws) (scanQ c r))
    else if c = 32 then rdN n r true (beg fresh c ws) else rdN n r false (app (beg fresh c ws) [c])
theorem rdN_more : ∀ (n m : Nat) (l : List Nat) (fr : Bool) (ws : List (Nat × List Nat)), l.length ≤ n → l.length ≤ m → rdN n l fr ws = rdN m l fr ws
  | 0, 0, _, _, _, _, _ => rfl
  | 0, m + 1, [], _, _, _, _ => rfl
  | 0, m + 1, c :: r, _, _, h, _ => by simp at h
  | n + 1, 0, [], _, _, _, _ => rfl
  | n + 1, 0, c :: r, _, _, _, h => by simp at h
  | n + 1, m + 1, [], _, _, _, _ => rfl
  | n + 1, m + 1, c :: r, fr, ws, h1, h2 => by
    have h1' : r.length ≤ n := by simpa using h1
    have h2' : r.length ≤ m := by simpa using h2
    have hd : ∀ k, (r.drop k).length ≤ r.length := fun k => by rw [List.length_drop]; omega
    unfold rdN
    split
    · exact rdN_more n m _ _ _ (Nat.le_trans (hd _) h1') (Nat.le_trans (hd _) h2')
    · split
      · exact rdN_more n m _ _ _ h1' h2'
      · exact rdN_more n m _ _ _ h1' h2'
def rdL (l : List Nat) (fr : Bool) (ws : List (Nat × List Nat)) : List (Nat × List Nat) := rdN l.length l fr ws
theorem rdL_nil (fr : Bool) (ws : List (Nat × List Nat)) : rdL [] fr ws = ws := rfl
theorem rdL_mark {c : Nat} (r : List Nat) (fr : Bool) (ws : List (Nat × List Nat)) (h : c = 39 ∨ c = 34) : rdL (c :: r) fr ws = rdL (r.drop ((scanQ c r).length + (scanQ c r).count c + 1)) false (app (beg fr c ws) (scanQ c r)) := by
  unfold rdL
  rw [List.length_cons, rdN, if_pos h]
  exact rdN_more _ _ _ _ _ (by rw [List.length_drop]; omega) (Nat.le_refl _)
theorem rdL_blank (r : List Nat) (fr : Bool) (ws : List (Nat × List Nat)) : rdL (32 :: r) fr ws = rdL r true (beg fr 32 ws) := by
  unfold rdL
  rw [List.length_cons, rdN, if_neg (by decide), if_pos rfl]
theorem rdL_sign {c : Nat} (r : List Nat) (fr : Bool) (ws : List (Nat × List Nat)) (h : ¬ (c = 39 ∨ c = 34)) (h' : ¬ c = 32) : rdL (c :: r) fr ws = rdL r false (app (beg fr c ws) [c]) := by
  unfold rdL
  rw [List.length_cons, rdN, if_neg h, if_neg h']
def rd (l : List Nat) : List (Nat × List Nat) := rdL l true []

theorem app_length (ws : List (Nat × List Nat)) (st : List Nat) : (app ws st).length = ws.length := by
  unfold app
  cases h : ws.getLast? with
  | none => rfl
  | some p =>
    have : ws ≠ [] := by rintro rfl; simp at h
    have : 0 < ws.length := List.length_pos_iff.mpr this
    simp; omega
theorem app_ne {ws : List (Nat × List Nat)} (st : List Nat) (h : ws ≠ []) : app ws st ≠ [] := by
  intro e
  have := app_length ws st
  rw [e] at this
  exact h (List.length_eq_zero_iff.mp this.symm)
theorem app_eq {ws : List (Nat × List Nat)} {p : Nat × List Nat} (st : List Nat) (h : ws.getLast? = some p) : app ws st = ws.dropLast ++ [(p.1, p.2 ++ st)] := by
  unfold app; rw [h]
def wsum (ws : List (Nat × List Nat)) : Nat := (ws.map (·.2.length)).sum
theorem wsum_app {ws : List (Nat × List Nat)} (st : List Nat) : wsum (app ws st) ≤ wsum ws + st.length := by
  unfold app
  cases h : ws.getLast? with
  | none => exact Nat.le_add_right _ _
  | some p =>
    obtain ⟨as, rfl⟩ : ∃ as, ws = as ++ [p] := by
      have : ws ≠ [] := by rintro rfl; simp at h
      refine ⟨ws.dropLast, ?_⟩
      rw [List.getLast?_eq_some_getLast this] at h
      have h' := Option.some.inj h
      rw [← h']
      exact (List.dropLast_concat_getLast this).symm
    simp only [List.dropLast_concat, wsum, List.map_append, List.sum_append, List.map_cons, List.map_nil, List.sum_cons, List.sum_nil, List.length_append]
    omega
theorem wsum_beg (fr : Bool) (c : Nat) (ws : List (Nat × List Nat)) : wsum (beg fr c ws) = wsum ws := by
  unfold beg; cases fr <;> simp [wsum]
theorem beg_length (fr : Bool) (c : Nat) (ws : List (Nat × List Nat)) : (beg fr c ws).length ≤ ws.length + 1 := by
  unfold beg; cases fr <;> simp
theorem beg_ne {fr : Bool} {c : Nat} {ws : List (Nat × List Nat)} (h : fr = false → ws ≠ []) : beg fr c ws ≠ [] := by
  unfold beg; cases fr with
  | true => simp
  | false => simpa using h rfl
theorem wsum_last {ws : List (Nat × List Nat)} {p : Nat × List Nat} (h : ws.getLast? = some p) : p.2.length ≤ wsum ws := by
  have hm : p ∈ ws := List.mem_of_getLast? h
  unfold wsum
  clear h
  induction ws with
  | nil => cases hm
  | cons a r ih =>
    simp only [List.map_cons, List.sum_cons]
    rcases List.mem_cons.mp hm with rfl | hm
    · omega
    · have := ih hm; omega
end Mine

namespace Mine
-- a statement's one way on, beside those that leave the block 
def orNext (O₁ : List (Addr × List Dat)) (ρ₁ : List (Str × Slot)) (Φ : Ot → Prop) : Ot → Prop
  | .next O ρ => O = O₁ ∧ Sub ρ₁ ρ
  | .brk O ρ => Φ (.brk O ρ)
  | .cont O ρ => Φ (.cont O ρ)
  | .ret d => Φ (.ret d)
section
variable {f : Fm} {O O₁ : List (Addr × List Dat)} {ρ ρ₁ : List (Str × Slot)} {e l r t value : Expr} {pos p : Pos} {a b c d : Dat} {Φ Ψ : Ot → Prop} {stm : Stmt} {rest : List Stmt}
theorem ExS.mono (h : ExS f O ρ stm Φ) (hi : ∀ o, Φ o → Ψ o) : ExS f O ρ stm Ψ := by
  first | apply Ex.mk | apply ExS.mk
  exact fun s E st => wpAny_mono (h.run s E st) (fun _ _ x => x.mono hi) fun _ _ x => x
theorem Ex.consM (O₁ : List (Addr × List Dat)) (ρ₁ : List (Str × Slot)) (h : ExS f O ρ stm (orNext O₁ ρ₁ Φ)) (hr : Ex f O₁ ρ₁ rest Φ) : Ex f O ρ (stm :: rest) Φ := by
  refine Ex.consX (h.mono fun o ho => ?_)
  cases o with
  | next O' ρ' => obtain ⟨rfl, hs⟩ := ho; exact hr.weak hs
  | brk O' ρ' => exact ho
  | cont O' ρ' => exact ho
  | ret d => exact ho
theorem nextN (h : Sub ρ₁ ρ) : orNext O₁ ρ₁ Φ (.next O₁ ρ) := ⟨rfl, h⟩
theorem nilN (h : Sub ρ₁ ρ) : Ex f O₁ ρ [] (orNext O₁ ρ₁ Φ) := Ex.nilX ⟨rfl, h⟩
end
end Mine

namespace Mine
-- ## the search for an unsafe sign 
def CODE : Array Nat := #[14, 17, 4, 1, 1, 21, 9, 0, 604043296, 1, 0, 0, 0, 0, 0, 8, 4, 0, 13, 14, 21, 9, 0, 604043296, 1, 0, 0, 0, 0, 0, 8, 4, 0, 1]
def chset (c : Nat) : Bool := decide (c < 256) && (CODE.getD (6 + (1 + c / 32)) 0).testBit (c % 32)
def safeN (c : Nat) : Bool := chset c || Sre.isWord c
theorem cs2 (c : Nat) (h : c < 256) : CODE.getD (21 + (1 + c / 32)) 0 = CODE.getD (6 + (1 + c / 32)) 0 := by
  have h8 : c / 32 < 8 := by omega
  generalize c / 32 = k at h8
  have : ∀ k, k < 8 → CODE.getD (21 + (1 + k)) 0 = CODE.getD (6 + (1 + k)) 0 := by decide
  exact this k h8
theorem inSet5 (c : Nat) (seen : Sre.Seen) : ∃ seen', Sre.inSet CODE c 34 5 true seen = .ok (!safeN c, seen') := by
  unfold Sre.inSet
  show ∃ seen', Sre.inSet CODE c 33 6 false _ = .ok (!safeN c, seen')
  unfold Sre.inSet
  show ∃ seen', (if chset c = true then _ else Sre.inSet CODE c 32 15 false _) = .ok (!safeN c, seen')
  by_cases h : chset c = true
  · rw [if_pos h]; exact ⟨_, by rw [safeN, h]; rfl⟩
  · rw [if_neg h]
    unfold Sre.inSet
    show ∃ seen', (do if ← (Except.ok (Sre.isWord c)).map (· != (4 % 2 == 1)) then pure (false, _) else Sre.inSet CODE c 31 17 false _ : Except String (Bool × Sre.Seen)) = .ok (!safeN c, seen')
    have h' : chset c = false := by simpa using h
    cases hw : Sre.isWord c
    · show ∃ seen', Sre.inSet CODE c 31 17 false _ = .ok (!safeN c, seen')
      unfold Sre.inSet
      exact ⟨_, by rw [safeN, h', hw]; rfl⟩
    · exact ⟨_, by rw [safeN, h', hw]; rfl⟩
theorem inSet20 (c : Nat) (seen : Sre.Seen) : ∃ seen', Sre.inSet CODE c 34 20 true seen = .ok (!safeN c, seen') := by
  unfold Sre.inSet
  show ∃ seen', Sre.inSet CODE c 33 21 false _ = .ok (!safeN c, seen')
  unfold Sre.inSet
  show ∃ seen', (if (decide (c < 256) && (CODE.getD (21 + (1 + c / 32)) 0).testBit (c % 32)) = true then _ else Sre.inSet CODE c 32 30 false _) = .ok (!safeN c, seen')
  have e : (decide (c < 256) && (CODE.getD (21 + (1 + c / 32)) 0).testBit (c % 32)) = chset c := by
    unfold chset
    by_cases hc : c < 256
    · rw [cs2 c hc]
    · simp [hc]
  rw [e]
  by_cases h : chset c = true
  · rw [if_pos h]; exact ⟨_, by rw [safeN, h]; rfl⟩
  · rw [if_neg h]
    unfold Sre.inSet
    show ∃ seen', (do if ← (Except.ok (Sre.isWord c)).map (· != (4 % 2 == 1)) then pure (false, _) else Sre.inSet CODE c 31 32 false _ : Except String (Bool × Sre.Seen)) = .ok (!safeN c, seen')
    have h' : chset c = false := by simpa using h
    cases hw : Sre.isWord c
    · show ∃ seen', Sre.inSet CODE c 31 32 false _ = .ok (!safeN c, seen')
      unfold Sre.inSet
      exact ⟨_, by rw [safeN, h', hw]; rfl⟩
    · exact ⟨_, by rw [safeN, h', hw]; rfl⟩

theorem admitted_spec (m : Sre.M) (l : List Nat) (hc : m.code = CODE) (ht : m.text = l.toArray) (hl : m.lim = l.length) : ∀ (fuel s : Nat) (seen : Sre.Seen), l.length + 1 ≤ fuel + s →
    (if (l.drop s).all safeN then ∃ seen', m.admitted fuel s seen = .ok (none, seen') else ∃ p seen', m.admitted fuel s seen = .ok (some p, seen') ∧ ∃ c, l[p]? = some c ∧ safeN c = false)
  | 0, s, seen, h => by
    rw [List.drop_of_length_le (by omega)]
    exact ⟨_, rfl⟩
  | fuel + 1, s, seen, h => by
    unfold Sre.M.admitted
    rw [hl, hc, ht]
    by_cases hs : s ≥ l.length
    · rw [if_pos hs, List.drop_of_length_le hs]
      exact ⟨_, rfl⟩
    · rw [if_neg hs]
      have hs' : s < l.length := Nat.lt_of_not_ge hs
      rw [List.drop_eq_getElem_cons hs', List.all_cons]
      have e1 : l.toArray.getD s 0 = l[s] := by simp [Array.getD, hs']
      rw [e1]
      obtain ⟨sn, hsn⟩ := inSet5 l[s] seen
      have e2 : Sre.inSet CODE l[s] CODE.size 5 true seen = .ok (!safeN l[s], sn) := hsn
      rw [e2]
      have ih := admitted_spec m l hc ht hl fuel (s + 1) sn (by omega)
      cases hsf : safeN l[s]
      · simp only [Bool.false_and, Bool.false_eq_true, if_false]
        exact ⟨s, sn, rfl, l[s], List.getElem?_eq_getElem hs', hsf⟩
      · simp only [Bool.true_and]
        exact ih

def M0 (l : List Nat) : Sre.M := { code := CODE, text := l.toArray, lim := l.length, start := 0, lastStart := l.length, pc := 18, pos := 0, handed := 0, marks := Array.replicate (2 * 0) none, mustAdvance := false, seen := ({} : Sre.Seen).add 14 }
-- the search's end 
theorem search_end (l : List Nat) : (l.all safeN = true → ((Sre.forSearch CODE l.toArray 0 0 l.length false).runFor 4).outcome = some .failed) ∧
    (l.all safeN = false → ((Sre.forSearch CODE l.toArray 0 0 l.length false).runFor 4).outcome = some .matched) := by
  cases l with
  | nil => exact ⟨fun _ => by rfl, fun h => nomatch h⟩
  | cons a r =>
    generalize hL : a :: r = l
    have hlen : 0 < l.length := by rw [← hL]; simp
    have e0 : Sre.forSearch CODE l.toArray 0 0 l.length false = if (decide (0 > l.length) || decide (l.length - 0 < 1)) = true then (M0 l).say false else (M0 l).attemptFrom 0 true := by
      have : Sre.forSearch CODE l.toArray 0 0 l.length false = if (decide (0 > l.length) || decide (l.length - 0 < 1)) = true then ({ M0 l with lastStart := 0 } : Sre.M).say false else (M0 l).attemptFrom 0 true := rfl
      rw [this]
      have hf : ¬ ((decide (0 > l.length) || decide (l.length - 0 < 1)) = true) := by intro h; rw [Bool.or_eq_true, decide_eq_true_eq, decide_eq_true_eq] at h; omega
      rw [if_neg hf, if_neg hf]
    have hf : ¬ ((decide (0 > l.length) || decide (l.length - 0 < 1)) = true) := by intro h; rw [Bool.or_eq_true, decide_eq_true_eq, decide_eq_true_eq] at h; omega
    rw [e0, if_neg hf]
    have e1 : (M0 l).attemptFrom 0 true = match (M0 l).admitted (l.length + 1) 0 (M0 l).seen with
      | .ok (some s, seen) => { M0 l with mustAdvance := false, seen }.attemptAt s true
      | .ok (none, seen) => { M0 l with seen }.say false
      | .error why => (M0 l).stick why := by rfl
    rw [e1]
    have sp := admitted_spec (M0 l) l rfl rfl rfl (l.length + 1) 0 (M0 l).seen (by omega)
    rw [List.drop_zero] at sp
    cases hall : l.all safeN
    · rw [hall, if_neg (by decide)] at sp
      obtain ⟨p, seen', ha, c, hc, hs⟩ := sp
      refine ⟨(fun h => nomatch h), fun _ => ?_⟩
      rw [ha]
      have hp : p < l.length := (List.getElem?_eq_some_iff.mp hc).1
      dsimp only
      generalize hm1 : ({ M0 l with mustAdvance := false, seen := seen' } : Sre.M).attemptAt p true = m1
      have hst : m1.step = m1.exec := by rw [← hm1]; rfl
      have hex : ∃ sn, m1.exec = { m1 with seen := sn, pc := 33, pos := p + 1 } := by
        have hm1' : m1.exec = if m1.pos ≥ m1.lim then ({ m1 with seen := m1.seen.add (m1.word 0) } : Sre.M).say false else
            match Sre.accepts CODE 18 (l.toArray.getD p 0) (m1.seen.add 13) with
            | .error why => ({ m1 with seen := m1.seen.add (m1.word 0) } : Sre.M).stick why
            | .ok (false, seen) => { m1 with seen }.say false
            | .ok (true, seen) => { m1 with seen, pc := m1.pc + Sre.itemWidth m1.code m1.pc, pos := m1.pos + 1 } := by rw [← hm1]; rfl
        have hpos : m1.pos = p := by rw [← hm1]; rfl
        have hlim : m1.lim = l.length := by rw [← hm1]; rfl
        rw [hm1', hpos, hlim, if_neg (Nat.not_le.mpr hp)]
        have eg : l.toArray.getD p 0 = c := by
          have := (List.getElem?_eq_some_iff.mp hc).2
          simp [Array.getD, hp, this]
        rw [eg]
        obtain ⟨sn, hsn⟩ := inSet20 c (m1.seen.add 13)
        have ea : Sre.accepts CODE 18 c (m1.seen.add 13) = .ok (true, sn) := by
          rw [hs] at hsn
          exact hsn
        rw [ea]
        refine ⟨sn, ?_⟩
        dsimp only
        rw [← hm1]; rfl
      obtain ⟨sn, hex⟩ := hex
      have h1 : m1.runFor 4 = ({ m1 with seen := sn, pc := 33, pos := p + 1 } : Sre.M).runFor 3 := by
        have : m1.runFor 4 = if m1.outcome.isSome = true then m1 else m1.step.runFor 3 := rfl
        rw [this, if_neg (by rw [← hm1]; exact Bool.false_ne_true), hst, hex]
      rw [h1, ← hm1]
      rfl
    · rw [hall, if_pos rfl] at sp
      obtain ⟨seen', ha⟩ := sp
      refine ⟨fun _ => ?_, (fun h => nomatch h)⟩
      rw [ha]
      rfl
end Mine

namespace Mine
-- ## the call of a pattern's search 
theorem entry_search : entryFor table "re.Pattern.search" = some Builtin.«re.Pattern.search» := entryFor_of_tree (by kernel_rfl)
theorem quiet_search {as : Args} : (Code.builtin "re.Pattern.search" as).quiet = true := Code.quiet_builtin _ (by decide +kernel)
def boundObj (pa : Addr) : Obj := { cls := .type "builtin_function_or_method", data := .fields #[.builtin "re.Pattern.search", .ref pa] }
-- a pattern's heap 
structure PatIs (h : Heap) (fa pa ca : Addr) : Prop where
  f : h.get? fa = some (boundObj pa)
  p : ∃ a b c d e t, h.get? pa = some { cls := .type "re.Pattern", data := .fields #[a, b, .int 0 c, d, e, .ref ca, .int 0 t] }
  c : ∃ items n cls, h.get? ca = some { cls := cls, data := .seq items n } ∧ (items.map Builtin.Re.reRawOf).map (·.toNat) = CODE
section
variable {prog : Program} {w : World} {M : Model} {A : Around} {E : Value → Shared → Prop} {s : Shared}
theorem wpAny_says {m : Sre.M} {Q : Unit → Shared → Prop} (l : List Nat) (h : Q () s) : wpAny M A (forIn l PUnit.unit fun i r => if m.seen.has i = true then do rule (Sre.names.getD i ""); pure (ForInStep.yield PUnit.unit) else pure (ForInStep.yield PUnit.unit)) Q E s := by
  induction l with
  | nil => exact wpAny_pure h
  | cons a r ih =>
    rw [List.forIn_cons]
    refine wpAny_bind ?_
    split
    · exact wpAny_bind (wpAny_rule (wpAny_pure ih))
    · exact wpAny_pure ih
theorem wpAny_reRun {m : Sre.M} {Q : Option Sre.M → Shared → Prop} (hf : (m.runFor 4).outcome = some .failed) (h : Q none s) : wpAny M A (Builtin.Re.reRunToEnd m) Q E s := by
  unfold Builtin.Re.reRunToEnd
  have e : Builtin.Re.reDrive (2 ^ 64) m = pure (m.runFor 4) := by
    show Builtin.Re.reDrive (18446744073709551615 + 1) m = _
    unfold Builtin.Re.reDrive
    show (if (m.runFor 4).outcome.isSome = true then pure (m.runFor 4) else _) = _
    rw [hf]; rfl
  rw [e]
  refine wpAny_bind (wpAny_pure (wpAny_bind (wpAny_says _ ?_)))
  rw [hf]
  exact wpAny_pure h
theorem wpAny_reRunM {m : Sre.M} {Q : Option Sre.M → Shared → Prop} (hf : (m.runFor 4).outcome = some .matched) (h : Q (some (m.runFor 4)) s) : wpAny M A (Builtin.Re.reRunToEnd m) Q E s := by
  unfold Builtin.Re.reRunToEnd
  have e : Builtin.Re.reDrive (2 ^ 64) m = pure (m.runFor 4) := by
    show Builtin.Re.reDrive (18446744073709551615 + 1) m = _
    unfold Builtin.Re.reDrive
    show (if (m.runFor 4).outcome.isSome = true then pure (m.runFor 4) else _) = _
    rw [hf]; rfl
  rw [e]
  refine wpAny_bind (wpAny_pure (wpAny_bind (wpAny_says _ ?_)))
  rw [hf]
  exact wpAny_pure h

theorem search_tree {fa pa ca : Addr} {l : List Nat} {t : Tok} {P : PySem.Fin → Shared → Prop} (hsz : l.length ≤ sizeLine) (X : PatIs s.heap fa pa ca) (h0 : l.all safeN = true → P (.done (.ret .none)) s)
    (h1 : l.all safeN = false → ∀ a h', (∀ b o, s.heap.get? b = some o → h'.get? b = some o) → P (.done (.ret (.ref a))) { s with heap := h' }) :
    wpAny M A (Builtin.«re.Pattern.search» ⟨[.ref pa, .str (S l) t], []⟩) P E s := by
  obtain ⟨a, b, c, d, e, t2, hp⟩ := X.p
  obtain ⟨items, n, cls, hc, hcode⟩ := X.c
  unfold Builtin.«re.Pattern.search»
  refine wpAny_bind (m := Builtin.Re.reTarget "re.Pattern.search" "search" ⟨[.ref pa, .str (S l) t], []⟩) ?_
  unfold Builtin.Re.reTarget
  dsimp only
  refine wpAny_bind (wpAny_of_eq (a := [some (.str (S l) t), none, none]) (by first | rfl | kernel_rfl) ?_)
  dsimp only
  refine wpAny_bind (wpAny_pure (wpAny_bind (wpAny_pure (wpAny_bind (wpAny_fieldsOf hp rfl ?_)))))
  refine wpAny_bind (wpAny_of_eq (a := ((S l).cps, 0)) (by rfl) ?_)
  refine KFB.if_not (by rfl) ?_
  refine KFB.if_not (by rfl) ?_
  refine wpAny_bind (wpAny_of_eq (a := ()) (by rfl) ?_)
  refine wpAny_bind (wpAny_bind (wpAny_seqItems hc rfl (wpAny_pure ?_)))
  refine wpAny_pure ?_
  have e1 : min (0 : Int).toNat (S l).cps.size = 0 := by simp
  have e2 : min ((2 : Int) ^ 63 - 1).toNat (S l).cps.size = l.length := by
    rw [sizeLine_eq] at hsz
    have : (S l).cps.size = l.length := by simp [S]
    rw [this]; omega
  dsimp only
  have e3 : Builtin.Re.reRawNat (#[a, b, Value.int 0 c, d, e, Value.ref ca, Value.int 0 t2].getD 2 Value.none) = 0 := rfl
  have e4 : Array.map (fun x => x.toNat) (Array.map Builtin.Re.reRawOf ((some items).getD #[])) = CODE := hcode
  rw [e4, e3, e1, e2]
  unfold Builtin.Re.reAnswer
  have se := search_end l
  cases hall : l.all safeN
  · refine wpAny_bind (wpAny_reRunM (se.2 hall) ?_)
    show wpAny M A (Builtin.Re.reNewMatch (.ref pa) (.str (S l) t) 0 0 l.length _ >>= fun v => ret v) P E s
    refine wpAny_bind ?_
    unfold Builtin.Re.reNewMatch
    dsimp only
    refine KFB.if_not (by rfl) ?_
    refine wpAny_bind (wpAny_newTuple ?_ ?_)
    · exact wpAny_newObj_type (wpAny_pure (h1 hall _ _ fun b o hb => Heap.get?_push_of_some _ (Heap.get?_push_of_some _ hb)))
    · show 2 ≤ sizeLine
      rw [sizeLine_eq]; omega
  · exact wpAny_bind (wpAny_reRun (se.1 hall) (wpAny_pure (h0 hall)))
def SIG : Manifest.Signature := ⟨.keywords, "Pattern.search", "search", .self, [⟨"string", .posOrKw, true⟩, ⟨"pos", .posOrKw, false⟩, ⟨"endpos", .posOrKw, false⟩]⟩
theorem check_search {pa ca fa : Addr} {x : PySem.Str} {t : Tok} {Q : Unit → Shared → Prop} (X : PatIs s.heap fa pa ca) (h : Q () s) : wpAny M A (checkBoundCall "re.Pattern.search" ⟨[.ref pa, .str x t], []⟩) Q E s := by
  obtain ⟨a, b, c, d, e, t2, hp⟩ := X.p
  have hty : s.TypeIs (.ref pa) "re.Pattern" := ⟨_, hp, rfl⟩
  unfold checkBoundCall
  have e1 : Manifest.signature? "re.Pattern.search" = some SIG := by kernel_rfl
  have e2 : builtinKind "re.Pattern.search" = some .method := by kernel_rfl
  rw [e1, e2]
  dsimp only
  refine KFB.if_not (by decide) ?_
  refine wpAny_bind (wpAny_isInstance hty (b := false) (by rw [isSubtype_type]; kernel_rfl) ?_)
  refine KFB.if_not (by kernel_rfl) ?_
  refine wpAny_bind (m := isType (.ref pa)) (wpAny_bind (wpAny_load hp (wpAny_pure ?_)))
  dsimp only
  refine KFB.if_not (by rfl) ?_
  refine wpAny_bind (wpAny_typeOf hty ?_)
  exact wpAny_of_eq (a := ()) (by kernel_rfl) h
theorem callWith_search {pos : Pos} {fa pa : Addr} {args : List (Bool × Sem Value)} {Q : Value → Shared → Prop} (hplain : args.any (·.1) = false)
    (h : wpAny M A (evalArgs (.ref fa) true args []) (fun x s₁ => s₁.heap.get? fa = some (boundObj pa) ∧ wpAny M A (call (.ref fa) x.pos x.kw) Q E s₁) E s) : wpAny M A (callWith pos (.ref fa) [] args []) Q E s := by
  unfold callWith
  refine wpAny_bind (wpAny_holding (wpAny_mono h (fun x s₁ h₁ => wpAny_bind (wpAny_standAt ?_)) fun _ _ x => x))
  obtain ⟨ho, hcall⟩ := h₁
  simp only [hplain, List.any_nil, Bool.or_false]
  refine wpAny_bind (m := keeperOf (.ref fa)) ?_
  unfold keeperOf
  refine wpAny_bind (wpAny_load ho ?_)
  simp only [boundObj, show (Value.type "builtin_function_or_method" != Value.type "method") = true by decide, show (Value.type "builtin_function_or_method" == Value.type "builtin_function_or_method" || Value.type "builtin_function_or_method" == Value.type "method-wrapper") = true by decide, if_true]
  refine wpAny_pure ?_
  exact wpAny_bind (wpAny_mono hcall (fun r s₂ hr => wpAny_bind (wpAny_holding (wpAny_point (wpAny_pure hr)))) fun _ _ x => x)
theorem call_search {fa pa ca : Addr} {l : List Nat} {t : Tok} {Q : Value → Shared → Prop} (hsz : l.length ≤ sizeLine) (X : PatIs s.heap fa pa ca) (h0 : l.all safeN = true → Q .none s)
    (h1 : l.all safeN = false → ∀ a h', (∀ b o, s.heap.get? b = some o → h'.get? b = some o) → Q (.ref a) { s with heap := h' }) : wpAny (model prog w) A (call (.ref fa) [.str (S l) t]) Q E s := by
  refine wpAny_call (codeAny_of_tree ?_)
  show wpAny _ A.in1 (callAny (.ref fa) ⟨[.str (S l) t], []⟩) _ _ s
  simp only [callAny]
  refine wpAny_bind (wpAny_load X.f ?_)
  simp only [boundObj, show (Value.type "builtin_function_or_method" == Value.type "method" || Value.type "builtin_function_or_method" == Value.type "builtin_function_or_method" || Value.type "builtin_function_or_method" == Value.type "method-wrapper") = true by decide, if_true]
  refine KFB.if_so (by decide) ?_
  refine wpAny_bind (check_search X ?_)
  refine wpAny_bind (wpAny_pure (wpAny_pure ?_))
  exact ⟨quiet_search, codeAny_builtin entry_search (search_tree hsz X h0 h1)⟩
end
end Mine

namespace Mine
-- each y is written as z 
def rep (y : Nat) (z l : List Nat) : List Nat := l.flatMap fun c => if c = y then z else [c]
theorem jn_cons (sep p : List Nat) (ps : List (List Nat)) (h : ps ≠ []) : jn sep (p :: ps) = p ++ sep ++ jn sep ps := by
  cases ps with
  | nil => exact absurd rfl h
  | cons q r => rfl
theorem jn_head (sep : List Nat) (x : Nat) (p : List Nat) (ps : List (List Nat)) : jn sep ((x :: p) :: ps) = x :: jn sep (p :: ps) := by
  cases ps <;> simp [jn]
theorem jn_cut (z : List Nat) (y : Nat) : ∀ l, jn z (cut y l) = rep y z l
  | [] => rfl
  | x :: r => by
    have ih := jn_cut z y r
    unfold cut
    split
    · rename_i h
      rw [jn_cons _ _ _ (cut_ne y r), ih]
      simp [rep, h]
    · rename_i h
      split
      · rename_i p ps e
        rw [e] at ih
        rw [jn_head, ih]
        simp [rep, h]
      · rename_i e
        exact absurd e (cut_ne y r)
theorem rep_length (y : Nat) (z : List Nat) : ∀ l, (rep y z l).length ≤ l.length * (z.length + 1)
  | [] => by simp [rep]
  | x :: r => by
    have ih := rep_length y z r
    have : rep y z (x :: r) = (if x = y then z else [x]) ++ rep y z r := rfl
    rw [this, List.length_append, List.length_cons, Nat.add_mul]
    have : (if x = y then z else [x]).length ≤ z.length + 1 := by split <;> simp
    omega
section
variable {f : Fm} {O : List (Addr × List Dat)} {ρ : List (Str × Slot)} {o e : Expr} {ap pos cp np pn : Pos} {c d : Dat} {kn : Nat}
theorem Tr.findUnsafe {x : Str} {fa pa ca : Addr} {l : List Nat} (hf : EvS f O ρ (.Name x np) (.val (.ref fa))) (X : PatIs f.G fa pa ca) (he : Ev f O ρ e (.str (S l))) (hsz : l.length ≤ sizeLine)
    (hns : starEach [e] f.env = (false, eval e f.env) :: starEach [] f.env := by rfl) (hpl : (backTo cp (starEach [e] f.env)).any (·.1) = false := by rfl) (hm : behindInMarks .Is (.Constant .none kn pn) = false := by with_unfolding_all rfl) :
    Tr f O ρ (.Compare (.Call (.Name x np) [e] [] cp) [.Is] [.Constant .none kn pn] pos) (l.all safeN) := by
  first | apply Ev.mk | apply EvS.mk | apply Tr.mk | apply EvL.mk | apply Ex.mk | apply ExS.mk | apply It.mk | skip
  intro s Q E st k
  refine wpAny_isTrue_Compare1 (wpAny_Call_NameR (hf.run s _ _ st fun fv s₁ m₁ h₁ => ?_)) hm
  have h₁' : fv = .ref fa := h₁
  subst h₁'
  have st1 := st.mv m₁
  refine callWith_search (pa := pa) hpl ?_
  refine EvL.args (ds := [.str (S l)]) (EvL.consE he EvL.nilE hns) st1 hns fun vs s₂ m₂ hv => ?_
  have st2 := st1.mv m₂
  have X2 : PatIs s₂.heap fa pa ca := by
    obtain ⟨a, b, c, d, e, t, hp⟩ := X.p
    obtain ⟨items, n, cls, hc, hcc⟩ := X.c
    exact ⟨st2.bel.stays _ _ X.f, ⟨a, b, c, d, e, t, st2.bel.stays _ _ hp⟩, ⟨items, n, cls, st2.bel.stays _ _ hc, hcc⟩⟩
  refine ⟨X2.f, ?_⟩
  cases hv with
  | cons ha hn =>
    cases hn
    cases ha
    refine call_search hsz X2 (fun hall => ?_) fun hall a h' hk => ?_
    · refine Constant_none (wpAny_is_self rfl (wpAny_truthy_bool ?_))
      rw [← hall]
      exact k _ (m₁.trans m₂)
    · refine Constant_none (is_ref_none (wpAny_truthy_bool ?_))
      rw [← hall]
      exact k _ (m₁.trans (m₂.trans (.of_keepH hk)))
-- quote's first sum 
theorem Ev.replC {x a : Str} {l z : List Nat} {y k1 k2 k3 : Nat} {p1 p2 p3 p4 : Pos} (hx : ρ.lookup x = some (.dat (.str (S l)))) (hyz : (S [y] == S z) = false) (hsz : l.length ≤ 100000) (hz : z.length ≤ 14) (hj : a.length + (jn z (cut y l)).length ≤ sizeLine)
    (hbase : attributeBase (.Name x np) "replace" f.env (eval (.Name x np) f.env) = eval (.Name x np) f.env := by rfl) (hline : (ap.endLine == cp.line) = true := by rfl)
    (hd : (x == ("__debug__" : Str)) = false := by decide) (hcl : (x == ("__classdict__" : Str)) = false := by decide) :
    Ev f O ρ (.BinOp (.Constant (.str a) k1 p1) .Add (.Call (.Attribute (.Name x np) "replace" ap) [.Constant (.str (S [y])) k2 p2, .Constant (.str (S z)) k3 p3] [] cp) p4) (.str (a ++ S (jn z (cut y l)))) := by
  first | apply Ev.mk | apply EvS.mk | apply Tr.mk | apply EvL.mk | apply Ex.mk | apply ExS.mk | apply It.mk | skip
  intro s Q E st k
  refine wpAny_BinOp (PySem.Calls.Constant_str ?_)
  let s1 : Shared := { s with toks := s.toks + 1 }
  have m1 : Mv f.G f.W s s1 := .toks _
  have st1 := st.mv m1
  refine Call_method2 hbase (by rfl) hline ?_
  obtain ⟨v, hv, hs⟩ := st1.vars x _ hx
  refine wpAny_Name (VarIs.load st1 hv hcl ?_) hd
  cases hs
  rename_i tx
  refine ⟨"str", _, F.plainAttrs_str, F.slot_str_replace, F.type_str_replace, typeIs_str _ _ _, (fun a q => nomatch q), ?_⟩
  refine PySem.Calls.callWith_builtin rfl (PySem.Calls.evalArgs_plain (PySem.Calls.spliced_cons (PySem.Calls.Constant_str (PySem.Calls.spliced_cons (PySem.Calls.Constant_str (PySem.Calls.spliced_nil ?_))))))
  refine SC.replaceW (u := s1.toks) (v := s1.toks + 1) (Nat.succ_ne_zero _) (Nat.succ_ne_zero _) (Nat.ne_of_lt (Nat.lt_succ_self _)) hyz (by rw [S_length]; omega) (by rw [S_length]; exact hz) fun t' tk => ?_
  rw [replace_S]
  exact add_str (fun t'' tk' => k _ _ (.toks _) (.str _ _)) (by rw [S_length]; exact hj)
end
end Mine

namespace Mine
-- a code whose table of places may grow 
def CodeIs (G : Heap) (c P : Addr) : Prop :=
  (∃ o vs file tf flags tg inF text tt, G.get? c = some o ∧ o.cls = .type "code" ∧ o.data = .fields vs ∧ vs[11]? = some (.ref P) ∧ vs.getD 18 .none = .str file tf ∧
    vs.getD 7 .none = .int flags tg ∧ vs.getD 9 .none = .bool inF ∧ vs.getD 10 .none = .int text tt) ∧ c ≠ P ∧ grows G P
theorem Mv.of_tab {X : Heap} {W : List Addr} {s : Shared} {P : Addr} {op op' : Obj} {h' : Heap} {tk : Nat} (ho : s.heap.get? P = some op) (hok : TabOk s.heap op) (hg : grows X P) (hx : Heap.ExtBut P s.heap h') (hP : h'.get? P = some op') (hgr : Grown op op') (ht : TabOk h' op') :
    Mv X W s { s with heap := h', toks := tk } := by
  have ck : CKeep s.heap h' := fun c o vs e x y => by
    refine ⟨o, hx c o ?_ e, x, y⟩
    rintro rfl
    rw [ho] at e; cases e
    obtain ⟨ps, rfl, _⟩ := hok
    cases x
  refine ⟨⟨h', tk, s.gens, rfl, .inl rfl⟩, id, fun b o e => ?_⟩
  by_cases hb : b = P
  · subst hb
    rw [ho] at e; cases e
    rw [if_pos ⟨hok.b, hg⟩]
    exact ⟨_, hP, hgr, fun _ => ht⟩
  · split
    · rename_i h; exact ⟨o, hx b o hb e, .refl h.1, fun q => q.up ck⟩
    · exact ⟨o.slots, hx b o hb e, .inr rfl⟩
theorem codeAmong_more {pos : Pos} {l c : Nat} {v cv : Value} (ps : List Value) (h : TriplesOk ps) (hc : codeAmong pos (ps ++ [rawInt l, rawInt c, v]) = some cv) : codeAmong pos ps = some cv ∨ cv = v := by
  fun_induction TriplesOk ps with
  | case1 =>
    simp only [List.nil_append, codeAmong, rawInt] at hc
    split at hc
    · exact .inr (Option.some.inj hc).symm
    · simp at hc
  | case2 i t j u x rest ih =>
    simp only [List.cons_append, codeAmong] at hc ⊢
    split at hc
    · rename_i hh; rw [if_pos hh]; exact .inl hc
    · rename_i hh; rw [if_neg hh]; exact ih h hc
  | case3 => exact absurd h id
theorem TabOk.more {h h' : Heap} {P l cl c' P' : Nat} {ps : Array Value} {q : Str} (x : TabOk h { cls := .none, data := .fields ps }) (hP : h.get? P = some { cls := .none, data := .fields ps }) (hx : Heap.ExtBut P h h') (hr : h'.CodeRec (.ref c') q) (ht : h'.TableAt c' P' #[]) :
    TabOk h' { cls := .none, data := .fields (ps ++ #[rawInt l, rawInt cl, .ref c']) } := by
  obtain ⟨ps', e, h1, h2⟩ := x
  cases e
  have ck : CKeep h h' := fun c o vs e x y => by
    refine ⟨o, hx c o ?_ e, x, y⟩
    rintro rfl
    rw [hP] at e; cases e
    cases x
  have e1 : (ps ++ #[rawInt l, rawInt cl, Value.ref c']).toList = ps.toList ++ [rawInt l, rawInt cl, .ref c'] := by simp
  refine ⟨_, rfl, by rw [e1]; exact TriplesOk_snoc _ _ _ _ h1, fun pos cv hc => ?_⟩
  rw [e1] at hc
  rcases codeAmong_more _ h1 hc with hc | rfl
  · exact (h2 pos cv hc).up ck
  · obtain ⟨c₂, o₂, vs₂, t₂, e₂, g₂, d2, r₂⟩ := hr
    cases e₂
    obtain ⟨⟨oc, vc, hoc, hcc, hdc, h11c⟩, _⟩ := ht
    rw [g₂] at hoc; cases hoc
    exact ⟨_, _, _, _, _, rfl, g₂, hcc, d2, r₂⟩
section
variable {f : Fm} {O : List (Addr × List Dat)} {ρ : List (Str × Slot)}
theorem codeAt_of {c P : Addr} {s : Shared} (st : St f O ρ s) (C : CodeIs f.G c P) : ∃ ps, s.heap.IsCode c P ps ∧ s.heap.TableAt c P ps := by
  obtain ⟨⟨o, vs, file, tf, flags, tg, inF, text, tt, ho, hcl, hd, h11, h18, h7, h9, h10⟩, hne, hg⟩ := C
  obtain ⟨op, hop, ps, rfl, ht⟩ := st.tab P hg
  have e11 : vs.getD 11 .none = .ref P := by
    rw [Array.getD_eq_getD_getElem?, h11]; rfl
  have hs := st.bel.stays _ _ ho
  exact ⟨ps, ⟨o, vs, file, tf, flags, tg, inF, text, tt, _, hs, hd, e11, h18, h7, h9, h10, hop, rfl, ht.1, hne⟩, ⟨⟨o, vs, hs, hcl, hd, h11⟩, hop⟩⟩
theorem genCode {c P : Addr} {pos : Pos} {q : Str} {scope : Scope} {s : Shared} {Q : Value → Shared → Prop} {E : Value → Shared → Prop} (st : St f O ρ s) (C : CodeIs f.G c P) (hc : f.env.code = .ref c)
    (k : ∀ code h' tk, Mv f.G f.W s { s with heap := h', toks := tk } → s.heap.objs.size ≤ h'.objs.size → (∀ b o, b ≠ P → s.heap.get? b = some o → h'.get? b = some o) → Q code { s with heap := h', toks := tk }) : wpAny f.M f.A (genexprCode f.env pos q scope) Q E s := by
  obtain ⟨ps, hi, htab⟩ := codeAt_of st C
  have hg := C.2.2
  cases hn : codeAmong pos ps.toList with
  | none =>
    refine wpAny_genexprCodeX hc hi htab hn fun c' h' tk hx hle hlt hi' hr htab' hP' => ?_
    obtain ⟨op, eop, hok⟩ := st.tab P hg
    have eop' := htab.2
    rw [eop] at eop'; cases eop'
    obtain ⟨P', _, _, hP2⟩ := hP'
    exact k _ _ _ (.of_tab eop hok hg hx htab'.2 ⟨_, _, rfl, rfl⟩ (hok.more eop hx hr hP2)) (Nat.le_trans hle (Nat.le_of_lt hlt)) fun b o hb e => hx b o hb e
  | some cv =>
    obtain ⟨o, vs, file, tf, flags, tg, inF, text, tt, op, ho, hd, h11, h2, h7, h9, h10, hop, hpd, htr, hne⟩ := hi
    unfold genexprCode codeAt
    rw [hc, if_neg (show ¬ ((Value.ref c == Value.none) = true) from Bool.false_ne_true)]
    refine wpAny_bind (wpAny_fieldsOf ho hd ?_)
    rw [h11]
    refine wpAny_bind (wpAny_fieldsOf hop hpd ?_)
    rw [hn]
    exact wpAny_pure (k _ s.heap s.toks (.refl s) (Nat.le_refl _) fun _ _ _ e => e)
end

-- ### the top without its marks 
def erase (G : Heap) : Heap := { G with objs := G.objs.map fun o => if isMark o then { o with slots := #[] } else o }
theorem erase_get (G : Heap) (a : Addr) : (erase G).get? a = G.get? a := by
  unfold Heap.get? erase
  simp only [Array.getElem?_map]
  cases h : G.objs[a]? with
  | none => rfl
  | some o =>
    simp only [Option.map_some]
    by_cases hm : isMark o = true
    · rw [if_pos hm]
      obtain ⟨c, d, dd, sl⟩ := o
      cases c <;> cases dd <;> first | rfl | (simp [isMark] at hm)
    · rw [if_neg hm]
theorem erase_grows (G : Heap) (a : Addr) : ¬ grows (erase G) a := by
  unfold grows growsB erase
  simp only [Array.getElem?_map]
  cases h : G.objs[a]? with
  | none => simp
  | some o =>
    simp only [Option.map_some]
    split
    · rename_i hm
      obtain ⟨c, d, dd, sl⟩ := o
      cases c <;> cases dd <;> simp [isMark] at hm ⊢
    · rename_i hm; exact hm
theorem erase_bas {mg mb : Str → Option Value} {G : Heap} (b : Bas mg mb G) : Bas mg mb (erase G) where
  g := b.g.keeps fun a o e => by rw [erase_get]; exact e
  b := b.b.keeps fun a o e => by rw [erase_get]; exact e
  boot := b.boot
  lim := b.lim.keeps fun a o e => by rw [erase_get]; exact e
  noTab := fun a o e => b.noTab a o (by rw [erase_get] at e; exact e)
theorem erase_in {K : Frag} {G : Heap} (h : K.In G) : K.In (erase G) := fun a o e => by rw [erase_get]; exact h a o e
-- a move that no mark lets grow keeps all 
theorem Mv.keeps {G : Heap} {s s' : Shared} (m : Mv (erase G) [] s s') : Keeps s s' := by
  obtain ⟨⟨h', tk, gs, rfl, c⟩, _, k⟩ := m
  rcases c with rfl | ⟨P, c⟩
  · refine ⟨h', tk, rfl, fun b o e => ?_⟩
    have q := k b o e
    rw [if_neg (fun h => erase_grows G b h.2)] at q
    obtain ⟨sl, e', c⟩ := q
    rcases c with c | c
    · exact absurd c.1 (by simp)
    · rw [e', c]
  · exact absurd c (erase_grows G P)
end Mine

namespace Mine
theorem passing_all (n : Nat) : passing (fun _ => true) n 0 = List.range n := by
  unfold passing; rw [List.drop_zero, List.filter_eq_self.mpr fun _ _ => rfl]
-- the module that holds the builtins 
structure BuiltM (mg : Str → Option Value) (G : Heap) : Prop where
  ex : ∃ bm ob, mg "__builtins__" = some (.ref bm) ∧ bm ≠ builtinsNs ∧ G.get? bm = some ob ∧ ob.cls = .type "module" ∧ ob.dict = some builtinsNs ∧ ob.data = .plain
def trunc (h : Heap) (n : Nat) : Heap := { h with objs := h.objs.extract 0 n }
theorem trunc_size (h : Heap) (n : Nat) : (trunc h n).objs.size ≤ n := by show (h.objs.extract 0 n).size ≤ n; rw [Array.size_extract]; omega
theorem trunc_get (h : Heap) (n b : Nat) : (trunc h n).objs[b]? = if b < n then h.objs[b]? else none := by
  show (h.objs.extract 0 n)[b]? = _
  rw [Array.getElem?_extract]
  simp only [Nat.zero_add, Nat.sub_zero]
  by_cases h1 : b < n
  · rw [if_pos h1]
    by_cases h2 : b < h.objs.size
    · rw [if_pos (by omega)]
    · rw [if_neg (by omega), Array.getElem?_eq_none (by omega)]
  · rw [if_neg (by omega), if_neg h1]
theorem trunc_sub {h : Heap} {n : Nat} {b : Addr} {o : Obj} (e : (trunc h n).get? b = some o) : h.get? b = some o := by
  unfold Heap.get? at e ⊢
  rw [trunc_get] at e
  by_cases h1 : b < n
  · rw [if_pos h1] at e; exact e
  · rw [if_neg h1] at e; exact nomatch e
theorem trunc_up {h : Heap} {n : Nat} {b : Addr} {o : Obj} (hb : b < n) (e : h.get? b = some o) : (trunc h n).get? b = some o := by
  unfold Heap.get? at e ⊢
  rw [trunc_get, if_pos hb]
  exact e
section
variable {f : Fm} {O : List (Addr × List Dat)} {ρ : List (Str × Slot)}
theorem cstat_lt {s : Shared} (st : St f O ρ s) : cStatics < f.s₀.heap.objs.size := by
  obtain ⟨_, ⟨o, es, ep, e, _⟩, _⟩ := st.ok.bas.lim
  exact Heap.lt_size (st.ok.hG _ _ e)
theorem s0_le {s : Shared} (st : St f O ρ s) : f.s₀.heap.objs.size < s.heap.objs.size := by
  obtain ⟨mm, nn⟩ := st.loc
  exact Nat.lt_of_le_of_lt st.ok.fL nn.lt
theorem Ev.joinGen {c P qa : Addr} {oq : Obj} {fd : FuncData} {q x it : Str} {R : List Dat → Dat → Prop} {sep : List Nat} {ps : List (List Nat)} {gf : List Nat → List Nat} {scope : Scope} {k1 : Nat} {p1 ap qp xp cp px ip gp pos : Pos}
    (C : CodeIs f.G c P) (hc : f.env.code = .ref c) (B : BuiltM f.mg f.G) (hit : ρ.lookup it = some (.dat (.list (ps.map fun p => .str (S p))))) (con : Con f.prog f.w f.mg f.mb (erase f.G) 1 qa R) (hR : ∀ p ∈ ps, R [.str (S p)] (.str (S (gf p))))
    (ho : f.G.get? qa = some oq) (hod : oq.data = .func fd) (hqg : scope.names.lookup q = some .globalImplicit) (hmq : f.mg q = some (.ref qa)) (hclos : closureFor scope f.env = pure [])
    (hco : scope.isCoroutine = false) (hcell : ∀ y ∈ scope.names, y.2 ≠ .cell) (h0 : scope.names.lookup (".0" : Str) = some NameKind.local) (hx : scope.names.lookup x = some .local) (hkind : scope.kind = .function)
    (hd : f.A.depth + 2 < recursionLimit) (hu : f.A.units + 8 + 40 + 100 < cLine) (hn : ps.length ≤ sizeLine) (hj : ((ps.map gf).map List.length).sum + ps.length * sep.length ≤ sizeLine)
    (hbase : attributeBase (.Constant (.str (S sep)) k1 p1) "join" f.env (eval (.Constant (.str (S sep)) k1 p1) f.env) = eval (.Constant (.str (S sep)) k1 p1) f.env := by rfl)
    (hfold : ∀ v, genFold (.Name it ip) f.env v = pure v := by intro _; rfl) (hline : (ap.endLine == pos.line) = true := by rfl)
    (hqd : (q == ("__debug__" : Str)) = false := by decide) (hxd : (x == ("__debug__" : Str)) = false := by decide) (hxc : (x == ("__classdict__" : Str)) = false := by decide) (hid : (it == ("__debug__" : Str)) = false := by decide) (hic : (it == ("__classdict__" : Str)) = false := by decide) :
    Ev f O ρ (.Call (.Attribute (.Constant (.str (S sep)) k1 p1) "join" ap) [.GeneratorExp (.Call (.Name q qp) [.Name x xp] [] cp) [⟨.Name x px, .Name it ip, [], 0⟩] scope gp] [] pos) (.str (S (jn sep (ps.map gf)))) := by
  first | apply Ev.mk | apply EvS.mk | apply Tr.mk | apply EvL.mk | apply Ex.mk | apply ExS.mk | apply It.mk | skip
  intro s Q E st k
  refine Call_method1 hbase (by rfl) hline (PySem.Calls.Constant_str ?_)
  let s1 : Shared := { s with toks := s.toks + 1 }
  have m1 : Mv f.G f.W s s1 := .toks _
  have st1 := st.mv m1
  refine ⟨"str", _, F.plainAttrs_str, F.slot_str_join, F.type_str_join, typeIs_str _ _ _, (fun a q => nomatch q), ?_⟩
  refine PySem.Calls.callWith_builtin rfl (PySem.Calls.evalArgs_plain (PySem.Calls.spliced_cons ?_))
  refine wpAny_GeneratorExp_walksQD st.ok.hh hco hclos hcell h0 hx hkind (Nat.lt_of_le_of_lt (Nat.le_add_right _ 2) hd) ?_ hfold
  refine (Ev.name hit hid hic).run s1 _ _ st1 fun v s2 m2 h2 => ?_
  have st2 := st1.mv m2
  obtain ⟨ax, vs, rfl, i2, n2, l2⟩ := h2.lists
  refine wpAny_pyIter_list i2.isList ?_
  let s3 : Shared := { s2 with heap := s2.heap.push { cls := .type "list_iterator", data := .fields #[.ref ax, .int 0 0] } }
  have m3 : Mv f.G f.W s2 s3 := .push _
  have st3 := st2.mv m3
  refine ⟨st3.ok.bas.lim.keeps st3.bel.stays, ?_⟩
  refine genCode st3 C hc fun code h4 tk4 m4 hle4 hx4 => ?_
  have st4 := st3.mv m4
  obtain ⟨bm, ob, hb1, hb2, hb3, hb4, hb5, hb6⟩ := B.ex
  have hglob : s3.heap.Ns f.env.globals f.mg := by rw [st3.ok.glob]; exact st3.ok.bas.g.keeps st3.bel.stays
  refine wpAny_builtinsFor (m := f.mg) (by rw [st4.ok.glob]; exact st4.ok.bas.g.keeps st4.bel.stays) hb1 hb2 (st4.bel.stays _ _ hb3) hb4 hb5 hb6 ?_
  have hax : ax < s2.heap.objs.size := by obtain ⟨n, e⟩ := i2; exact Heap.lt_size e
  have hne : ax ≠ s2.heap.objs.size := Nat.ne_of_lt hax
  have hs2 : s2.heap.objs.size < h4.objs.size := Nat.lt_of_lt_of_le (by show _ < (s2.heap.push _).objs.size; rw [Heap.size_push]; exact Nat.lt_succ_self _) hle4
  obtain ⟨l, hl1, hl2⟩ := l2.strs
  have hvl : vs.toArray.size = ps.length := by rw [List.size_toArray, l2.length, List.length_map]
  have hP : ∀ b o, s3.heap.get? b = some o → tabB o = false → h4.get? b = some o := fun b o e hb => hx4 b o (by
    rintro rfl
    obtain ⟨op, e', ok⟩ := st3.tab _ C.2.2
    rw [e] at e'; cases e'
    rw [ok.b] at hb; cases hb) e
  have it0 : s3.heap.IsListIter s2.heap.objs.size ax 0 := ⟨_, Heap.get?_push_size _ rfl, rfl, rfl⟩
  have li0 : s3.heap.IsList ax vs.toArray := i2.isList.at fun o e => Heap.get?_push_of_some _ e
  have it4 : h4.IsListIter s2.heap.objs.size ax 0 := by
    obtain ⟨o, e, c1, d1⟩ := it0
    exact ⟨o, hP _ _ e (tabB_cls (by rw [c1]; exact fun h => nomatch h)), c1, d1⟩
  have li4 : h4.IsList ax vs.toArray := by
    obtain ⟨o, e, c1, d1⟩ := li0
    exact ⟨o, hP _ _ e (tabB_cls (by rw [c1]; exact fun h => nomatch h)), c1, d1⟩
  have lim4 : h4.NoLimit := st4.ok.bas.lim.keeps st4.bel.stays
  have cst := cstat_lt st
  have s0l : f.s₀.heap.objs.size < s2.heap.objs.size := s0_le st2
  refine ⟨s2.heap.objs.size, [s2.heap.objs.size, ax], [s2.heap.objs.size], vs.toArray.size, _, _, fun _ => true, fun i y => ∃ p t, ps[i]? = some p ∧ y = .str (S (gf p)) t, rfl, fun A' hA => Walks.list hA _ _ hne vs.toArray, ⟨it4, li4⟩, ?_, lim4, ?_, fun href hhref => ⟨?_, ?_⟩, fun a h5 tk gs hgb hag hsz5 hk5 W hat => ?_⟩
  · intro b hb
    simp only [List.mem_cons, List.not_mem_nil, or_false] at hb
    rcases hb with rfl | rfl
    · exact hs2
    · exact Nat.lt_trans hax hs2
  · intro h
    rw [List.mem_singleton.mp h] at cst
    exact Nat.lt_asymm cst s0l
  · intro A' E' i v t m hA hD hU hPi hns hm hkp
    exact wpAny_pure ⟨rfl, t.heap, t.toks, rfl, fun _ _ e => e⟩
  · intro A' E' i v t m hA hD hU hPi _ hns hm hkp
    have hPi' : vs[i]? = some v := by simpa using hPi
    obtain ⟨p, u, hp, rfl⟩ : ∃ p u, ps[i]? = some p ∧ v = .str (S p) u := by
      rw [hl1] at hPi'
      simp only [strValues, List.getElem?_map] at hPi'
      obtain ⟨y, hy, rfl⟩ := Option.map_eq_some_iff.mp hPi'
      have e2 : (l.map (·.1))[i]? = some y.1 := by rw [List.getElem?_map, hy]; rfl
      rw [hl2, List.getElem?_map] at e2
      obtain ⟨p, hp, e3⟩ := Option.map_eq_some_iff.mp e2
      exact ⟨p, y.2, hp, by rw [e3]⟩
    have hpm : p ∈ ps := List.mem_of_getElem? hp
    have hk : ∀ b o, (erase f.G).get? b = some o → t.heap.get? b = some o := fun b o e => by
      rw [erase_get] at e
      have hb0 : b < f.s₀.heap.objs.size := Heap.lt_size (st.ok.hG b o e)
      have e4 : h4.get? b = some o := hP b o (st3.bel.stays b o e) (st.ok.bas.noTab b o e)
      refine hkp b (List.mem_range.mpr (Heap.lt_size e4)) ?_ o (hhref b o e4)
      intro hb
      rw [List.mem_singleton.mp hb] at hb0
      exact Nat.lt_asymm hb0 s0l
    let f' : Fm := { prog := f.prog, w := f.w, mg := f.mg, mb := f.mb, G := erase f.G, A := A', env := genEnv scope [] h4.objs.size code builtinsNs f.env, outer := [], V₀ := [], s₀ := { t with heap := trunc t.heap h4.objs.size }, Wc := [], own := false }
    have hsub : ∀ b o, f'.s₀.heap.get? b = some o → t.heap.get? b = some o := fun b o e => trunc_sub e
    have hup : ∀ b o, b < h4.objs.size → t.heap.get? b = some o → f'.s₀.heap.get? b = some o := fun b o hb e => trunc_up hb e
    have ok' : f'.Ok := {
      hh := hA
      kind := hkind
      glob := st.ok.glob
      bi := rfl
      bas := erase_bas st.ok.bas
      hG := fun b o e => hup b o (by
        rw [erase_get] at e
        exact Nat.lt_trans (Heap.lt_size (st.ok.hG b o e)) (Nat.lt_trans s0l hs2)) (hk b o e)
      fL := trunc_size _ _
      apa := .nil
      fC := fun h => nomatch h
      hW := fun a ha => by simp [f', Fm.W] at ha }
    have st' : St f' [] [(x, .dat (.str (S p)))] t := {
      ok := ok'
      bel := ⟨trivial, hk, trivial⟩
      frm := Mv.of_keep (s := f'.s₀) (h' := t.heap) (tk := t.toks) hsub
      loc := ⟨m, hns⟩
      cel := fun n c hc => by simp [f', genEnv] at hc
      vars := fun y sl hy => by
        have hyx : y = x := by
          by_cases h : y = x
          · exact h
          · have hb : (y == x) = false := by simpa using h
            simp [List.lookup_cons, hb] at hy
        subst hyx
        simp only [List.lookup_cons, beq_self_eq_true, Option.some.injEq] at hy
        subst hy
        exact ⟨_, .inl ⟨hx, m, hns, hm⟩, .str _ _⟩
      own := fun p hp => (nomatch hp)
      nod := List.nodup_nil
      fO := fun p hp => (nomatch hp)
      v0 := fun a ha => (nomatch ha)
      frD := fun a ha => by simp [f', Fm.W] at ha
      kep := fun p hp => (nomatch hp)
      oV := fun p hp => (nomatch hp)
      dat := fun p hp => (nomatch hp)
      tab := fun P hP => absurd hP (erase_grows _ _) }
    have ev : Ev f' [] [(x, .dat (.str (S p)))] (.Call (.Name q qp) [.Name x xp] [] cp) (.str (S (gf p))) := by
      refine Ev.callF (Ev.global (v := .ref qa) hqg hmq hqd) (show (erase f.G).get? qa = some oq by rw [erase_get]; exact ho) hod (EvL.consE (Ev.name (by simp [List.lookup_cons]) hxd hxc) EvL.nilE) (OpN.con con (hR p hpm) ?_ ?_)
      · show A'.depth + 1 < recursionLimit; omega
      · show A'.units + 40 * 1 + 100 < cLine; omega
    refine ev.run t _ _ st' fun y t' mm hy => ?_
    cases hy
    exact ⟨⟨p, _, hp, rfl⟩, Mv.keeps mm⟩
  · refine PySem.Calls.spliced_nil ?_
    rw [passing_all, List.length_range] at W
    refine SC.joinGen W.in4_2 (fun j s' hst => hst.1.typeIs) hat ?_ List.mem_cons_self (fun j v hv => let ⟨_, _, p, u, _, e⟩ := hv; ⟨_, u, e⟩) (fun s' lt hm hacc => ?_) (by rw [hvl]; exact hn)
    · intro b hb
      show b < h5.objs.size
      rw [hsz5]
      rcases List.mem_cons.mp hb with rfl | hb
      · exact Nat.lt_succ_self _
      · rcases List.mem_cons.mp hb with rfl | hb
        · exact Nat.lt_succ_of_lt hag
        · exact Nat.lt_succ_of_lt (Nat.lt_trans (List.mem_range.mp hb) hag)
    · have hle : lt.map (·.1) = (ps.map gf).map S := by
        apply List.ext_getElem?
        intro j
        have hlt : lt.length = ps.length := by have := hacc.1; rw [hvl] at this; simpa [strValues] using this
        by_cases hj2 : j < ps.length
        · have hj' : j < lt.length := hlt ▸ hj2
          obtain ⟨i, hi, p, u, hp, hv⟩ := hacc.2 j (.str lt[j].1 lt[j].2) (by simp [strValues, List.getElem?_eq_getElem hj'])
          have hij : i = j := by
            rw [List.getElem?_range (by rw [hvl]; exact hj2)] at hi
            exact (Option.some.inj hi).symm
          subst hij
          injection hv with h1 _
          simp only [List.getElem?_map, List.getElem?_eq_getElem hj', hp, Option.map_some, h1]
        · rw [List.getElem?_eq_none (by simpa [hlt] using Nat.le_of_not_lt hj2), List.getElem?_eq_none (by simpa using Nat.le_of_not_lt hj2)]
      rw [hle]
      refine ⟨joinOk_of _ _ ?_, fun t' tk' => ?_⟩
      · have e1 : ((ps.map gf).map S).map (·.length) = (ps.map gf).map List.length := by rw [List.map_map]; apply List.map_congr_left; intro p _; exact S_length p
        rw [e1, List.length_map, List.length_map, S_length]; exact hj
      · have e2 : Txt.join (S sep) ((ps.map gf).map S) = S (jn sep (ps.map gf)) := by
          unfold Txt.join; rw [StrLaws.glued_eq_join, jn_S]
        rw [e2]
        refine k _ _ ?_ (.str _ _)
        obtain ⟨hmH, hmG, hmD, hmO, _⟩ := hm
        refine (m1.trans m2).trans ?_
        refine ⟨⟨s'.heap, tk', s'.gens, ?_, .inr ⟨P, C.2.2⟩⟩, fun hb => ?_, fun b o e => ?_⟩
        · show ({ s' with toks := tk' } : Shared) = _
          cases s'
          simp only at hmD hmO
          simp [hmD, hmO, s3]
        · exact hmG.bare (AllBare.push hb hgb)
        · have ck : CKeep h4 s'.heap := fun c oc vs e4 hcc hdd => by
            refine ⟨oc, hmH c oc ?_ (hk5 c oc e4), hcc, hdd⟩
            intro hw
            rcases List.mem_cons.mp hw with h | h
            · have := Heap.lt_size e4
              rw [h] at this; exact Nat.lt_irrefl _ this
            · obtain ⟨oi, ei, ci, _⟩ := it4
              rw [List.mem_singleton.mp h, ei] at e4
              cases e4
              rw [ci] at hcc
              injection hcc with hcc
              exact absurd hcc (by decide)
          have hb2 : b < s2.heap.objs.size := Heap.lt_size e
          have up : ∀ o', h4.get? b = some o' → s'.heap.get? b = some o' := fun o' e' => hmH b o' (by
            intro hw
            rcases List.mem_cons.mp hw with h | h
            · rw [h] at hb2; exact Nat.lt_asymm hb2 hs2
            · rw [List.mem_singleton.mp h] at hb2; exact Nat.lt_irrefl _ hb2) (hk5 b o' e')
          have q := (m3.trans m4).2.2 b o e
          split
          · rename_i h
            rw [if_pos h] at q
            obtain ⟨o', e', r1, r2⟩ := q
            exact ⟨o', up _ e', r1, fun q => (r2 q).up ck⟩
          · rename_i h
            rw [if_neg h] at q
            obtain ⟨sl, e', r⟩ := q
            exact ⟨sl, up _ e', r⟩
end
end Mine

namespace Mine
-- ## comprehensions with a second clause 
section
variable {prog : Program} {w : World} {A : Around} {R : Result → Shared → Prop} {s : Shared}
end
section
variable {f : Fm} {O : List (Addr × List Dat)} {ρ ρc : List (Str × Slot)} {iter tgt elt : Expr} {ifs : List Expr} {scope : Scope} {pos : Pos} {cl : List (Str × Addr)} {ds : List Dat} {α : Type} {xs : List α} {j : α → Dat} {p : α → Bool} {gs : α → List Dat} {rest : List Comprehension} {emit : Value → Env → Sem Unit}


end
end Mine

namespace Mine
section
variable {f : Fm} {O : List (Addr × List Dat)} {ρ : List (Str × Slot)} {e e1 e2 : Expr} {np pos tp : Pos} {elts : List Expr} {kt : Nat}
-- a type is called 
theorem callT_run {x : Str} {id : String} {es : List Expr} {ds : List Dat} {s : Shared} {Q E : Value → Shared → Prop} (st : St f O ρ s) (hf : EvS f O ρ (.Name x np) (.val (.type id))) (ha : EvL f O ρ (e :: es) ds)
    (h : ∀ vs s', Mv f.G f.W s s' → HasL (f.V O) s'.heap vs ds → wpAny f.M f.A (call (.type id) vs) Q E s')
    (hns : starEach (e :: es) f.env = (false, eval e f.env) :: starEach es f.env := by rfl) (hpl : (backTo pos (starEach (e :: es) f.env)).any (·.1) = false := by rfl) : wpAny f.M f.A (eval (.Call (.Name x np) (e :: es) [] pos) f.env) Q E s := by
  refine wpAny_Call_NameR (hf.run s _ _ st fun fv s₁ m₁ h₁ => ?_)
  have h₁' : fv = .type id := h₁
  subst h₁'
  refine PySem.callWith_type hpl (ha.args (st.mv m₁) hns fun vs s₂ m₂ h₂ => ?_)
  exact h vs s₂ (m₁.trans m₂) h₂
theorem It.zipC {x : Str} {d1 d2 : List Dat} (hf : EvS f O ρ (.Name x np) (.val (.type "zip"))) (h1 : Ev f O ρ e1 (.list d1)) (h2 : Ev f O ρ e2 (.list d2)) (hns : starEach [e1, e2] f.env = (false, eval e1 f.env) :: starEach [e2] f.env := by rfl) (hns2 : starEach [e2] f.env = (false, eval e2 f.env) :: starEach [] f.env := by rfl)
    (hpl : (backTo pos (starEach [e1, e2] f.env)).any (·.1) = false := by rfl) :
    It f O ρ (.Call (.Name x np) [e1, e2] [] pos) (.Tuple elts kt tp) ((d1.zip d2).map fun p => Dat.tuple [p.1, p.2]) := by
  refine It.zip2 fun s Q E st k => callT_run st hf (EvL.consE h1 (EvL.consE h2 EvL.nilE hns2) hns) (fun vs s' m hv => ?_) hns hpl
  cases hv with
  | cons a b =>
    cases b with
    | cons b c => cases c; exact k _ _ s' m a b
theorem It.enumC {x : Str} {d1 : List Dat} (hf : EvS f O ρ (.Name x np) (.val (.type "enumerate"))) (h1 : Ev f O ρ e1 (.list d1)) (hns : starEach [e1] f.env = (false, eval e1 f.env) :: starEach [] f.env := by rfl)
    (hpl : (backTo pos (starEach [e1] f.env)).any (·.1) = false := by rfl) :
    It f O ρ (.Call (.Name x np) [e1] [] pos) (.Tuple elts kt tp) (d1.zipIdx.map fun p => Dat.tuple [.int (p.2 : Nat), p.1]) := by
  refine It.enumerate fun s Q E st k => callT_run st hf (EvL.consE h1 EvL.nilE hns) (fun vs s' m hv => ?_) hns hpl
  cases hv with
  | cons a b => cases b; exact k _ s' m a
end
end Mine

namespace Mine
section
variable {f : Fm} {O : List (Addr × List Dat)} {ρ : List (Str × Slot)} {e e1 e2 l r : Expr} {np pos tp : Pos}
theorem Op2.fdivInt {x y : Int} (hy : y ≠ 0) (hp : Builtin.divisionGoesByPylong x y = false) : Op2 f O ρ (binaryOp .FloorDiv) (.int x) (.int y) (.int (x.fdiv y)) := by
  intro s va vb Q E st ha hb k
  cases ha; cases hb
  exact floordiv_int hy (k _ _ (.toks _) (.int _ _)) (.inl hp)
end
end Mine

namespace Mine
-- ## exceptions in flight 
structure Fly (G : Heap) (outer : List Env) (s : Shared) (e : Addr) (cls : Value) (args : List Value) (s' : Shared) : Prop where
  mv : Mv G (outer.filterMap (·.frame)) s s'
  fly : ∃ B t, (∀ b o, s.heap.get? b = some o → b ∉ outer.filterMap (·.frame) → ∃ o', B.get? b = some o') ∧ Heap.FlyingW B outer e cls (.ref t) s'.heap ∧ B.get? t = none ∧ s'.heap.TupAt t args ∧ (∀ b ∈ outer.filterMap (·.frame), B.get? b = none) ∧ TabsIn G B
theorem Mv.fly {G B : Heap} {W : List Addr} {s s' : Shared} {h' : Heap} (m : Mv G W s s') (hfr : FrD s.heap W) (old : ∀ b o, s.heap.get? b = some o → b ∉ W → ∃ o', B.get? b = some o') (h0 : B.StaysIn s'.heap) (h1 : B.StaysIn h') (hu : s'.heap.UpToSlots h') (tb : TabsIn G B) (tk : Nat) : Mv G W s { s' with heap := h', toks := tk } := by
  obtain ⟨⟨h, tk', gs, rfl, c⟩, g, k⟩ := m
  refine ⟨⟨h', tk, gs, rfl, c⟩, g, fun b o e => ?_⟩
  have q := k b o e
  by_cases hb : b ∈ W
  · obtain ⟨o', es, ep, e', d⟩ := hfr b hb
    rw [e] at e'; cases e'
    have ht : tabB o = false := tabB_data fun vs h => by rw [d] at h; cases h
    rw [if_neg (by rw [ht]; exact fun h => nomatch h.1)] at q ⊢
    obtain ⟨sl, e2, _⟩ := q
    obtain ⟨sl2, e3⟩ := hu b _ e2 fun vs h => by rw [show ({ o with slots := sl } : Obj).data = o.data from rfl, d] at h; cases h
    exact ⟨sl2, e3, .inl ⟨hb, es, ep, d⟩⟩
  · obtain ⟨o', eB⟩ := old b o e hb
    have e1 := h0 b o' eB
    have e2 := h1 b o' eB
    split
    · rename_i h
      rw [if_pos h] at q
      obtain ⟨o2, e3, r1, _⟩ := q
      rw [e1] at e3; cases e3
      obtain ⟨op, eop, ok⟩ := tb b h.2
      rw [eB] at eop; cases eop
      exact ⟨_, e2, r1, fun _ => ok.up (.of h1)⟩
    · rename_i h
      rw [if_neg h] at q
      obtain ⟨sl, e3, r⟩ := q
      rw [e1] at e3; cases e3
      exact ⟨sl, e2, r⟩

section
variable {f : Fm} {O : List (Addr × List Dat)} {ρ : List (Str × Slot)}

end

section
variable {f : Fm} {O : List (Addr × List Dat)} {ρ : List (Str × Slot)}
end
end Mine

namespace Mine
section
variable {prog : Program} {w : World} {A : Around} {E : Value → Shared → Prop} {s : Shared} {K : Frag} {x t0 C : Addr} {ox : Obj} {od : Option Obj}
open Builtin Builtin.Str Builtin.BaseException Builtin.Exceptions in
open Builtin Builtin.Str in
end
end Mine

namespace Mine
-- an expression that raises 
@[irreducible] def EvX (f : Fm) (O : List (Addr × List Dat)) (ρ : List (Str × Slot)) (e : Expr) (cls : Value) (as : Str) : Prop :=
  ∀ (s : Shared) (Q E : Value → Shared → Prop), St f O ρ s → (∀ e s' t, Fly f.G f.outer s e cls [.str as t] s' → E (.ref e) s') → wpAny f.M f.A (eval e f.env) Q E s
theorem EvX.run {f : Fm} {O : List (Addr × List Dat)} {ρ : List (Str × Slot)} {e : Expr} {cls : Value} {as : Str} (h : EvX f O ρ e cls as) :
    ∀ (s : Shared) (Q E : Value → Shared → Prop), St f O ρ s → (∀ e s' t, Fly f.G f.outer s e cls [.str as t] s' → E (.ref e) s') → wpAny f.M f.A (eval e f.env) Q E s := by
  unfold EvX at h; exact h
section
variable {f : Fm} {O : List (Addr × List Dat)} {ρ : List (Str × Slot)} {Φ : Ot → Prop}

-- what the one try of the text does where nothing is raised 
theorem ExS.tryOk {call : Expr} {d : Dat} {hs : List ExceptHandler} {h0 : ExceptHandler} {rp tp : Pos} (h : Ev f O ρ call d) (hΦ : Φ (.ret d)) : ExS f O ρ (.Try [.Return (some call) rp] (h0 :: hs) [] [] tp) Φ := by
  apply ExS.mk
  intro s E st
  refine wpAny_Try_except ?_
  have := (Ex.consX (f := f) (O := O) (ρ := ρ) (rest := []) (Φ := fun o => o = .ret d) (ExS.ret (pos := rp) h rfl)).run s (fun e s₁ => wpAny f.M f.A (noteFrame e f.env) (fun _ s₂ => wpAny f.M f.A (setFlight e none) (fun _ s₃ => wpAny f.M f.A (handleBy e f.env (h0 :: hs)) (Out f Φ) E s₃) E s₂) E s₁) st
  refine wpAny_mono this (fun fl s' x => ?_) fun _ _ x => x
  cases fl with
  | next => obtain ⟨_, _, h, _⟩ := x; cases h
  | brk => obtain ⟨_, _, h, _⟩ := x; cases h
  | cont => obtain ⟨_, _, h, _⟩ := x; cases h
  | ret v => obtain ⟨d', h1, h2, h3⟩ := x; cases h1; exact ⟨d, hΦ, h2, h3⟩

end
end Mine

namespace Mine
-- a contract that asks for the stack's frames 
def ConF (prog : Program) (w : World) (mg mb : Str → Option Value) (G : Heap) (lvl : Nat) (fa : Addr) (R : List Dat → Dat → Prop) : Prop :=
  ∀ (A : Around) (outer : List Env) (V : List Addr) (s : Shared) (vs : List Value) (ds : List Dat) (d : Dat) (Q E : Value → Shared → Prop), Pre mg mb G lvl A outer V s → A.frames = some outer → HasL V s.heap vs ds → R ds d →
    (∀ v s', Mv G (outer.filterMap (·.frame)) s s' → Has V s'.heap v d → Q v s') → wpAny (model prog w) A (call (.ref fa) vs) Q E s
theorem OpN.conF {f : Fm} {O : List (Addr × List Dat)} {ρ : List (Str × Slot)} {lvl : Nat} {fa : Addr} {R : List Dat → Dat → Prop} {ds : List Dat} {d : Dat} (C : ConF f.prog f.w f.mg f.mb f.G lvl fa R) (hst : f.A.frames = some f.outer) (hR : R ds d) (hd : f.A.depth + lvl < recursionLimit) (hu : f.A.units + 40 * lvl + 100 < cLine) : OpN f O ρ (fun vs => call (.ref fa) vs) ds d := by
  intro s vs Q E st hv k
  refine C f.A f.outer (f.V O) s vs ds d Q E ⟨st.bel, st.ok.hh, hd, hu, st.ok.bas, st.frD, fun a ha => ?_, st.tab⟩ hst hv hR k
  rcases List.mem_append.mp ha with ha | ha
  · obtain ⟨p, hp, rfl⟩ := List.mem_map.mp ha
    obtain ⟨vs, ⟨n, e⟩, _⟩ := st.own p hp
    exact ⟨_, e⟩
  · exact st.v0 a ha
theorem ConF.of_def {prog : Program} {w : World} {mg mb : Str → Option Value} {G : Heap} {lvl : Nat} {fa : Addr} {o : Obj} {fd : FuncData} {body : List Stmt} {R : List Dat → Dat → Prop} (ps : List Str)
    (ho : G.get? fa = some o) (hdata : o.data = .func fd) (hcd : G.CodeRec fd.code fd.qualname) (hbody : fd.body = .stmts body) (hclo : fd.closure = []) (hgl : fd.globals = mainGlobals) (hbi : fd.builtins = builtinsNs)
    (hbind : ∀ vs : List Value, vs.length = ps.length → bindArgs fd ⟨vs, []⟩ = pure (ps.zip vs)) (hnd : ps.Nodup)
    (hkind : ps.all (fun p => fd.scope.names.lookup p == some .local || fd.scope.names.lookup p == some .cell) = true)
    (hR : ∀ ds d, R ds d → ds.length = ps.length) (hlvl : 1 ≤ lvl)
    (hco : fd.scope.isCoroutine = false) (hgen : fd.scope.isGenerator = false) (hk : fd.scope.kind = .function)
    (h : ∀ (A : Around) (L : Addr) (outer : List Env) (V : List Addr) (s : Shared), A.frames = some outer → A.depth + lvl < recursionLimit → A.units + 40 * lvl + 100 < cLine → ∀ ds d, R ds d →
      Ex (mkF prog w mg mb G A (envM fd.scope fd.code fd.qualname L fa) outer V s) [] (parm ps ds) body (retIs d)) : ConF prog w mg mb G lvl fa R := by
  intro A outer V s vs ds d Q E pre hstk hv hr k
  have hlen : vs.length = ps.length := hv.length.trans (hR ds d hr)
  have hkd : ∀ x ∈ ps, fd.scope.names.lookup x = some .local ∨ fd.scope.names.lookup x = some .cell := fun x hx => by
    have := List.all_eq_true.mp hkind x hx
    simpa using this
  have hce : ∀ (n : Nat) (x : Str), fd.scope.names.lookup x = some .cell → ((cellsFrom n fd.scope.names []).lookup x).isSome = true := fun n x hx => cellsFrom_some _ _ _ (.inl hx)
  refine wpAny_call (codeAny_call_cells (binds := ps.zip vs) (by have := pre.dep; omega) (pre.bel.stays _ _ ho) hdata (pre.bas.lim.keeps pre.bel.stays) (hcd.keeps pre.bel.stays) hbody (hbind vs hlen) hclo
    (fun x hx => (hkd x.1 (List.of_mem_zip hx).1).imp id fun q => ⟨q, hce _ _ q⟩) (fun s₁ IC => ?_) hco hgen hk)
  have henv : callEnvC fd s.heap.objs.size fa = envM fd.scope fd.code fd.qualname s.heap.objs.size fa := by
    unfold callEnvC envM; rw [hgl, hbi]
  rw [henv] at IC ⊢
  generalize hE : envM fd.scope fd.code fd.qualname s.heap.objs.size fa = env at IC ⊢
  have hloc : env.locals = s.heap.objs.size := by rw [← hE]; rfl
  have hfr : env.frame = some s.heap.objs.size := by rw [← hE]; rfl
  have hsc : env.scope = fd.scope := by rw [← hE]; rfl
  have hcl : env.cells = cellsFrom (s.heap.objs.size + 1) fd.scope.names [] := by rw [← hE]; rfl
  have hkk : ∀ x, env.kindOf x = fd.scope.names.lookup x := fun x => by show env.scope.names.lookup x = _; rw [hsc]
  have noG : G.get? s.heap.objs.size = none := pre.bel.stays.fresh
  obtain ⟨oL, es, ep, eL, dL, rL⟩ := id IC.toInCall.ns
  rw [hloc] at eL
  have keep := IC.toInCall.keep
  obtain ⟨h1, tk1, e1⟩ := IC.toInCall.same
  have mv1 : Mv G (outer.filterMap (·.frame)) s s₁ := by
    rw [e1]
    refine Mv.of_keep fun b o e => ?_
    have := keep b o e
    rw [e1] at this
    exact this
  have ex := h A s.heap.objs.size outer V s hstk pre.dep pre.uni ds d hr
  rw [hE] at ex
  have st : St (mkF prog w mg mb G A env outer V s) [] (parm ps ds) s₁ := by
    refine { ok := ⟨pre.hh, by rw [hsc]; exact hk, by rw [← hE]; rfl, by rw [← hE]; rfl, pre.bas, pre.bel.stays, by rw [hloc]; exact Nat.le_refl _, IC.apart, fun _ n c hc => by have := IC.above n c hc; rw [hloc] at this; exact Nat.le_of_lt this, fun a ha => ?_⟩,
             bel := ⟨trivial, fun b o e => keep b o (pre.bel.stays b o e), ?_⟩, frm := mv1, loc := ⟨_, IC.toInCall.ns⟩, cel := fun n c hc => ⟨_, IC.cell n c hc⟩, vars := fun x sl hx => ?_, own := fun p hp => (nomatch hp), nod := List.nodup_nil, fO := fun p hp => (nomatch hp),
             v0 := fun a ha => let ⟨o, e⟩ := pre.v0 a ha; ⟨o, keep a o e⟩, frD := fun a ha => ?_, kep := fun p hp => (nomatch hp), dat := fun p hp => (nomatch hp), oV := fun p hp => (nomatch hp), tab := mv1.tabs pre.tab }
    · have : (env :: outer).filterMap (·.frame) = s.heap.objs.size :: outer.filterMap (·.frame) := by simp [List.filterMap_cons, hfr]
      rw [show (mkF prog w mg mb G A env outer V s).W = (env :: outer).filterMap (·.frame) from rfl, this] at ha
      rcases List.mem_cons.mp ha with rfl | ha
      · exact .inr (Nat.le_refl _)
      · exact .inl ha
    · refine ⟨by rw [hsc, hk]; decide, ⟨s.heap.objs.size, oL, hfr, noG, eL, fun vs q => by rw [dL] at q; cases q⟩, pre.bel.frames.of_keeps fun b o e _ => ⟨o, keep b o e, rfl⟩⟩
    · obtain ⟨v, hv1, hv2, hv3⟩ := bind_hit (kindOf := env.kindOf) ps vs ds (fun _ => none) (fun _ => none) hnd hv hx
      have hmem := lookup_parm hx
      refine ⟨v, ?_, hv1.keep mv1.dkeep⟩
      rcases hkd x hmem with q | q
      · exact .inl ⟨by rw [hkk]; exact q, _, IC.toInCall.ns, hv2 (by rw [hkk]; exact q)⟩
      · refine .inr ⟨.inl (by rw [hkk]; exact q), ?_⟩
        obtain ⟨c, hc⟩ := Option.isSome_iff_exists.mp (hce (s.heap.objs.size + 1) x q)
        have hc' : env.cells.lookup x = some c := by rw [hcl]; exact hc
        refine ⟨c, hc', ?_⟩
        have := IC.cell x c hc'
        rw [hv3 (by rw [hkk, q]; decide)] at this
        exact this
    · have : (env :: outer).filterMap (·.frame) = s.heap.objs.size :: outer.filterMap (·.frame) := by simp [List.filterMap_cons, hfr]
      rw [show (mkF prog w mg mb G A env outer V s).W = (env :: outer).filterMap (·.frame) from rfl, this] at ha
      rcases List.mem_cons.mp ha with rfl | ha
      · exact ⟨oL, es, ep, eL, dL⟩
      · obtain ⟨o, es', ep', e, d'⟩ := pre.frD a ha
        exact ⟨o, es', ep', keep a o e, d'⟩
  refine wpAny_mono (ex.run s₁ _ st) (fun fl s' hq => ?_) fun _ _ x => x
  cases fl with
  | next => obtain ⟨_, _, hf, _⟩ := hq; exact absurd hf id
  | brk => obtain ⟨_, _, hf, _⟩ := hq; exact absurd hf id
  | cont => obtain ⟨_, _, hf, _⟩ := hq; exact absurd hf id
  | ret v =>
    obtain ⟨d', hd', hv', hm'⟩ := hq
    have : d' = d := hd'
    subst this
    exact k v s' hm' hv'


end Mine

namespace Mine
-- ## lambdas 
section
variable {f : Fm} {O : List (Addr × List Dat)} {ρ : List (Str × Slot)}
theorem funCode {c P : Addr} {pos : Pos} {fl : Nat} {nm q : Str} {pa : Arguments} {scope : Scope} {body : FuncBody} {s : Shared} {Q : Value → Shared → Prop} {E : Value → Shared → Prop} (st : St f O ρ s) (C : CodeIs f.G c P) (hc : f.env.code = .ref c)
    (k : ∀ code h' tk, Mv f.G f.W s { s with heap := h', toks := tk } → s.heap.objs.size ≤ h'.objs.size → CodeOk h' code → Q code { s with heap := h', toks := tk }) : wpAny f.M f.A (functionCode f.env pos fl nm q pa scope body) Q E s := by
  obtain ⟨ps, hi, htab⟩ := codeAt_of st C
  have hg := C.2.2
  obtain ⟨op, eop, hok⟩ := st.tab P hg
  have eop' := htab.2
  rw [eop] at eop'; cases eop'
  cases hn : codeAmong pos ps.toList with
  | none =>
    refine wpAny_functionCodeX hc hi htab hn fun c' h' tk hx hle hlt hi' hr htab' hP' => ?_
    obtain ⟨P', _, _, hP2⟩ := hP'
    have h2 := hok.more (l := pos.line) (cl := pos.col) eop hx hr hP2
    refine k _ _ _ (.of_tab eop hok hg hx htab'.2 ⟨_, _, rfl, rfl⟩ h2) (Nat.le_trans hle (Nat.le_of_lt hlt)) ?_
    obtain ⟨ps2, e2, _, r⟩ := h2
    cases e2
    refine r pos _ ?_
    obtain ⟨_, _, _, _, _, _, _, _, _, _, _, _, _, _, _, _, _, _, _, ht, _⟩ := hi
    have e1 : (ps ++ #[rawInt pos.line, rawInt pos.col, Value.ref c']).toList = ps.toList ++ [rawInt pos.line, rawInt pos.col, .ref c'] := by simp
    rw [e1]
    exact codeAmong_snoc _ ht hn
  | some cv =>
    refine wpAny_functionCode_hit hc hi hn ?_
    obtain ⟨ps2, e2, _, r⟩ := hok
    cases e2
    exact k cv s.heap s.toks (.refl s) (Nat.le_refl _) (r pos cv hn)

abbrev lamObj (qual : Str) (params : Arguments) (body : Expr) (scope : Scope) (cl : List (Str × Addr)) (pm cdv ct : Value) : Obj :=
  { cls := .type "function", data := .func (kla_fn "<lambda>" qual params body scope cl pm cdv ct) }
theorem lam_make {c P : Addr} {params : Arguments} {body : Expr} {scope : Scope} {pos : Pos} {cl : List (Str × Addr)} {s : Shared} {Q : Value → Shared → Prop} {E : Value → Shared → Prop} (st : St f O ρ s) (C : CodeIs f.G c P) (hc : f.env.code = .ref c) (B : BuiltM f.mg f.G)
    (hdef : defaultsOf params f.env = ([], [])) (hcl : closureFor scope f.env = pure cl)
    (k : ∀ fa s' qual pm cdv ct, Mv f.G f.W s s' → s'.heap.get? fa = some (lamObj qual params body scope cl pm cdv ct) → CodeOk s'.heap cdv → s.heap.get? fa = none → Q (.ref fa) s') : wpAny f.M f.A (eval (.Lambda params body scope pos) f.env) Q E s := by
  refine kla_eval hdef ?_
  rw [makeFunction_eq]
  simp only [List.zip_nil_right, List.filterMap_nil, List.isEmpty_nil, if_true, pure_bind]
  unfold makeTail
  rw [hcl]
  refine wpAny_bind (wpAny_pure ?_)
  obtain ⟨bm, ob, hb1, hb2, hb3, hb4, hb5, hb6⟩ := B.ex
  have fin : ∀ (h₁ : Heap) (tk : Tok) (ctv cdv : Value) (s₁ : Shared), s₁ = { s with heap := h₁, toks := tk } → Mv f.G f.W s s₁ → s.heap.objs.size ≤ h₁.objs.size → CodeOk h₁ cdv →
      Q (.ref h₁.objs.size) { s₁ with heap := h₁.push { cls := .type "function", data := .func (kla_fn "<lambda>" (f.env.qual ++ "<lambda>") params body scope cl ((f.mg "__name__").getD .none) cdv ctv) } } := by
    rintro h₁ tk ctv cdv s₁ rfl m hle hok
    refine k _ _ (f.env.qual ++ "<lambda>") ((f.mg "__name__").getD .none) cdv ctv (m.trans (.push _)) (Heap.get?_push_size _ rfl) (hok.up (.of fun b o e => Heap.get?_push_of_some _ e)) (Heap.get?_none_of_le hle)
  have glob : ∀ s₁, St f O ρ s₁ → s₁.heap.Ns f.env.globals f.mg := fun s₁ st1 => by rw [st1.ok.glob]; exact st1.ok.bas.g.keeps st1.bel.stays
  cases cl with
  | nil =>
    simp only [List.isEmpty_nil, if_true]
    refine wpAny_bind (wpAny_pure ?_)
    refine wpAny_bind (funCode st C hc fun cdv h1 tk1 m1 hle1 hok1 => ?_)
    have st1 := st.mv m1
    refine wpAny_bind (wpAny_builtinsFor (glob _ st1) hb1 hb2 (st1.bel.stays _ _ hb3) hb4 hb5 hb6 ?_)
    refine wpAny_bind (wpAny_nsGet (glob _ st1) ?_)
    refine wpAny_bind (wpAny_pure (wpAny_newObj_type ?_ (by size_fits)))
    rw [st1.ok.glob]
    exact fin h1 tk1 .none cdv _ rfl m1 hle1 hok1
  | cons q r =>
    simp only [List.isEmpty_cons, Bool.false_eq_true, if_false]
    refine wpAny_bind (wpAny_newTextTuple ?_)
    have m0 : Mv f.G f.W s { s with heap := s.heap.push { cls := .type "tuple", data := .seq (((q :: r).mergeSort fun a b => a.1.cps.toList ≤ b.1.cps.toList).map (Value.ref ·.2)).toArray } } := .push _
    have st0 := st.mv m0
    refine wpAny_bind (funCode st0 C hc fun cdv h1 tk1 m1 hle1 hok1 => ?_)
    have st1 := st0.mv m1
    refine wpAny_bind (wpAny_builtinsFor (glob _ st1) hb1 hb2 (st1.bel.stays _ _ hb3) hb4 hb5 hb6 ?_)
    refine wpAny_bind (wpAny_nsGet (glob _ st1) ?_)
    refine wpAny_bind (wpAny_pure (wpAny_newObj_type ?_ (by size_fits)))
    rw [st1.ok.glob]
    refine fin h1 tk1 _ cdv _ rfl (m0.trans m1) (Nat.le_trans ?_ hle1) hok1
    show _ ≤ (s.heap.push _).objs.size
    rw [Heap.size_push]; exact Nat.le_succ _
end

-- a function's object at a state: what a call of it gives from there on 
structure FnAt (prog : Program) (w : World) (mg mb : Str → Option Value) (G : Heap) (lvl : Nat) (s₀ : Shared) (V₀ : List Addr) (fa : Addr) (R : List Dat → Dat → Prop) : Prop where
  fn : ∃ o fd, s₀.heap.get? fa = some o ∧ o.data = .func fd ∧ o.cls = .type "function"
  run : ∀ (A : Around) (outer : List Env) (V : List Addr) (s : Shared) (vs : List Value) (ds : List Dat) (d : Dat) (Q E : Value → Shared → Prop) (W : List Addr), Mv G W s₀ s → (∀ a ∈ V, a ∈ V₀ ∨ s₀.heap.get? a = none) → Pre mg mb G lvl A outer V s → HasL V s.heap vs ds → R ds d →
    (∀ v s', Mv G (outer.filterMap (·.frame)) s s' → Has V s'.heap v d → Q v s') → wpAny (model prog w) A (call (.ref fa) vs) Q E s
theorem Mv.none {X : Heap} {W : List Addr} {s s' : Shared} (m : Mv X W s s') {a : Addr} (h : s'.heap.get? a = none) : s.heap.get? a = none := by
  cases q : s.heap.get? a with
  | none => rfl
  | some o =>
    obtain ⟨o', e⟩ := m.there q
    rw [h] at e; cases e
theorem FnAt.mv {prog : Program} {w : World} {mg mb : Str → Option Value} {G : Heap} {lvl : Nat} {s₀ s₁ : Shared} {V₀ V₁ W₁ : List Addr} {fa : Addr} {R : List Dat → Dat → Prop} (x : FnAt prog w mg mb G lvl s₀ V₀ fa R) (m : Mv G W₁ s₀ s₁) (hV : ∀ a ∈ V₁, a ∈ V₀ ∨ s₀.heap.get? a = none) : FnAt prog w mg mb G lvl s₁ V₁ fa R where
  fn := let ⟨o, fd, a, b, c⟩ := x.fn; ⟨o, fd, m.exactD a (tabB_cls (by rw [c]; exact fun h => nomatch h)) (fun es ep h => by rw [b] at h; cases h), b, c⟩
  run := fun A outer V s vs ds d Q E W m' hV' pre hv hr k => by
    refine x.run A outer V s vs ds d Q E (W₁ ++ W) ((m.mono fun b hb => List.mem_append.mpr (.inl hb)).trans (m'.mono fun b hb => List.mem_append.mpr (.inr hb))) (fun a ha => ?_) pre hv hr k
    rcases hV' a ha with h | h
    · exact hV a h
    · exact .inr (m.none h)

theorem lookup_nodup {α : Type} {x : Str} {v : α} : ∀ {l : List (Str × α)}, (l.map (·.1)).Nodup → (x, v) ∈ l → l.lookup x = some v
  | [], _, h => nomatch h
  | (n, u) :: r, hn, h => by
    simp only [List.map_cons, List.nodup_cons] at hn
    rcases List.mem_cons.mp h with h | h
    · cases h; simp
    · have : (x == n) = false := by
        simp only [beq_eq_false_iff_ne, ne_eq]
        intro hxn
        exact hn.1 (List.mem_map.mpr ⟨(x, v), h, hxn⟩)
      rw [List.lookup_cons, this]
      exact lookup_nodup hn.2 h
theorem zip_map_fst {vs : List Value} : ∀ {ps : List Str}, ps.length = vs.length → (ps.zip vs).map (·.1) = ps := by
  induction vs with
  | nil => intro ps h; cases ps with | nil => rfl | cons => simp at h
  | cons v vs ih =>
    intro ps h
    cases ps with
    | nil => simp at h
    | cons p ps => simp only [List.zip_cons_cons, List.map_cons]; rw [ih (by simpa using h)]
theorem parm_mem {V : List Addr} {h : Heap} {x : Str} {sl : Slot} : ∀ {ps : List Str} {vs : List Value} {ds : List Dat}, HasL V h vs ds → (parm ps ds).lookup x = some sl → ∃ v, (x, v) ∈ ps.zip vs ∧ SlotIs V h sl v
  | [], _, _, _, hl => by simp [parm] at hl
  | p :: ps, [], _, hv, hl => by cases hv; simp [parm] at hl
  | p :: ps, v :: vs, [], hv, hl => by cases hv
  | p :: ps, v :: vs, d :: ds, hv, hl => by
    cases hv with
    | cons hd hr =>
      unfold parm at hl
      simp only [List.map_cons, List.zip_cons_cons, List.lookup_cons] at hl
      by_cases hx : x = p
      · subst hx
        simp only [beq_self_eq_true] at hl
        cases hl
        exact ⟨v, List.mem_cons_self, hd⟩
      · have hb : (x == p) = false := by simpa using hx
        simp only [hb] at hl
        obtain ⟨v', hv', hs⟩ := parm_mem hr hl
        exact ⟨v', List.mem_cons_of_mem _ hv', hs⟩

section
variable {prog : Program} {w : World} {mg mb : Str → Option Value} {G : Heap}
-- the frame of a lambda's call 
abbrev lamF (prog : Program) (w : World) (mg mb : Str → Option Value) (G : Heap) (A : Around) (env : Env) (outer : List Env) (V : List Addr) (s : Shared) : Fm :=
  { prog, w, mg, mb, G, A := A.deeper env, env, outer := env :: outer, V₀ := V, s₀ := s, Wc := outer.filterMap (·.frame), own := false }
abbrev lamEnv (scope : Scope) (q : Str) (L fa : Addr) (cdv : Value) (cl : List (Str × Addr)) : Env := newEnv scope L mainGlobals cl (q ++ ".<locals>.") (some fa) cdv none builtinsNs
theorem callOk {A : Around} {R : Result → Shared → Prop} {s : Shared} {a : Addr} {args : Args} {o : Obj} {fd : FuncData} {body : Expr} (hroom : A.depth < recursionLimit) (ho : s.heap.get? a = some o)
    (hd' : o.data = .func fd) (hco : fd.scope.isCoroutine = false) (hgen : fd.scope.isGenerator = false) (hbody : fd.body = .expr body) (hcd : CodeOk s.heap fd.code)
    (h : ∀ q : Str, wpAny (model prog w) A.in1 (bindArgs fd args) (fun binds s₁ =>
      wpAny (model prog w) A.in1 (newFunctionEnv fd.scope fd.globals fd.closure binds (q ++ ".<locals>.") (some a) fd.code none fd.builtins)
        (fun env s₂ => s₂.heap.NoLimit ∧ codeAny (model prog w) A (.expr body env) R s₂) (fun e s' => R (.error e) s') s₁) (fun e s' => R (.error e) s') s) :
    codeAny (model prog w) A (.call (.ref a) args) R s := by
  refine codeAny_of_tree ?_
  show wpAny _ A.in1 (callAny (.ref a) args) _ _ s
  simp only [callAny]
  refine wpAny_bind (wpAny_load ho ?_)
  obtain ⟨c, oc, vs, q, tq, hc, hoc, _, hdc, hq⟩ := hcd
  have h := h q
  simp only [hd', callFunction, hco, hgen, hbody, hc]
  rw [hc] at h
  refine wpAny_bind (m := field (.ref c) 1) (wpAny_field hoc hdc hq (wpAny_bind (wpAny_pure ?_)))
  exact wpAny_bind (wpAny_mono h (fun binds s₁ h₁ => wpAny_bind (wpAny_mono h₁ (fun env s₂ h₂ => wpAny_bind (wpAny_enterFrame h₂.1 hroom
    (wpAny_pure (And.intro rfl h₂.2)))) fun _ _ h' => h')) fun _ _ h' => h')

theorem lam_call {lvl : Nat} {A : Around} {outer : List Env} {V : List Addr} {s : Shared} {fa : Addr} {vs : List Value} {ds : List Dat} {d : Dat} {qual : Str} {params : Arguments} {body : Expr} {scope : Scope} {cl : List (Str × Addr)} {pm cdv ct : Value} {ρc : List (Str × Slot)} {Q E : Value → Shared → Prop} {ps : List Str}
    (pre : Pre mg mb G lvl A outer V s) (ho : s.heap.get? fa = some (lamObj qual params body scope cl pm cdv ct)) (hcd : CodeOk s.heap cdv) (hlen : ds.length = ps.length) (hlvl : 1 ≤ lvl)
    (hbind : vs.length = ps.length → bindArgs (kla_fn "<lambda>" qual params body scope cl pm cdv ct) ⟨vs, []⟩ = pure (ps.zip vs)) (hnd : ps.Nodup) (hloc : ps.all (fun p => scope.names.lookup p == some .local) = true) (hcell : ∀ y ∈ scope.names, y.2 ≠ .cell)
    (hap : cl.Pairwise fun x y => x.2 ≠ y.2) (hclx : ∀ n c, cl.lookup n = some c → ∃ v, s.heap.IsCell c v)
    (hcap : ∀ x sl, ρc.lookup x = some sl → scope.names.lookup x = some .free ∧ ∃ c v, cl.lookup x = some c ∧ s.heap.IsCell c (some v) ∧ SlotIs V s.heap sl v)
    (hv : HasL V s.heap vs ds) (hco : scope.isCoroutine = false) (hgen : scope.isGenerator = false) (hk : scope.kind = .function)
    (h : ∀ (q : Str) (L : Addr), Ev (lamF prog w mg mb G A (lamEnv scope q L fa cdv cl) outer V s) [] (parm ps ds ++ ρc) body d)
    (k : ∀ v s', Mv G (outer.filterMap (·.frame)) s s' → Has V s'.heap v d → Q v s') : wpAny (model prog w) A (call (.ref fa) vs) Q E s := by
  have hvl : vs.length = ps.length := hv.length.trans hlen
  have hkd : ∀ x ∈ ps, scope.names.lookup x = some .local := fun x hx => by
    have := List.all_eq_true.mp hloc x hx
    simpa using this
  refine wpAny_call (callOk (by have := pre.dep; omega) ho rfl hco hgen rfl hcd fun q => ?_)
  rw [hbind hvl]
  refine wpAny_pure (wpAny_newFunctionEnv hcell (fun x hx => hkd x.1 (List.of_mem_zip hx).1) (fun h₁ hns hsb => ?_) hk)
  have keep : ∀ b o, s.heap.get? b = some o → h₁.get? b = some o := fun b o e => hsb.extBut b o (Nat.ne_of_lt (Heap.lt_size e)) (Heap.get?_push_of_some _ e)
  refine ⟨((pre.bas.lim).keeps pre.bel.stays).keeps keep, kla_codeExpr ?_⟩
  have ex := h q s.heap.objs.size
  generalize hE : lamEnv scope q s.heap.objs.size fa cdv cl = env at ex
  show wpAny (model prog w) (A.deeper (lamEnv scope q s.heap.objs.size fa cdv cl)) (eval body (lamEnv scope q s.heap.objs.size fa cdv cl)) (fun v s' => Q v s') (fun e' s' => wpAny (model prog w) (A.deeper (lamEnv scope q s.heap.objs.size fa cdv cl)) (leaving (lamEnv scope q s.heap.objs.size fa cdv cl) e') (fun _ s'' => E e' s'') (fun e'' s'' => E e'' s'') s') _
  rw [hE]
  have hlocA : env.locals = s.heap.objs.size := by rw [← hE]; rfl
  have hfr : env.frame = some s.heap.objs.size := by rw [← hE]; rfl
  have hsc : env.scope = scope := by rw [← hE]; rfl
  have hcle : env.cells = cl := by rw [← hE]; rfl
  have hkk : ∀ x, env.kindOf x = scope.names.lookup x := fun x => by show env.scope.names.lookup x = _; rw [hsc]
  have noG : G.get? s.heap.objs.size = none := pre.bel.stays.fresh
  obtain ⟨oL, es, ep, eL, dL, rL⟩ := id hns
  have mv1 : Mv G (outer.filterMap (·.frame)) s { s with heap := h₁, toks := s.toks + (ps.zip vs).length } := Mv.of_keep keep
  have st : St (lamF prog w mg mb G A env outer V s) [] (parm ps ds ++ ρc) { s with heap := h₁, toks := s.toks + (ps.zip vs).length } := by
    refine { ok := ⟨pre.hh, by rw [hsc]; exact hk, by rw [← hE]; rfl, by rw [← hE]; rfl, pre.bas, pre.bel.stays, by rw [hlocA]; exact Nat.le_refl _, by rw [hcle]; exact hap, (fun h => nomatch h), fun a ha => ?_⟩,
             bel := ⟨trivial, fun b o e => keep b o (pre.bel.stays b o e), ?_⟩, frm := mv1, loc := ⟨_, by rw [hlocA]; exact hns⟩, cel := fun n c hc => ?_, vars := fun x sl hx => ?_, own := fun p hp => (nomatch hp), nod := List.nodup_nil, fO := fun p hp => (nomatch hp),
             v0 := fun a ha => let ⟨o, e⟩ := pre.v0 a ha; ⟨o, keep a o e⟩, frD := fun a ha => ?_, kep := fun p hp => (nomatch hp), dat := fun p hp => (nomatch hp), oV := fun p hp => (nomatch hp), tab := mv1.tabs pre.tab }
    · have : (env :: outer).filterMap (·.frame) = s.heap.objs.size :: outer.filterMap (·.frame) := by simp [hfr]
      rw [show (lamF prog w mg mb G A env outer V s).W = (env :: outer).filterMap (·.frame) from rfl, this] at ha
      rcases List.mem_cons.mp ha with rfl | ha
      · exact .inr (Nat.le_refl _)
      · exact .inl ha
    · refine ⟨by rw [hsc, hk]; decide, ⟨s.heap.objs.size, oL, hfr, noG, eL, fun vs q => by rw [dL] at q; cases q⟩, pre.bel.frames.of_keeps fun b o e _ => ⟨o, keep b o e, rfl⟩⟩
    · rw [hcle] at hc
      obtain ⟨v, o, e, d'⟩ := hclx n c hc
      exact ⟨v, o, keep _ _ e, d'⟩
    · rw [List.lookup_append] at hx
      cases hp : (parm ps ds).lookup x with
      | some sl' =>
        rw [hp] at hx
        cases hx
        obtain ⟨v, hm, hs⟩ := parm_mem hv hp
        refine ⟨v, .inl ⟨by rw [hkk]; exact hkd x (lookup_parm hp), _, by rw [hlocA]; exact hns, ?_⟩, hs.keep mv1.dkeep⟩
        exact lookup_nodup (by rw [List.map_reverse, zip_map_fst hvl.symm]; exact List.pairwise_reverse.mpr (hnd.imp fun h => h.symm)) (List.mem_reverse.mpr hm)
      | none =>
        rw [hp] at hx
        obtain ⟨hkx, c, v, hc, ⟨o, e, d'⟩, hs⟩ := hcap x sl (by simpa using hx)
        exact ⟨v, .inr ⟨.inr (by rw [hkk]; exact hkx), c, by rw [hcle]; exact hc, o, keep _ _ e, d'⟩, hs.keep mv1.dkeep⟩
    · have : (env :: outer).filterMap (·.frame) = s.heap.objs.size :: outer.filterMap (·.frame) := by simp [hfr]
      rw [show (lamF prog w mg mb G A env outer V s).W = (env :: outer).filterMap (·.frame) from rfl, this] at ha
      rcases List.mem_cons.mp ha with rfl | ha
      · exact ⟨oL, es, ep, eL, dL⟩
      · obtain ⟨o, es', ep', e, d'⟩ := pre.frD a ha
        exact ⟨o, es', ep', keep a o e, d'⟩
  exact ex.run _ _ _ st fun v s' m hv' => k v s' (st.mv m).frm hv'
end
end Mine

namespace Mine
-- ## iterators that a name holds 
section
variable {prog : Program} {w : World} {A : Around} {E : Value → Shared → Prop} {s : Shared}
theorem iter_call {x : Value} {Q : Value → Shared → Prop} (h : wpAny (model prog w) A.in1 (pyIter x) Q E s) : wpAny (model prog w) A (call (.builtin "iter") [x]) Q E s := by
  refine PySem.Calls.call_function_entry (by decide +kernel) (by decide +kernel) kdk_entry_iter (kdk_args_iter _) ?_
  unfold Builtin.«iter»
  refine wpAny_bind (m := someArgs "iter" 1 2 _) (wpAny_of_eq (a := [x]) (by first | rfl | kernel_rfl!) ?_)
  show wpAny _ _ (pyIter x >>= _) _ _ _
  exact wpAny_bind (wpAny_mono h (fun v s' hq => wpAny_pure ⟨_, rfl, hq⟩) fun _ _ h => h)
end

structure Held (f : Fm) (O : List (Addr × List Dat)) (it : Value) (tgt : Expr) (ds : List Dat) (i : Nat) (V : List Addr) (K : List (Addr × Obj)) (D : List (List Value × List Dat)) : Prop where
  ex : ∃ vs es J fp wr h0, V = wr ++ f.V₀ ∧ K = objsAt h0 fp ++ f.K ∧ D = (vs, es) :: f.D ∧ (∀ V, (∀ b ∈ wr, b ∈ V) → Itr f.prog f.w f.A V it tgt vs es ds J fp wr) ∧ J i h0 ∧ (∀ b ∈ wr, f.s₀.heap.objs.size ≤ b) ∧ (∀ b ∈ fp, b ∉ O.map (·.1)) ∧
    (∀ p ∈ f.K, p.1 ∉ wr) ∧ (∀ a ∈ f.V₀, a ∉ wr)
theorem Held.new {f : Fm} {O : List (Addr × List Dat)} {it : Value} {tgt : Expr} {ds : List Dat} {i : Nat} {V : List Addr} {K : List (Addr × Obj)} {D : List (List Value × List Dat)} (H : Held f O it tgt ds i V K D) : ∀ a ∈ V, a ∈ f.V₀ ∨ f.s₀.heap.get? a = none := by
  obtain ⟨vs, es, J, fp, wr, h0, rfl, _, _, _, _, hlo, _⟩ := H.ex
  intro a ha
  rcases List.mem_append.mp ha with ha | ha
  · exact .inr (Heap.get?_none_of_le (hlo a ha))
  · exact .inl ha

abbrev rangeObj (n : Nat) (t u v : Tok) : Obj := { cls := .type "range", data := .fields #[.int 0 t, .int n u, .int 1 v] }
abbrev rangeD (n : Nat) : List Dat := (List.range n).map fun i => Dat.int (i : Nat)

section
variable {f : Fm} {O : List (Addr × List Dat)} {ρ : List (Str × Slot)}

-- a block in the frame F, seen from f 
def ExH (f F : Fm) (O : List (Addr × List Dat)) (ρ : List (Str × Slot)) (b : List Stmt) (Φ : Ot → Prop) : Prop :=
  ∀ (s : Shared) (E : Value → Shared → Prop), St F O ρ s → wpAny f.M f.A (execs b f.env) (Out f Φ) E s

-- the loop over an iterator that a name holds 
theorem ExH.forHeld {x : Str} {tgt : Expr} {np pos : Pos} {body rest : List Stmt} {it : Value} {ds : List Dat} {i : Nat} {V : List Addr} {K : List (Addr × Obj)} {D : List (List Value × List Dat)} {d : Dat} (H : Held f O it tgt ds i V K D) (hx : ρ.lookup x = some (.val it)) (hi : i ≤ ds.length)
    (I : Nat → List (Str × Slot) → Prop) (h0 : ∃ ρ₁, I i ρ₁ ∧ Sub ρ₁ ρ)
    (turn : ∀ K' j ρ' d, I j ρ' → ds[j]? = some d → ∃ ρ'', As (withF f V K' D) O ρ' tgt d ρ'' ∧ Ex (withF f V K' D) O ρ'' body (fun o => ∃ ρ₂ ρ₁, o = .next O ρ₂ ∧ I (j + 1) ρ₁ ∧ Sub ρ₁ ρ₂))
    (done : ∀ ρ', I ds.length ρ' → Ex f O ρ' rest (retIs d)) (hs : ∀ y, foldedSetIterable (.Name x np) f.env y = pure y := by intro _; rfl) (hxd : (x == ("__debug__" : Str)) = false := by decide) (hxc : (x == ("__classdict__" : Str)) = false := by decide) :
    ExH f (withF f V K D) O ρ (.For tgt (.Name x np) body [] pos :: rest) (retIs d) := by
  intro s E st
  obtain ⟨ρ₁, hI0, hsub⟩ := h0
  obtain ⟨vs, es, J, fp, wr, h0, rfl, rfl, rfl, ITA, hJ0, lo0, hfO, fKw, fVw⟩ := H.ex
  have IT := ITA (O.map (·.1) ++ (wr ++ f.V₀)) fun b hb => List.mem_append.mpr (.inr (List.mem_append.mpr (.inl hb)))
  have hJs : J i s.heap := IT.frame _ _ _ hJ0 fun b hb o e => (st.kep (b, o) (List.mem_append.mpr (.inl (mem_objsAt hb e)))).1
  refine wpAny_execs_cons (wpAny_For ((EvS.name (f := withF f (wr ++ f.V₀) (objsAt h0 fp ++ f.K) ((vs, es) :: f.D)) hx hxd hxc).run s _ _ st fun v s₁ m₁ hv => ?_) hs)
  have hv' : v = it := hv
  subst hv'
  have st1 := (st.mv m₁).weak hsub
  have hJ1 : J i s₁.heap := IT.frame _ _ _ hJ0 fun b hb o e => (st1.kep (b, o) (List.mem_append.mpr (.inl (mem_objsAt hb e)))).1
  refine IT.self i s₁ _ _ hJ1 ?_
  have reK : ∀ {O' ρ' t} {K₀ : List (Addr × Obj)} (j : Nat), St (withF f (wr ++ f.V₀) K₀ ((vs, es) :: f.D)) O ρ' t → (∀ p ∈ f.K, p ∈ K₀) → J j t.heap → O' = O → St (withF f (wr ++ f.V₀) (objsAt t.heap fp ++ f.K) ((vs, es) :: f.D)) O ρ' t := by
    intro O' ρ' t K₀ j st7 hK hJ7 _
    refine St.foreign (f := f) (wr := []) (h' := t.heap) (tk := t.toks) st7 (fun _ h => nomatch h) (fun _ h => nomatch h) (fun a ha => ha) (fun a ha => st7.v0 a ha) (fun p hp => hp) (fun p hp => ?_) (fun _ h => nomatch h) fun _ _ _ e => e
    rcases List.mem_append.mp hp with hp | hp
    · obtain ⟨h1, h2⟩ := objsAt_mem hp
      exact ⟨h2, IT.fpOk j _ hJ7 _ h1 _ h2, hfO _ h1⟩
    · exact st7.kep p (hK p hp)
  refine codeAny_forLoop_any (fun n s => ∃ i ρ', n = ds.length + 1 - i ∧ i ≤ ds.length ∧ I i ρ' ∧ J i s.heap ∧ St (withF f (wr ++ f.V₀) (objsAt s.heap fp ++ f.K) ((vs, es) :: f.D)) O ρ' s) ?_ (ds.length + 1 - i) ⟨i, ρ₁, rfl, hi, hI0, hJ1, reK (O' := O) i st1 (fun p hp => List.mem_append.mpr (.inr hp)) hJ1 rfl⟩
  rintro n s₂ ⟨i, ρ', rfl, hi, hI, hJi, st3⟩
  have vex : ∀ a ∈ O.map (·.1) ++ (wr ++ f.V₀), ∃ o, s₂.heap.get? a = some o := fun a ha => by
    rcases List.mem_append.mp ha with ha | ha
    · obtain ⟨p, hp, rfl⟩ := List.mem_map.mp ha
      obtain ⟨us, ⟨n, e⟩, _⟩ := st3.own p hp
      exact ⟨_, e⟩
    · exact st3.v0 a ha
  rcases Nat.lt_or_ge i ds.length with hlt | hge
  · have hd' : ds[i]? = some ds[i] := List.getElem?_eq_getElem hlt
    have hdata : HasL (O.map (·.1) ++ (wr ++ f.V₀)) s₂.heap vs es := st3.dat (vs, es) List.mem_cons_self
    refine wpAny_mono (IT.item i ds[i] s₂ (fun v s₄ => ∃ h' tk, s₄ = { s₂ with heap := h', toks := tk } ∧ J (i + 1) h' ∧ Has (O.map (·.1) ++ (wr ++ f.V₀)) h' v ds[i] ∧ (∀ b o, b ∉ wr → s₂.heap.get? b = some o → h'.get? b = some o)) (notedBy (model f.prog f.w) f.A f.env _) hd' hJi hdata vex
      (fun v h' tk hJ' hv' hk' => ⟨h', tk, rfl, hJ', hv', hk'⟩)) (fun r s₄ hr => ?_) fun _ _ x => x
    obtain ⟨v, rfl, hr⟩ := hr
    refine wpAny_mono hr (fun _ s₅ h5 => ?_) fun _ _ x => x
    obtain ⟨h', tk, rfl, hJ', hv', hk'⟩ := h5
    have st4 : St (withF f (wr ++ f.V₀) (objsAt h' fp ++ f.K) ((vs, es) :: f.D)) O ρ' { s₂ with heap := h', toks := tk } := by
      refine St.foreign (f := f) st3 lo0 (fun b hb => List.mem_append.mpr (.inl hb)) (fun a ha => ha) (fun a ha => ?_) (fun p hp => hp) (fun p hp => ?_) (fun b hb o e => IT.fpOk i _ hJi b (IT.sub b hb) o e) hk'
      · rcases List.mem_append.mp ha with ha | ha
        · exact IT.ex (i + 1) _ hJ' a (IT.sub a ha)
        · obtain ⟨o, e⟩ := st3.v0 a (List.mem_append.mpr (.inr ha))
          exact ⟨o, hk' a o (fVw a ha) e⟩
      · rcases List.mem_append.mp hp with hp | hp
        · obtain ⟨h1, h2⟩ := objsAt_mem hp
          exact ⟨h2, IT.fpOk (i + 1) _ hJ' _ h1 _ h2, hfO _ h1⟩
        · obtain ⟨e, b, c⟩ := st3.kep p (List.mem_append.mpr (.inr hp))
          exact ⟨hk' _ _ (fKw p hp) e, b, c⟩
    obtain ⟨ρ'', has, hex⟩ := turn (objsAt h' fp ++ f.K) i ρ' ds[i] hI hd'
    refine has _ v _ _ st4 hv' fun s₆ st6 => ?_
    refine wpAny_mono (hex.run s₆ _ st6) (fun fl s₇ ho => ?_) fun _ _ x => x
    cases fl with
    | next =>
      obtain ⟨O₁, ρ₁', ⟨ρ₂, ρ₃, e, hI2, hs2⟩, st7⟩ := ho
      cases e
      have st7' := st7.weak hs2
      have hJ7 : J (i + 1) s₇.heap := IT.frame _ _ _ hJ' fun b hb o e => (st7.kep (b, o) (List.mem_append.mpr (.inl (mem_objsAt hb e)))).1
      exact ⟨ds.length + 1 - (i + 1), by omega, i + 1, ρ₃, rfl, hlt, hI2, hJ7, reK (O' := O) (i + 1) st7' (fun p hp => List.mem_append.mpr (.inr hp)) hJ7 rfl⟩
    | cont => obtain ⟨_, _, ⟨_, _, e, _⟩, _⟩ := ho; cases e
    | brk => obtain ⟨_, _, ⟨_, _, e, _⟩, _⟩ := ho; cases e
    | ret v => obtain ⟨_, ⟨_, _, e, _⟩, _⟩ := ho; cases e
  · have hie : i = ds.length := Nat.le_antisymm hi hge
    subst hie
    refine wpAny_mono (IT.done s₂ (fun s₄ => ∃ h' tk, s₄ = { s₂ with heap := h', toks := tk } ∧ ∀ b o, b ∉ wr → s₂.heap.get? b = some o → h'.get? b = some o) (notedBy (model f.prog f.w) f.A f.env _) hJi fun h' tk hk' => ⟨h', tk, rfl, hk'⟩) (fun r s₄ hr => ?_) fun _ _ x => x
    obtain ⟨rfl, h', tk, rfl, hk'⟩ := hr
    refine wpAny_execs_nil ?_
    have st5 : St f O ρ' { s₂ with heap := h', toks := tk } := by
      refine St.foreign (f := f) (V' := f.V₀) (K' := f.K) (D' := f.D) st3 lo0 (fun b hb => List.mem_append.mpr (.inl hb)) (fun a ha => List.mem_append.mpr (.inr ha)) (fun a ha => ?_) (fun p hp => List.mem_cons_of_mem _ hp) (fun p hp => ?_) (fun b hb o e => IT.fpOk _ _ hJi b (IT.sub b hb) o e) hk'
      · obtain ⟨o, e⟩ := st3.v0 a (List.mem_append.mpr (.inr ha))
        exact ⟨o, hk' a o (fVw a ha) e⟩
      · obtain ⟨e, b, c⟩ := st3.kep p (List.mem_append.mpr (.inr hp))
        exact ⟨hk' _ _ (fKw p hp) e, b, c⟩
    exact (done ρ' hI).run _ _ st5
end
end Mine

namespace Mine
section
variable {f : Fm} {O : List (Addr × List Dat)} {ρ : List (Str × Slot)}
-- a function that a name holds is called 
theorem Ev.callFn {x : Str} {fa : Addr} {np pos : Pos} {e : Expr} {es : List Expr} {ds : List Dat} {d : Dat} {lvl : Nat} {V₀ : List Addr} {R : List Dat → Dat → Prop} (hf : EvS f O ρ (.Name x np) (.val (.ref fa))) (FN : FnAt f.prog f.w f.mg f.mb f.G lvl f.s₀ V₀ fa R) (hV : ∀ a ∈ f.V O, a ∈ V₀ ∨ f.s₀.heap.get? a = none)
    (ha : EvL f O ρ (e :: es) ds) (hR : R ds d) (hd : f.A.depth + lvl < recursionLimit) (hu : f.A.units + 40 * lvl + 100 < cLine) (hns : starEach (e :: es) f.env = (false, eval e f.env) :: starEach es f.env := by rfl) : Ev f O ρ (.Call (.Name x np) (e :: es) [] pos) d := by
  apply Ev.mk
  intro s Q E st k
  refine wpAny_Call_NameR (hf.run s _ _ st fun fv s₁ m₁ h₁ => ?_)
  have h₁' : fv = .ref fa := h₁
  subst h₁'
  obtain ⟨o, fd, eo, od, oc⟩ := FN.fn
  refine PySem.Calls.callWith_function (o := o) (fd := fd) (ha.args (st.mv m₁) hns fun vs s₂ m₂ h₂ => ?_)
  have st2 := st.mv (m₁.trans m₂)
  refine ⟨⟨st2.frm.exactD eo (tabB_cls (by rw [oc]; exact fun h => nomatch h)) (fun es ep h => by rw [od] at h; cases h), od⟩, ?_⟩
  refine FN.run f.A f.outer (f.V O) s₂ vs ds d Q E f.Wc st2.frm hV ⟨st2.bel, st2.ok.hh, hd, hu, st2.ok.bas, st2.frD, fun a ha => ?_, st2.tab⟩ h₂ hR fun v s₃ m₃ h₃ => k v s₃ (m₁.trans (m₂.trans m₃)) h₃
  rcases List.mem_append.mp ha with ha | ha
  · obtain ⟨p, hp, rfl⟩ := List.mem_map.mp ha
    obtain ⟨vs, ⟨n, e⟩, _⟩ := st2.own p hp
    exact ⟨_, e⟩
  · exact st2.v0 a ha
end

abbrev envD (scope : Scope) (cd : Value) (q : Str) (L fa : Addr) : Env := newEnv scope L mainGlobals [] (q ++ ".<locals>.") (some fa) cd none builtinsNs
-- a def is entered 
theorem enter_def {prog : Program} {w : World} {mg mb : Str → Option Value} {G : Heap} {lvl : Nat} {A : Around} {outer : List Env} {V : List Addr} {s : Shared} {fa : Addr} {o : Obj} {fd : FuncData} {body : List Stmt} {vs : List Value} {binds : List (Str × Value)} {ρ : List (Str × Slot)} {K : List (Addr × Obj)} {d : Dat} {Q E : Value → Shared → Prop}
    (pre : Pre mg mb G lvl A outer V s) (hlvl : 1 ≤ lvl) (ho : G.get? fa = some o) (hdata : o.data = .func fd) (hcd : G.CodeRec fd.code fd.qualname) (hbody : fd.body = .stmts body) (hclo : fd.closure = []) (hgl : fd.globals = mainGlobals) (hbi : fd.builtins = builtinsNs)
    (hbind : BindsTo s fd ⟨vs, []⟩ binds) (hcell : ∀ x ∈ fd.scope.names, x.2 ≠ .cell) {ps : List Str} (hps : binds.map (·.1) = ps) (hlocA : ps.all (fun p => fd.scope.names.lookup p == some .local) = true) (hnd : ps.Nodup) (hvars : ∀ x sl, ρ.lookup x = some sl → ∃ v, (x, v) ∈ binds ∧ SlotIs V s.heap sl v)
    (hK : ∀ p ∈ K, s.heap.get? p.1 = some p.2 ∧ KeepOk p.2) (hco : fd.scope.isCoroutine = false) (hgen : fd.scope.isGenerator = false) (hk : fd.scope.kind = .function)
    (h : ∀ L : Addr, Ex { mkF prog w mg mb G A (envD fd.scope fd.code fd.qualname L fa) outer V s with K := K } [] ρ body (retIs d))
    (k : ∀ v s', Mv G (outer.filterMap (·.frame)) s s' → Has V s'.heap v d → Q v s') : wpAny (model prog w) A (call (.ref fa) vs) Q E s := by
  have hloc : ∀ x ∈ binds, fd.scope.names.lookup x.1 = some .local := fun x hx => by
    have := List.all_eq_true.mp hlocA x.1 (hps ▸ List.mem_map.mpr ⟨x, hx, rfl⟩)
    simpa using this
  refine wpAny_call (codeAny_call_def (binds := binds) (by have := pre.dep; omega) (pre.bel.stays _ _ ho) hdata (pre.bas.lim.keeps pre.bel.stays) (hcd.keeps pre.bel.stays) hbody hbind hcell hloc (fun h₁ hns keep => ?_) hco hgen hk)
  have henv : callEnv fd s.heap.objs.size fa = envD fd.scope fd.code fd.qualname s.heap.objs.size fa := by
    unfold callEnv; rw [hgl, hbi, hclo]
  rw [henv]
  have ex := h s.heap.objs.size
  generalize hE : envD fd.scope fd.code fd.qualname s.heap.objs.size fa = env at ex ⊢
  have hlocA : env.locals = s.heap.objs.size := by rw [← hE]; rfl
  have hfr : env.frame = some s.heap.objs.size := by rw [← hE]; rfl
  have hsc : env.scope = fd.scope := by rw [← hE]; rfl
  have hcle : env.cells = [] := by rw [← hE]; rfl
  have hkk : ∀ x, env.kindOf x = fd.scope.names.lookup x := fun x => by show env.scope.names.lookup x = _; rw [hsc]
  have noG : G.get? s.heap.objs.size = none := pre.bel.stays.fresh
  obtain ⟨oL, es, ep, eL, dL, rL⟩ := id hns
  have mv1 : Mv G (outer.filterMap (·.frame)) s { s with heap := h₁, toks := s.toks + binds.length } := Mv.of_keep keep
  have st : St { mkF prog w mg mb G A env outer V s with K := K } [] ρ { s with heap := h₁, toks := s.toks + binds.length } := by
    refine { ok := ⟨pre.hh, by rw [hsc]; exact hk, by rw [← hE]; rfl, by rw [← hE]; rfl, pre.bas, pre.bel.stays, by rw [hlocA]; exact Nat.le_refl _, by rw [hcle]; exact .nil, (fun _ n c hc => by rw [hcle] at hc; cases hc), fun a ha => ?_⟩,
             bel := ⟨trivial, fun b o e => keep b o (pre.bel.stays b o e), ?_⟩, frm := mv1, loc := ⟨_, by rw [hlocA]; exact hns⟩, cel := fun n c hc => by rw [hcle] at hc; simp at hc, vars := fun x sl hx => ?_, own := fun p hp => (nomatch hp), nod := List.nodup_nil, fO := fun p hp => (nomatch hp),
             v0 := fun a ha => let ⟨o, e⟩ := pre.v0 a ha; ⟨o, keep a o e⟩, frD := fun a ha => ?_, kep := fun p hp => ⟨keep _ _ (hK p hp).1, (hK p hp).2, by simp⟩, dat := fun p hp => (nomatch hp), oV := fun p hp => (nomatch hp), tab := mv1.tabs pre.tab }
    · have : (env :: outer).filterMap (·.frame) = s.heap.objs.size :: outer.filterMap (·.frame) := by simp [hfr]
      rw [show ({ mkF prog w mg mb G A env outer V s with K := K } : Fm).W = (env :: outer).filterMap (·.frame) from rfl, this] at ha
      rcases List.mem_cons.mp ha with rfl | ha
      · exact .inr (Nat.le_refl _)
      · exact .inl ha
    · refine ⟨by rw [hsc, hk]; decide, ⟨s.heap.objs.size, oL, hfr, noG, eL, fun vs q => by rw [dL] at q; cases q⟩, pre.bel.frames.of_keeps fun b o e _ => ⟨o, keep b o e, rfl⟩⟩
    · obtain ⟨v, hm, hs⟩ := hvars x sl hx
      refine ⟨v, .inl ⟨by rw [hkk]; exact hloc _ hm, _, by rw [hlocA]; exact hns, ?_⟩, hs.keep mv1.dkeep⟩
      exact lookup_nodup (by rw [List.map_reverse, hps]; exact List.pairwise_reverse.mpr (hnd.imp fun h => h.symm)) (List.mem_reverse.mpr hm)
    · have : (env :: outer).filterMap (·.frame) = s.heap.objs.size :: outer.filterMap (·.frame) := by simp [hfr]
      rw [show ({ mkF prog w mg mb G A env outer V s with K := K } : Fm).W = (env :: outer).filterMap (·.frame) from rfl, this] at ha
      rcases List.mem_cons.mp ha with rfl | ha
      · exact ⟨oL, es, ep, eL, dL⟩
      · obtain ⟨o, es', ep', e, d'⟩ := pre.frD a ha
        exact ⟨o, es', ep', keep a o e, d'⟩
  refine wpAny_mono (ex.run _ _ st) (fun fl s' hq => ?_) fun _ _ x => x
  cases fl with
  | next => obtain ⟨_, _, hf, _⟩ := hq; exact absurd hf id
  | brk => obtain ⟨_, _, hf, _⟩ := hq; exact absurd hf id
  | cont => obtain ⟨_, _, hf, _⟩ := hq; exact absurd hf id
  | ret v =>
    obtain ⟨d', hd', hv', hm'⟩ := hq
    have : d' = d := hd'
    subst this
    exact k v s' hm' hv'
end Mine

namespace Mine
-- ## what the law's first lines want 
def pkI {α : Type} (l : List α) (is : List Nat) : List α := is.filterMap (l[·]?)
def pk {α : Type} (l : List α) (lo hi st : Option Int) : List α := pkI l (sliceRange (sliceBounds lo hi st l.length).1 (sliceBounds lo hi st l.length).2.1 (sliceBounds lo hi st l.length).2.2)
theorem slicePick_pk (vs : List Value) (lo hi st : Option Int) : slicePick vs.toArray lo hi st = (pk vs lo hi st).toArray := by
  unfold slicePick pk pkI
  simp
theorem HasL.pickI {V : List Addr} {h : Heap} {vs : List Value} {ds : List Dat} (x : HasL V h vs ds) : ∀ is : List Nat, HasL V h (pkI vs is) (pkI ds is)
  | [] => .nil
  | i :: is => by
    have ih := HasL.pickI x is
    unfold pkI at ih ⊢
    cases hv : vs[i]? with
    | none =>
      have hd : ds[i]? = none := by
        rw [List.getElem?_eq_none_iff] at hv ⊢
        rw [← x.length]; exact hv
      rw [List.filterMap_cons_none hv, List.filterMap_cons_none hd]
      exact ih
    | some v =>
      obtain ⟨d, hd, hx⟩ := x.getV hv
      rw [List.filterMap_cons_some hv, List.filterMap_cons_some hd]
      exact .cons hx ih
theorem HasL.pick {V : List Addr} {h : Heap} {vs : List Value} {ds : List Dat} (x : HasL V h vs ds) (lo hi st : Option Int) : HasL V h (pk vs lo hi st) (pk ds lo hi st) := by
  unfold pk
  rw [x.length]
  exact x.pickI _
theorem pk_map {α β : Type} (g : α → β) (l : List α) (lo hi st : Option Int) : pk (l.map g) lo hi st = (pk l lo hi st).map g := by
  unfold pk
  rw [List.length_map]
  generalize sliceRange _ _ _ = is
  induction is with
  | nil => rfl
  | cons i is ih =>
    unfold pkI at ih ⊢
    cases h : l[i]? with
    | none => rw [List.filterMap_cons_none (by simp [h]), List.filterMap_cons_none h, ih]
    | some a => rw [List.filterMap_cons_some (b := g a) (by simp [h]), List.filterMap_cons_some h, ih]; rfl

section
variable {f : Fm} {O : List (Addr × List Dat)} {ρ : List (Str × Slot)} {e l r value : Expr} {pos p : Pos} {lower upper step : Option Expr} {lo hi st : Option Int} {d : Dat}
-- a list's part with a step 
theorem Ev.sliceStep {ds : List Dat} (hv : Ev f O ρ value (.list ds)) (hlo : EvP f O ρ lower lo) (hhi : EvP f O ρ upper hi) (hst : EvP f O ρ step st) (h0 : st ≠ some 0) (hsz : ds.length ≤ sizeLine) (hsub : ∀ o j, ∃ l, subscripted (.Slice lower upper step p) false o j = operate l (getItem o j) := by intro o j; exact ⟨_, rfl⟩) : Ev f O ρ (.Subscript value (.Slice lower upper step p) pos) (.list (pk ds lo hi st)) := by
  apply Ev.mk
  intro s Q E st0 k
  refine Subscript_ (hv.run s _ _ st0 fun v s₁ m₁ h₁ => wpAny_Slice (hlo.run (st0.mv m₁) fun vl s₂ m₂ h₂ => hhi.run (st0.mv (m₁.trans m₂)) fun vu s₃ m₃ h₃ => hst.run (st0.mv (m₁.trans (m₂.trans m₃))) fun vt s₄ m₄ h₄ => ?_))
  have h₁' := h₁.mv (m₂.trans (m₃.trans m₄))
  have st₃ := st0.mv (m₁.trans (m₂.trans (m₃.trans m₄)))
  cases h₁' with
  | list i1 n1 hl =>
    rename_i ad vs
    obtain ⟨ql, rfl, rfl⟩ := h₂
    obtain ⟨qu, rfl, rfl⟩ := h₃
    obtain ⟨qt, rfl, rfl⟩ := h₄
    let s4 : Shared := { s₄ with heap := s₄.heap.push { cls := .type "slice", data := .fields #[partValue ql, partValue qu, partValue qt] } }
    have il : s4.heap.IsList ad vs.toArray := (i1.at fun o e => Heap.get?_push_of_some _ e).isList
    obtain ⟨ops, hops⟩ := hsub (.ref ad) (.ref s₄.heap.objs.size)
    refine tail_any (ops := ops) (s := s4) il.typeIs slot_list_getitem.lookup ?_ hops
    have m4 : Mv f.G f.W s₄ s4 := .push _
    refine wpAny_getItem_list_slice (s := s4) il (Heap.IsSliceOf.new ..) (isPart_of ql) (isPart_of qu) (isPart_of qt) h0 ?_ (by simpa [hl.length] using hsz)
    rw [slicePick_pk]
    exact k _ _ (m₁.trans (m₂.trans (m₃.trans (m₄.trans (m4.trans (.push _)))))) (newL (st₃.mv m4) ((hl.mv m4).pick _ _ _))

theorem preSum_take (xs : List Int) (val : Nat → Int) (h : ∀ i (hi : i < xs.length), val i = xs[i]) : ∀ n, n ≤ xs.length → preSum val n = (xs.take n).sum
  | 0, _ => by simp [preSum]
  | n + 1, hn => by
    rw [preSum, preSum_take xs val h n (by omega), h n (by omega), List.take_add_one, List.getElem?_eq_getElem (by omega)]
    simp only [Option.toList_some, List.sum_append, List.sum_cons, List.sum_nil, Int.add_zero]
-- the sum of a list of numbers 
theorem OpN.sum {xs : List Int} : OpN f O ρ (fun vs => call (.builtin "sum") vs) [.list (xs.map .int)] (.int xs.sum) := by
  intro s vs Q E st hv k
  cases hv with
  | cons h1 h2 =>
    cases h2
    obtain ⟨a, vs, rfl, i1, n1, l1⟩ := h1.lists
    have hne : a ≠ s.heap.objs.size := by
      obtain ⟨n, e⟩ := i1
      exact Nat.ne_of_lt (Heap.lt_size e)
    refine call_sum_walkAnyS (wpAny_pyIter_list i1.isList ?_)
    have W := Walks.list (prog := f.prog) (w := f.w) (A := f.A.in1) st.ok.hh s.heap.objs.size a hne vs.toArray
    refine ⟨s.heap.objs.size, _, _, _, _, _, _, fun i => (xs[i]?).getD 0, rfl, W.toS, ?_, ?_, fun i v hv => ?_, fun s' t' hm => ?_⟩
    · exact ⟨⟨_, Heap.get?_push_size _ rfl, rfl, rfl⟩, (i1.at fun o e => Heap.get?_push_of_some _ e).isList⟩
    · intro b hb
      show b < (s.heap.push _).objs.size
      rw [Heap.size_push]
      rcases List.mem_cons.mp hb with rfl | hb
      · exact Nat.lt_succ_self _
      · rw [List.mem_singleton.mp hb]
        obtain ⟨n, e⟩ := i1
        exact Nat.lt_succ_of_lt (Heap.lt_size e)
    · obtain ⟨d, hd, hx⟩ := l1.getV (k := i) (by simpa using hv)
      rw [List.getElem?_map] at hd
      obtain ⟨x, hx1, rfl⟩ := Option.map_eq_some_iff.mp hd
      cases hx
      exact ⟨_, by simp only [hx1]; rfl⟩
    · have hlen : vs.toArray.size = xs.length := by rw [List.size_toArray, l1.length, List.length_map]
      have e1 : preSum (fun i => (xs[i]?).getD 0) vs.toArray.size = xs.sum := by
        rw [hlen, preSum_take xs _ (fun i hi => by simp [hi]) _ (Nat.le_refl _), List.take_length]
      rw [e1]
      have m0 : Mv f.G f.W s { s with heap := s.heap.push { cls := .type "list_iterator", data := .fields #[.ref a, .int 0 0] } } := .push _
      refine k _ _ ?_ (.int _ _)
      obtain ⟨hmH, hmG, hmD, hmO, _⟩ := hm
      refine ⟨⟨s'.heap, s'.toks, s.gens, ?_, .inl rfl⟩, fun q => by first | exact hmG ▸ q | (rw [← hmG]; exact q) | (rw [hmG]; exact q), fun b o e => ?_⟩
      · cases s'
        simp only at hmG hmD hmO
        simp [← hmG, hmD, hmO]
      · have keep : ∀ b o, s.heap.get? b = some o → s'.heap.get? b = some o := fun b o e => hmH b o (by
          intro hw
          have := Heap.lt_size e
          rw [List.mem_singleton.mp hw] at this
          exact Nat.lt_irrefl _ this) (Heap.get?_push_of_some _ e)
        exact (Mv.of_keep (X := f.G) (W := f.W) (s := s) (tk := 0) keep).2.2 b o e
-- both, as a value 
theorem Ev.andB {e1 e2 : Expr} {a b : Bool} (h1 : Ev f O ρ e1 (.bool a)) (h2 : a = true → Ev f O ρ e2 (.bool b)) : Ev f O ρ (.BoolOp .And [e1, e2] pos) (.bool (a && b)) := by
  apply Ev.mk
  intro s Q E st k
  refine BoolOp_and (h1.run s _ _ st fun v s₁ m₁ hv => ?_)
  cases hv
  refine wpAny_truthy_bool ?_
  cases a with
  | false => exact k _ s₁ m₁ (.bool _)
  | true =>
    refine BoolOp_one ((h2 rfl).run s₁ _ _ (st.mv m₁) fun v s₂ m₂ hv => k v s₂ (m₁.trans m₂) ?_)
    simpa using hv
-- a list again and again 
theorem Op2.mulList {ds : List Dat} {n : Int} (h0 : 0 ≤ n) (h1 : n ≤ 1000) (hl : ds.length ≤ 1000) : Op2 f O ρ (binaryOp .Mult) (.list ds) (.int n) (.list (List.replicate n.toNat ds).flatten) := by
  intro s va vb Q E st ha hb k
  cases hb
  rename_i u
  obtain ⟨a, vs, rfl, ⟨ne, i1⟩, n1, l1⟩ := ha.lists
  have hvl : vs.toArray.size = ds.length := by rw [List.size_toArray, l1.length]
  have hsz : vs.toArray.size * n.toNat ≤ 2 ^ 24 := by
    rw [hvl]
    exact Nat.le_trans (Nat.mul_le_mul hl (show n.toNat ≤ 1000 by omega)) (by decide)
  refine wpAny_binaryOp_repeat_ref (T := "list") (U := "int") (by decide) ⟨_, i1, rfl⟩ (fun s' => typeIs_int s' n u) noFill_list_mul F.fills_int_mul F.slot_int_rmul repeat_list F.slot_int_index.lookup
    (call_meets F.slot_int_rmul (typeIs_int s n u) F.entry_int_rmul (F.args_int_rmul_2 _ _) (lm_int_rmul_list_any n u a vs.toArray ne none #[])
      ⟨i1, rfl, ⟨_, i1, rfl⟩, call_meets F.slot_list_mul ⟨_, i1, rfl⟩ F.entry_list_mul (F.args_list_mul_2 _ _)
        (lm_list_mul_any a vs.toArray ne none #[] n u (by simp [Builtin.List.listFitsIndex]; omega) (by omega) (by simp [Builtin.List.listTooLong, sizeLine]; omega))
        ⟨i1, ?_⟩⟩)
  rw [listMul_foldl_if]
  refine k _ _ (.push _) (newL st ?_)
  clear hsz
  induction n.toNat with
  | zero => exact .nil
  | succ m ih =>
    rw [List.replicate_succ, List.replicate_succ, List.flatten_cons, List.flatten_cons]
    exact HasL.append (by simpa using l1) ih

end
end Mine

namespace Mine
-- ## zip of three lists 

set_option maxHeartbeats 8000000 in

section
variable {prog : Program} {w : World} {A : Around} {E : Value → Shared → Prop} {s : Shared}

end
end Mine

namespace Mine
section
variable {prog : Program} {w : World} {A : Around} {E : Value → Shared → Prop} {s : Shared}

end
end Mine

namespace Mine
section
variable {prog : Program} {w : World} {A : Around}
end

section
variable {f : Fm} {O : List (Addr × List Dat)} {ρ : List (Str × Slot)} {iter e1 e2 e3 : Expr} {pos np tp : Pos} {elts : List Expr} {kt : Nat}
end
end Mine

namespace Mine
section
variable {f : Fm} {O : List (Addr × List Dat)} {ρ ρc : List (Str × Slot)}
-- what a lambda takes over 
def CapL (f : Fm) (scope : Scope) (cl : List (Str × Addr)) (ρ ρc : List (Str × Slot)) : Prop :=
  (∀ x sl, ρc.lookup x = some sl → ρ.lookup x = some sl ∧ scope.names.lookup x = some .free ∧ (∃ c, f.env.cells.lookup x = some c ∧ cl.lookup x = some c) ∧ (f.env.kindOf x = some .cell ∨ f.env.kindOf x = some .free)) ∧ (∀ n c, cl.lookup n = some c → f.env.cells.lookup n = some c) ∧ cl.Pairwise fun x y => x.2 ≠ y.2
theorem CapL.nil {scope : Scope} : CapL f scope [] ρ [] := ⟨fun x sl h => by simp at h, fun n c h => by simp at h, .nil⟩
theorem lam_fnAt {s : Shared} {fa : Addr} {qual : Str} {params : Arguments} {body : Expr} {scope : Scope} {cl : List (Str × Addr)} {pm cdv ct : Value} {ps : List Str} {lvl : Nat} {R : List Dat → Dat → Prop} (st : St f O ρ s) (ho : s.heap.get? fa = some (lamObj qual params body scope cl pm cdv ct)) (hcd : CodeOk s.heap cdv)
    (hcap : CapL f scope cl ρ ρc) (hlvl : 1 ≤ lvl) (hbind : ∀ (q : Str) (pm cdv ct : Value) (vs : List Value), vs.length = ps.length → bindArgs (kla_fn "<lambda>" q params body scope cl pm cdv ct) ⟨vs, []⟩ = pure (ps.zip vs)) (hnd : ps.Nodup) (hloc : ps.all (fun p => scope.names.lookup p == some .local) = true)
    (hcell : ∀ y ∈ scope.names, y.2 ≠ .cell) (hco : scope.isCoroutine = false) (hgen : scope.isGenerator = false) (hk : scope.kind = .function) (hR : ∀ ds d, R ds d → ds.length = ps.length)
    (h : ∀ (A : Around) (outer : List Env) (V : List Addr) (s : Shared) (q : Str) (L fa : Addr) (cdv : Value) (ds : List Dat) (d : Dat), A.depth + lvl < recursionLimit → A.units + 40 * lvl + 100 < cLine → R ds d → Ev (lamF f.prog f.w f.mg f.mb f.G A (lamEnv scope q L fa cdv cl) outer V s) [] (parm ps ds ++ ρc) body d) :
    FnAt f.prog f.w f.mg f.mb f.G lvl s (f.V O) fa R where
  fn := ⟨_, _, ho, rfl, rfl⟩
  run := fun A outer V s' vs ds d Q E W m hV pre hv hr k => by
    have dk : DKeep (f.V O) V s.heap s'.heap := by
      have d0 := m.dkeep (V := f.V O)
      have nv : ∀ a o, s.heap.get? a = some o → a ∉ f.V O → a ∉ V := fun a o e h1 h => by
        rcases hV a h with h | h
        · exact h1 h
        · rw [h] at e; cases e
      exact ⟨fun a items ha hi => ⟨(d0.1 a items ha hi).1, let ⟨o, e, _⟩ := hi; nv a o e ha⟩, fun a items ha hi => ⟨(d0.2 a items ha hi).1, let ⟨n, e⟩ := hi; nv a _ e ha⟩⟩
    refine lam_call (ps := ps) (ρc := ρc) pre (m.exactD ho (tabB_cls (by intro h; injection h)) (fun es ep h => by injection h)) (hcd.up m.ckeep) (hR ds d hr) hlvl (hbind _ _ _ _ vs) hnd hloc hcell hcap.2.2 (fun n c hc => ?_) (fun x sl hx => ?_) hv hco hgen hk (fun q L => h A outer V s' q L fa cdv ds d pre.dep pre.uni hr) k
    · obtain ⟨v, q⟩ := st.cel n c (hcap.2.1 n c hc)
      exact ⟨v, m.cell q⟩
    · obtain ⟨hx1, hx2, ⟨c, hc1, hc2⟩, hx4⟩ := hcap.1 x sl hx
      obtain ⟨v, hv1, hv2⟩ := st.vars x sl hx1
      refine ⟨hx2, c, v, hc2, ?_, hv2.keep dk⟩
      rcases hv1 with ⟨hk1, _⟩ | ⟨_, c', hc', hv'⟩
      · rcases hx4 with h4 | h4 <;> (rw [h4] at hk1; cases hk1)
      · rw [hc1] at hc'; cases hc'
        exact m.cell hv'

theorem Pre.of {lvl : Nat} {s : Shared} (st : St f O ρ s) (hd : f.A.depth + lvl < recursionLimit) (hu : f.A.units + 40 * lvl + 100 < cLine) : Pre f.mg f.mb f.G lvl f.A f.outer (f.V O) s :=
  ⟨st.bel, st.ok.hh, hd, hu, st.ok.bas, st.frD, fun a ha => by
    rcases List.mem_append.mp ha with ha | ha
    · obtain ⟨p, hp, rfl⟩ := List.mem_map.mp ha
      obtain ⟨vs, ⟨n, e⟩, _⟩ := st.own p hp
      exact ⟨_, e⟩
    · exact st.v0 a ha, st.tab⟩
end
end Mine

namespace Mine
section
variable {f : Fm} {O : List (Addr × List Dat)} {ρ : List (Str × Slot)} {e iter tgt : Expr} {np pos : Pos} {ds ds' : List Dat} {x nm : Str} {tp : Pos}
theorem It.of (h : It f O ρ iter tgt ds) (e : ds = ds') : It f O ρ iter tgt ds' := e ▸ h
theorem rangeC_run {n : Nat} {s : Shared} {Q E : Value → Shared → Prop} (st : St f O ρ s) (hf : EvS f O ρ (.Name x np) (.val (.type "range"))) (he : Ev f O ρ e (.int n))
    (k : ∀ s₀ t u v tk, Mv f.G f.W s s₀ → Q (.ref s₀.heap.objs.size) { s₀ with heap := s₀.heap.push (rangeObj n t u v), toks := tk })
    (hns : starEach [e] f.env = (false, eval e f.env) :: starEach [] f.env := by rfl) (hpl : (backTo pos (starEach [e] f.env)).any (·.1) = false := by rfl) : wpAny f.M f.A (eval (.Call (.Name x np) [e] [] pos) f.env) Q E s := by
  refine callT_run st hf (EvL.consE he EvL.nilE hns) (fun vs s' m hv => ?_) hns hpl
  cases hv with
  | cons a b =>
    cases b
    cases a
    exact call_range_1 (k s' _ _ _ _ m)
theorem It.rangeC {n : Nat} (hf : EvS f O ρ (.Name x np) (.val (.type "range"))) (he : Ev f O ρ e (.int n)) (hn : n ≤ 1000000) (hns : starEach [e] f.env = (false, eval e f.env) :: starEach [] f.env := by rfl) (hpl : (backTo pos (starEach [e] f.env)).any (·.1) = false := by rfl) :
    It f O ρ (.Call (.Name x np) [e] [] pos) (.Name nm tp) (rangeD n) := by
  refine It.of (It.rangeV (a := 0) (b := n) (n := n) (by omega) (by decide) (by omega) (by decide) (by omega) fun s Q E st k => rangeC_run st hf he (fun s₀ t u v tk m => k s₀ t u v tk m) hns hpl) ?_
  simp
end
end Mine

namespace Mine
-- ## the law's heap without its tables, and the law's end 
def FREED : Obj := { cls := .none, data := .freed, slots := #[] }
def baseH (ts : List Addr) (h : Heap) : Heap := { h with objs := h.objs.mapIdx fun a o => if a ∈ ts then MARK else if (h.get? a).isNone || tabB o then FREED else o }
theorem get_objs {h : Heap} {a : Addr} {o : Obj} (e : h.get? a = some o) : h.objs[a]? = some o := by
  unfold Heap.get? at e
  cases q : h.objs[a]? with
  | none => rw [q] at e; cases e
  | some o' =>
    rw [q] at e
    obtain ⟨c, dd, d, sl⟩ := o'
    cases d <;> first | exact e | cases e
theorem base_objs (ts : List Addr) (h : Heap) (a : Addr) : (baseH ts h).objs[a]? = (h.objs[a]?).map fun o => if a ∈ ts then MARK else if (h.get? a).isNone || tabB o then FREED else o := by
  show (h.objs.mapIdx _)[a]? = _
  rw [Array.getElem?_mapIdx]
theorem base_get {ts : List Addr} {h : Heap} {a : Addr} {o : Obj} (e : (baseH ts h).get? a = some o) : a ∉ ts ∧ h.get? a = some o ∧ tabB o = false := by
  have e₁ := e
  have e' := get_objs e
  rw [base_objs] at e'
  obtain ⟨o₀, q, r⟩ := Option.map_eq_some_iff.mp e'
  have hf : ∀ o' : Obj, o'.data = .freed → o' = o → False := by
    rintro ⟨c, d, dd, sl⟩ rfl rfl
    unfold Heap.get? at e
    rw [get_objs e₁] at e
    cases e
  by_cases h1 : a ∈ ts
  · rw [if_pos h1] at r; exact (hf _ rfl r).elim
  · rw [if_neg h1] at r
    by_cases h2 : ((h.get? a).isNone || tabB o₀) = true
    · rw [if_pos h2] at r; exact (hf _ rfl r).elim
    · rw [if_neg h2] at r
      subst r
      rw [Bool.or_eq_true, not_or] at h2
      refine ⟨h1, ?_, by simpa using h2.2⟩
      cases g : h.get? a with
      | none => rw [g] at h2; exact absurd rfl h2.1
      | some o' => rw [get_objs g] at q; exact q
theorem base_up {ts : List Addr} {h : Heap} {a : Addr} {o : Obj} (e : h.get? a = some o) (ha : a ∉ ts) (hb : tabB o = false) : (baseH ts h).get? a = some o := by
  have q : (baseH ts h).objs[a]? = some o := by
    rw [base_objs, get_objs e, Option.map_some, if_neg ha, e, hb]; rfl
  unfold Heap.get? at e ⊢
  rw [get_objs e] at e
  rw [q]; exact e
theorem base_stays (ts : List Addr) (h : Heap) : (baseH ts h).StaysIn h := fun a o e => (base_get e).2.1
theorem base_grows {ts : List Addr} {h : Heap} {a : Addr} (g : grows (baseH ts h) a) : a ∈ ts := by
  unfold grows growsB at g
  rw [base_objs] at g
  cases q : h.objs[a]? with
  | none => rw [q] at g; cases g
  | some o =>
    rw [q] at g
    simp only [Option.map_some] at g
    by_cases h1 : a ∈ ts
    · exact h1
    · rw [if_neg h1] at g
      exfalso
      by_cases h2 : ((h.get? a).isNone || tabB o) = true
      · rw [if_pos h2] at g; cases g
      · rw [if_neg h2] at g
        rw [Bool.or_eq_true, not_or] at h2
        apply h2.1
        unfold Heap.get?
        rw [q]
        obtain ⟨c, dd, d, sl⟩ := o
        cases d <;> first | rfl | (cases c <;> cases g)
theorem base_mark {ts : List Addr} {h : Heap} {a : Addr} {o : Obj} (ha : a ∈ ts) (e : h.get? a = some o) : grows (baseH ts h) a := by
  unfold grows growsB
  rw [base_objs, get_objs e, Option.map_some, if_pos ha]; rfl
theorem base_ns {ts : List Addr} {h : Heap} {a : Addr} {m : Str → Option Value} (hts : ∀ P ∈ ts, ∃ c, h.TableAt c P #[]) (x : h.Ns a m) : (baseH ts h).Ns a m := by
  obtain ⟨o, es, ep, e, d, r⟩ := x
  refine ⟨o, es, ep, base_up e (fun ha => ?_) (tabB_data fun vs q => by rw [d] at q; cases q), d, r⟩
  obtain ⟨c, _, t⟩ := hts a ha
  rw [t] at e; cases e; cases d
theorem has_ints {V : List Addr} {h : Heap} {vs : List Value} {xs : List Int} (x : IntsAre vs xs) : HasL V h vs (xs.map Dat.int) := by
  induction x with
  | nil => exact .nil
  | cons n t _ ih => exact .cons (.int n t) ih
theorem tabOk_nil (h : Heap) : TabOk h { cls := .none, data := .fields #[] } := ⟨#[], rfl, trivial, fun pos cv e => nomatch e⟩
-- the law is called, and its contract holds 
theorem law_end {prog : Program} {w : World} {mg mb : Str → Option Value} {ts : List Addr} {s₁ : Shared} {fa a lvl : Nat} {vs : List Value} {xs : List Int} {R : List Dat → Dat → Prop} {c : ClaimW} {cl : Str → Option Addr} {mean : ExcName → Option Value} {args : List WData}
    (C : ConF prog w mg mb (baseH ts s₁.heap) lvl fa R) (hlvl : lvl ≤ 20) (hR : R [.list (xs.map Dat.int)] (.bool true)) (g : s₁.heap.Ns mainGlobals mg) (b : s₁.heap.Ns builtinsNs mb) (boot : ∀ x : Str, x ≠ "__name__" → mb x = bootBuiltins x) (lim : s₁.heap.NoLimit)
    (hts : ∀ P ∈ ts, ∃ c, s₁.heap.TableAt c P #[]) (hgens : s₁.gens = #[]) (hl : s₁.heap.PlainList a vs.toArray) (hi : IntsAre vs xs) (hpost : c.post args (.bool true) args = true) (hr : ∀ cls, c.raises args cls = false) :
    wpAny (model prog w) callerA (call (.ref fa) [.ref a]) (fun v s' => GoodWG c cl mean args s₁ (.ok (.ret v)) s') (fun e s' => GoodWG c cl mean args s₁ (.error e) s') s₁ := by
  have hfr : callerA.frames = some [] := rfl
  have hd : callerA.depth + 20 < recursionLimit := by decide
  have hu : callerA.units + 40 * 20 + 100 < cLine := by decide
  refine C callerA [] [] s₁ [.ref a] [.list (xs.map Dat.int)] (.bool true) _ _ ?_ hfr (.one (.list hl (fun h => nomatch h) (has_ints hi))) hR fun v s' m hv => ?_
  · refine { bel := ⟨trivial, base_stays _ _, trivial⟩, hh := rfl, dep := by omega, uni := by omega, bas := ⟨base_ns hts g, base_ns hts b, boot, ?_, fun a o e => (base_get e).2.2⟩, frD := fun a ha => absurd (show a ∈ ([] : List Addr) from ha) List.not_mem_nil, v0 := fun a ha => absurd (show a ∈ ([] : List Addr) from ha) List.not_mem_nil, tab := fun P hP => ?_ }
    · obtain ⟨mc, h1, h2⟩ := lim
      exact ⟨mc, base_ns hts h1, h2⟩
    · obtain ⟨cc, _, t⟩ := hts P (base_grows hP)
      exact ⟨_, t, tabOk_nil _⟩
  · cases hv
    refine ⟨.inl ⟨_, .bool true, [], rfl, hr, .bool true, hpost, fun _ => ⟨List.nodup_nil, fun a ha => nomatch ha⟩⟩, ⟨fun q o e => ?_, fun q o e => m.there e⟩, ?_, m.2.1 (.of_eq hgens)⟩
    · have k := m.2.2 q o e
      split at k
      · rename_i hq
        obtain ⟨o', e', ⟨ps, more, d, rfl⟩, _⟩ := k
        obtain ⟨cc, t⟩ := hts q (base_grows hq.2)
        have t2 := t.2
        rw [e] at t2
        exact .inr (.inl ⟨t.isCodeTable, by cases t2; rfl, ps, more, d, e'⟩)
      · obtain ⟨sl, e', z⟩ := k
        rcases z with z | rfl
        · exact absurd (show q ∈ ([] : List Addr) from z.1) List.not_mem_nil
        · exact .inl e'
    · obtain ⟨⟨h', tk, gs, e, _⟩, _⟩ := m
      rw [e]
end Mine

namespace Mine
-- ## more statements: a tuple of own lists is given back; tuples are taken apart 
section
variable {f : Fm} {O : List (Addr × List Dat)} {ρ ρ' : List (Str × Slot)} {e e1 e2 : Expr} {pos p : Pos} {d d1 d2 : Dat} {Φ : Ot → Prop}
theorem ExS.retOwn2 {a1 a2 : Addr} {ds1 ds2 : List Dat} {k : Nat} (h1 : EvS f O ρ e1 (.val (.ref a1))) (h2 : EvS f O ρ e2 (.val (.ref a2))) (m1 : (a1, ds1) ∈ O) (m2 : (a2, ds2) ∈ O) (hΦ : Φ (.ret (.tuple [.list ds1, .list ds2])))
    (hns : starEach [e1, e2] f.env = (false, eval e1 f.env) :: starEach [e2] f.env := by rfl) (hns2 : starEach [e2] f.env = (false, eval e2 f.env) :: starEach [] f.env := by rfl) : ExS f O ρ (.Return (some (.Tuple [e1, e2] k p)) pos) Φ := by
  apply ExS.mk
  intro s E st
  refine wpAny_Return_some (Tuple_ ?_)
  rw [hns]
  refine PySem.Calls.spliced_cons (h1.run s _ _ st fun v1 s1 w1 hv1 => ?_)
  have hv1' : v1 = .ref a1 := hv1
  subst hv1'
  rw [hns2]
  refine PySem.Calls.spliced_cons (h2.run s1 _ _ (st.mv w1) fun v2 s2 w2 hv2 => ?_)
  have hv2' : v2 = .ref a2 := hv2
  subst hv2'
  have st2 := st.mv (w1.trans w2)
  refine PySem.Calls.spliced_nil (wpAny_newObj_type ?_ (by show ([Value.ref a1, Value.ref a2] : List Value).toArray.size ≤ sizeLine; rw [sizeLine_eq]; simp))
  let s3 : Shared := { s2 with heap := s2.heap.push { cls := .type "tuple", data := .seq #[.ref a1, .ref a2] } }
  have m3 : Mv f.G f.W s2 s3 := .push _
  have st3 := st2.mv m3
  have hout : ∀ V, (∀ a, a ∉ f.V O → a ∉ V) → DKeep (f.V O) V s3.heap s3.heap := fun V h => ⟨fun a items ha hi => ⟨hi, h a ha⟩, fun a items ha hi => ⟨hi, h a ha⟩⟩
  have h0 : ∀ a, a ∉ f.V O → a ∉ f.V₀ := fun a ha h => ha (List.mem_append.mpr (.inr h))
  obtain ⟨vs1, i1, l1⟩ := st3.own _ m1
  obtain ⟨vs2, i2, l2⟩ := st3.own _ m2
  refine ⟨_, hΦ, ?_, st3.frm⟩
  have hnew : s2.heap.objs.size ∉ f.V₀ := fun h => st2.freshV (List.mem_append.mpr (.inr h))
  exact .tuple (vs := [.ref a1, .ref a2]) ⟨_, Heap.get?_push_size _ rfl, rfl, 0, rfl⟩ hnew (.cons (.list i1 (st3.oV _ m1) (l1.keep (hout _ h0))) (.cons (.list i2 (st3.oV _ m2) (l2.keep (hout _ h0))) .nil))
theorem ExS.assignT {elts : List Expr} {k : Nat} {tp : Pos} (h : Ev f O ρ e d) (ha : As f O ρ (.Tuple elts k tp) d ρ') (hΦ : Φ (.next O ρ'))
    (hs : swapsWithSole [.Tuple elts k tp] e pos.line f.env = pure false := by rfl) (hw : swappedStores [.Tuple elts k tp] e f.env = pure none := by rfl) : ExS f O ρ (.Assign [.Tuple elts k tp] e pos) Φ := by
  apply ExS.mk
  intro s E st
  refine Assign_Tuple (h.run s _ _ st fun v s1 m1 hv => ?_) hs hw
  exact ha s1 v _ _ (st.mv m1) hv fun s' st' => ⟨_, _, hΦ, st'⟩
theorem ExS.assignSwap {x y : Str} {elts : List Expr} {k : Nat} {tp : Pos} (hx : Binds f x) (hy : Binds f y) (h : Ev f O ρ e (.tuple [d1, d2])) (hΦ : Φ (.next O (put (put ρ y (.dat d2)) x (.dat d1))))
    (hs : swapsWithSole [.Tuple elts k tp] e pos.line f.env = pure false := by rfl) (hw : swappedStores [.Tuple elts k tp] e f.env = pure (some [x, y]) := by rfl) : ExS f O ρ (.Assign [.Tuple elts k tp] e pos) Φ := by
  apply ExS.mk
  intro s E st
  refine Assign_Tuple_swapped (h.run s _ _ st fun v s1 m1 hv => ?_) hs hw
  have st1 := st.mv m1
  cases hv with
  | tuple i1 n1 hl =>
    cases hl with
    | cons a1 hl =>
      cases hl with
      | cons a2 hl =>
        cases hl
        rename_i ta v1 v2
        rw [show ([x, y] : List Str).length = ([v1, v2] : List Value).toArray.size from rfl]
        refine unpackItems_tuple (items := ([v1, v2] : List Value).toArray) st.ok.hh i1 fun h' hx' => ?_
        have m2 : Mv f.G f.W s1 { s1 with heap := h' } := Mv.of_keepH fun b o e => hx' b o (Nat.ne_of_lt (Heap.lt_size e)) e
        have st2 := (st1.mv m2).addD (vs := [v1, v2]) (es := [d1, d2]) (.cons (a1.mv m2) (.cons (a2.mv m2) .nil))
        show wpAny f.M f.A (assignInOrder [bindName f.env y, bindName f.env x] [v2, v1]) _ _ _
        refine wpAny_assignInOrder_more (wpAny_bindName ?_)
        refine St.bind (f := withF f f.V₀ f.K (([v1, v2], [d1, d2]) :: f.D)) (sl := .dat d2) st2 hy (a2.mv m2) fun s3 st3 => ?_
        refine wpAny_assignInOrder_more (wpAny_bindName ?_)
        have hd := st3.dat ([v1, v2], [d1, d2]) List.mem_cons_self
        cases hd with
        | cons b1 _ =>
          refine St.bind (f := withF f f.V₀ f.K (([v1, v2], [d1, d2]) :: f.D)) (sl := .dat d1) st3 hx b1 fun s4 st4 => ?_
          exact wpAny_assignInOrder_none ⟨_, _, hΦ, st4.dropD fun p hp => List.mem_cons_of_mem _ hp⟩
end
end Mine

namespace Mine
-- ## split by a separator of several signs 
def strands (z x : List Nat) : List (List Nat) := (Txt.split (S x) (S z)).map (·.cps.toList)
theorem strands_S (z x : List Nat) : Txt.split (S x) (S z) = (strands z x).map S := by
  unfold strands
  rw [List.map_map]
  conv => lhs; rw [← List.map_id (Txt.split (S x) (S z))]
  exact List.map_congr_left fun a _ => S_of a
theorem strands_jn (z x : List Nat) : jn z (strands z x) = x := by
  apply S_inj.mp
  rw [← jn_S, ← strands_S]
  exact StrLaws.join_split (S x) (S z)
theorem strands_ne (z x : List Nat) : strands z x ≠ [] := by
  have hne : Txt.split (S x) (S z) ≠ [] := by
    unfold Txt.split
    split
    · simp
    · split
      · simp
      · rw [StrLaws.partsBetween_eq]
        obtain ⟨p, r, e⟩ := StrLaws.partsFrom_ne (S x) (S z).length 0 (Builtin.Str.occurrences (S x) (S z) 0 (S x).length ((S x).length + 1))
        rw [e]; simp
  unfold strands
  simpa using hne
theorem jn_len (z : List Nat) (hz : z ≠ []) : ∀ ps : List (List Nat), ps.length ≤ (jn z ps).length + 1
  | [] => Nat.zero_le _
  | [p] => by simp
  | p :: q :: r => by
    have h1 := jn_len z hz (q :: r)
    have h2 : 0 < z.length := List.length_pos_iff.mpr hz
    show _ ≤ (p ++ z ++ jn z (q :: r)).length + 1
    simp only [List.length_append, List.length_cons] at h1 ⊢
    omega
theorem strands_len (z x : List Nat) (hz : z ≠ []) : (strands z x).length ≤ x.length + 1 := by
  have := jn_len z hz (strands z x)
  rwa [strands_jn] at this
theorem at_iff (x z : List Nat) (i : Nat) : StrLaws.At (S x) (S z) (S x).length i ↔ i + z.length ≤ x.length ∧ (x.drop i).take z.length = z := by
  unfold StrLaws.At
  rw [StrLaws.subAt_eq, S_length, S_length]
  have e1 : (S x).cps.toList = x := by simp [S]
  have e2 : (S z).cps.toList = z := by simp [S]
  rw [e1, e2]
  simp
theorem parts_of (z' : List Nat) (q : Nat) (x : List Nat) : ∀ (ps : List (List Nat)) (a : Nat) (cuts : List Nat) (f : Nat), ps ≠ [] → (∀ p ∈ ps, q ∉ p) → a ≤ x.length → x.drop a = jn (q :: z') ps → StrLaws.ChainG (S x) (S (q :: z')) (S x).length a cuts f → (∀ k, f ≤ k → ¬ StrLaws.At (S x) (S (q :: z')) (S x).length k) →
    StrLaws.partsFrom (S x) (S (q :: z')).length a cuts = ps.map S
  | [], _, _, _, h, _, _, _, _, _ => absurd rfl h
  | [p], a, cuts, f, _, hq, ha, hx, hG, hn => by
    have hp := hq p List.mem_cons_self
    have hx' : x.drop a = p := hx
    cases cuts with
    | nil =>
      show [Builtin.Str.strSub (S x) a (S x).length] = [S p]
      congr 1
      rw [S_of (Builtin.Str.strSub (S x) a (S x).length), StrLaws.strSub_toList, S_length]
      have e1 : (S x).cps.toList = x := by simp [S]
      rw [e1, List.take_of_length_le (by simp), hx']
    | cons i r =>
      exfalso
      obtain ⟨h1, h2⟩ := (at_iff x (q :: z') i).mp hG.2.1
      have hai : a ≤ i := hG.1
      have e : x.drop i = p.drop (i - a) := by rw [← hx', List.drop_drop]; congr 1; omega
      rw [e] at h2
      apply hp
      have : q ∈ (p.drop (i - a)).take (q :: z').length := by rw [h2]; exact List.mem_cons_self
      exact List.mem_of_mem_drop (List.mem_of_mem_take this)
  | p :: p2 :: ps, a, cuts, f, _, hq, ha, hx, hG, hn => by
    have hp := hq p List.mem_cons_self
    have hx' : x.drop a = p ++ ((q :: z') ++ jn (q :: z') (p2 :: ps)) := by rw [hx]; show p ++ (q :: z') ++ _ = _; rw [List.append_assoc]
    have hlen : x.length = a + (p.length + ((q :: z').length + (jn (q :: z') (p2 :: ps)).length)) := by
      have := congrArg List.length hx'
      rw [List.length_drop, List.length_append, List.length_append] at this
      omega
    have hd : ∀ k, x.drop (a + p.length + k) = ((q :: z') ++ jn (q :: z') (p2 :: ps)).drop k := fun k => by
      rw [show a + p.length + k = a + (p.length + k) by omega, ← List.drop_drop, hx', List.drop_append, List.drop_of_length_le (by omega), List.nil_append]
      congr 1; omega
    have hA : StrLaws.At (S x) (S (q :: z')) (S x).length (a + p.length) := (at_iff _ _ _).mpr ⟨by omega, by
      have := hd 0
      rw [Nat.add_zero, List.drop_zero] at this
      rw [this, List.take_left']
      rfl⟩
    have hlow : ∀ k, a ≤ k → k < a + p.length → ¬ StrLaws.At (S x) (S (q :: z')) (S x).length k := fun k h1 h2 hk => by
      obtain ⟨_, h4⟩ := (at_iff _ _ _).mp hk
      have e : x.drop k = p.drop (k - a) ++ ((q :: z') ++ jn (q :: z') (p2 :: ps)) := by
        rw [show k = a + (k - a) by omega, ← List.drop_drop, hx', List.drop_append_of_le_length (by omega)]
        congr 2; omega
      have hpos : (p.drop (k - a)) ≠ [] := by
        intro h
        have := List.length_drop (i := k - a) (l := p)
        rw [h] at this; simp at this; omega
      obtain ⟨y, t, hyt⟩ := List.exists_cons_of_ne_nil hpos
      rw [e, hyt, List.cons_append] at h4
      have h5 := List.head_eq_of_cons_eq (by simpa using h4 : y :: _ = q :: z')
      apply hp
      rw [← h5]
      exact List.mem_of_mem_drop (by rw [hyt]; exact List.mem_cons_self)
    cases cuts with
    | nil =>
      have e : f = a := hG
      subst e
      exact absurd hA (hn _ (by omega))
    | cons i r =>
      have hai : a ≤ i := hG.1
      have hi : i = a + p.length := by
        rcases Nat.lt_trichotomy i (a + p.length) with h | h | h
        · exact absurd hG.2.1 (hlow i hai h)
        · exact h
        · exact absurd hA (hG.2.2.1 _ (by omega) h)
      subst hi
      show Builtin.Str.strSub (S x) a (a + p.length) :: StrLaws.partsFrom (S x) (S (q :: z')).length (a + p.length + (S (q :: z')).length) r = S p :: (p2 :: ps).map S
      congr 1
      · rw [S_of (Builtin.Str.strSub (S x) a (a + p.length)), StrLaws.strSub_toList]
        have e1 : (S x).cps.toList = x := by simp [S]
        rw [e1, hx', show a + p.length - a = p.length by omega, List.take_left']
        rfl
      · refine parts_of z' q x (p2 :: ps) _ r f (by simp) (fun y hy => hq y (List.mem_cons_of_mem _ hy)) ?_ ?_ hG.2.2.2 hn
        · rw [S_length]; omega
        · rw [S_length, hd, List.drop_left']
          rfl
theorem strands_of {q : Nat} {z' : List Nat} {ps : List (List Nat)} (hne : ps ≠ []) (hq : ∀ p ∈ ps, q ∉ p) (hz : ∀ c ∈ q :: z', c < 256) : strands (q :: z') (jn (q :: z') ps) = ps := by
  generalize hx : jn (q :: z') ps = x
  have key : Txt.split (S x) (S (q :: z')) = ps.map S := by
    obtain ⟨f, hG, hn⟩ := StrLaws.occ_tight (S x) (S (q :: z')) (by rw [S_length]; simp)
    have hp := parts_of z' q x ps 0 _ f hne hq (Nat.zero_le _) (by rw [List.drop_zero, hx]) hG hn
    have one : ∀ (hno : ∀ k, ¬ StrLaws.At (S x) (S (q :: z')) (S x).length k), [S x] = ps.map S := fun hno => by
      match ps, hne, hx with
      | [p], _, hx => rw [← hx]; rfl
      | p :: p2 :: r, _, hx =>
        exfalso
        apply hno p.length
        rw [at_iff, ← hx]
        show _ ∧ ((p ++ (q :: z') ++ jn (q :: z') (p2 :: r)).drop p.length).take _ = _
        refine ⟨?_, ?_⟩
        · show _ ≤ (p ++ (q :: z') ++ jn (q :: z') (p2 :: r)).length
          simp only [List.length_append, List.length_cons]; omega
        · rw [List.append_assoc, List.drop_left' rfl, List.take_left' rfl]
    unfold Txt.split
    split
    · rename_i hc
      refine one fun k hk => ?_
      obtain ⟨h1, h2⟩ := (at_iff _ _ _).mp hk
      rw [Bool.or_eq_true, decide_eq_true_eq, decide_eq_true_eq, S_length, S_length] at hc
      rcases hc with hc | hc
      · omega
      · have k1 : Builtin.Str.strKind (S (q :: z')) = 1 := by
          unfold Builtin.Str.strKind
          rw [if_pos]
          rw [← Array.all_toList, List.all_eq_true]
          exact fun c hc => decide_eq_true (hz c (by simpa [S] using hc))
        rw [k1] at hc
        unfold Builtin.Str.strKind at hc
        split at hc
        · omega
        · split at hc <;> omega
    · split
      · rename_i he
        refine one fun k hk => ?_
        have hem : Builtin.Str.occurrences (S x) (S (q :: z')) 0 (S x).length ((S x).length + 1) = [] := List.isEmpty_iff.mp he
        rw [hem] at hG
        have e : f = 0 := hG
        exact hn k (by omega) hk
      · rw [StrLaws.partsBetween_eq]; exact hp
  unfold strands
  rw [key, List.map_map]
  conv => rhs; rw [← List.map_id ps]
  exact List.map_congr_left fun a _ => by simp [S]
section
variable {f : Fm} {O : List (Addr × List Dat)} {ρ : List (Str × Slot)}
theorem Op2.splitZ {x z : List Nat} (hz : z ≠ []) (hsz : x.length + 1 ≤ sizeLine) : Op2 f O ρ (fun a b => call (.builtin "str.split") [a, b]) (.str (S x)) (.str (S z)) (.list ((strands z x).map fun p => Dat.str (S p))) := by
  intro s va vb Q E st ha hb k
  cases ha; cases hb
  rename_i t u
  have hx : (S x).length ≤ sizeLine := by rw [S_length]; omega
  have hy : ((S z).length == 0) = false := by
    rw [S_length]
    cases z with
    | nil => exact absurd rfl hz
    | cons a r => rfl
  have hsp := strands_S z x
  cases h1 : (decide ((S x).length < (S z).length) || decide (Builtin.Str.strKind (S x) < Builtin.Str.strKind (S z)))
  · cases hf : (Builtin.Str.occurrences (S x) (S z) 0 (S x).length ((S x).length + 1)).isEmpty
    · have e : Txt.split (S x) (S z) = Builtin.Str.partsBetween (S x) (Builtin.Str.occurrences (S x) (S z) 0 (S x).length ((S x).length + 1)) (S z).length := by
        unfold Txt.split; rw [h1, hf]; rfl
      have hn : (Builtin.Str.partsBetween (S x) (Builtin.Str.occurrences (S x) (S z) 0 (S x).length ((S x).length + 1)) (S z).length).length ≤ sizeLine := by
        rw [← e, hsp, List.length_map]
        exact Nat.le_trans (strands_len z x hz) hsz
      refine call_meets F.slot_str_split (typeIs_str _ _ _) F.entry_str_split (F.args_str_split_2 _ _) (meets_str_split_sep (S x) (S z) t u h1 hy hf hx hn) ?_
      show wants Q E _ { s with toks := _, heap := s.heap.push { cls := .type "list", data := .seq (strsFrom s.toks (Builtin.Str.partsBetween (S x) (Builtin.Str.occurrences (S x) (S z) 0 (S x).length ((S x).length + 1)) (S z).length)).toArray } }
      rw [strsFrom_eq]
      exact k _ _ (.of_keep fun b o e => Heap.get?_push_of_some _ e) (newStrs (tk := 0) st (by rw [numbered_texts, ← e, hsp]))
    · have e : Txt.split (S x) (S z) = [S x] := by unfold Txt.split; rw [h1, hf]; rfl
      exact call_meets F.slot_str_split (typeIs_str _ _ _) F.entry_str_split (F.args_str_split_2 _ _) (meets_str_split_not_found (S x) (S z) t u h1 hy hf)
        (k _ _ (.of_keep fun b o e => Heap.get?_push_of_some _ e) (newStrs (tk := 0) st (l := [(S x, t)]) (by rw [← hsp, e]; rfl)))
  · have e : Txt.split (S x) (S z) = [S x] := by unfold Txt.split; rw [h1]; rfl
    exact call_meets F.slot_str_split (typeIs_str _ _ _) F.entry_str_split (F.args_str_split_2 _ _) (meets_str_split_cannot_occur (S x) (S z) t u h1)
      (k _ _ (.of_keep fun b o e => Heap.get?_push_of_some _ e) (newStrs (tk := 0) st (l := [(S x, t)]) (by rw [← hsp, e]; rfl)))
-- a text is not in a tuple of texts 
theorem Op2.notInStrs {x : Str} {ys : List Str} : Op2 f O ρ (compareOp .NotIn) (.str x) (.tuple (ys.map Dat.str)) (.bool (!ys.any (· == x))) := by
  intro s va vb Q E st ha hb k
  cases ha
  cases hb with
  | tuple i1 n1 h1 => exact notin_tuple_strs i1 (by simpa using h1.strsAre) (k _ _ (.refl s) (.bool _))
-- an item of a text from its end 
theorem Ev.itemStrNeg {value slice : Expr} {pos : Pos} {x : List Nat} {i : Int} {cc : Nat} (hv : Ev f O ρ value (.str (S x))) (hi : Ev f O ρ slice (.int i)) (h0 : i < 0) (h1 : -(x.length : Int) ≤ i) (hc : x[(i + x.length).toNat]? = some cc) (hsz : x.length ≤ sizeLine)
    (hs : ∀ o j, subscripted slice false o j = operate [o, j] (getItem o j) := by intros; with_unfolding_all rfl) : Ev f O ρ (.Subscript value slice pos) (.str (S [cc])) := by
  apply Ev.mk
  intro s Q E st k
  refine Subscript_ (hv.run s _ _ st fun v s₁ m₁ h₁ => hi.run s₁ _ _ (st.mv m₁) fun vi s₂ m₂ h₂ => ?_)
  cases h₁; cases h₂
  have hlt : (i + x.length).toNat < x.length := (List.getElem?_eq_some_iff.mp hc).1
  rw [sizeLine_eq] at hsz
  refine tail_any (typeIs_str _ _ _) F.slot_str_getitem.lookup (P.getItem_str (c := cc) ?_ ?_ (k _ _ (m₁.trans (m₂.trans (.toks _))) (.str _ _))) (hs _ _)
  · simp only [Bool.or_eq_false_iff, decide_eq_false_iff_not]; omega
  · rw [S_length, seqIndex_neg h0 (by omega)]
    simpa [S] using hc
end
end Mine

namespace Mine
-- ## lists of lists of the block's own 
abbrev lstO (vs : List Value) (n : Nat) : Obj := { cls := .type "list", data := .seq vs.toArray n }
section
variable {f : Fm} {O : List (Addr × List Dat)} {ρ : List (Str × Slot)}
-- an own list is set aside: it is kept as it stands 
theorem St.park {s : Shared} {a : Addr} {ds : List Dat} (st : St f ((a, ds) :: O) ρ s) : ∃ vs n, s.heap.get? a = some (lstO vs n) ∧ HasL (O.map (·.1) ++ (a :: f.V₀)) s.heap vs ds ∧ St (withF f (a :: f.V₀) ((a, lstO vs n) :: f.K) ((vs, ds) :: f.D)) O ρ s := by
  obtain ⟨vs, ⟨n, e⟩, hl⟩ := st.own _ List.mem_cons_self
  have hiff : ∀ x, x ∈ f.V ((a, ds) :: O) ↔ x ∈ O.map (·.1) ++ (a :: f.V₀) := fun x => by
    show x ∈ (a :: O.map (·.1)) ++ f.V₀ ↔ _
    simp only [List.mem_append, List.mem_cons]
    constructor
    · rintro ((h | h) | h)
      · exact .inr (.inl h)
      · exact .inl h
      · exact .inr (.inr h)
    · rintro (h | h | h)
      · exact .inl (.inr h)
      · exact .inl (.inl h)
      · exact .inr h
  have dk : DKeep (f.V ((a, ds) :: O)) (O.map (·.1) ++ (a :: f.V₀)) s.heap s.heap := ⟨fun x items h hi => ⟨hi, fun q => h ((hiff x).mpr q)⟩, fun x items h hi => ⟨hi, fun q => h ((hiff x).mpr q)⟩⟩
  have nd := st.nod
  have hna : a ∉ O.map (·.1) := (List.nodup_cons.mp nd).1
  refine ⟨vs, n, e, hl.keep dk, ?_⟩
  refine { ok := { st.ok with }, bel := st.bel, frm := st.frm, loc := st.loc, cel := st.cel, vars := fun y sl hy => ?_, own := fun p hp => ?_, nod := (List.nodup_cons.mp nd).2, fO := fun p hp => st.fO p (List.mem_cons_of_mem _ hp), v0 := fun x hx => ?_, frD := st.frD, kep := fun p hp => ?_, dat := fun p hp => ?_, oV := fun p hp => ?_, tab := st.tab }
  · obtain ⟨v, h1, h2⟩ := st.vars y sl hy
    exact ⟨v, h1, h2.keep dk⟩
  · obtain ⟨us, h1, h2⟩ := st.own p (List.mem_cons_of_mem _ hp)
    exact ⟨us, h1, h2.keep dk⟩
  · rcases List.mem_cons.mp hx with rfl | hx
    · exact ⟨_, e⟩
    · exact st.v0 x hx
  · rcases List.mem_cons.mp hp with rfl | hp
    · exact ⟨e, keep_seq rfl, hna⟩
    · obtain ⟨h1, h2, h3⟩ := st.kep p hp
      exact ⟨h1, h2, fun q => h3 (List.mem_cons_of_mem _ q)⟩
  · intro q
    rcases List.mem_cons.mp q with q | q
    · exact hna (q ▸ List.mem_map.mpr ⟨p, hp, rfl⟩)
    · exact st.oV p (List.mem_cons_of_mem _ hp) q
  · rcases List.mem_cons.mp hp with rfl | hp
    · exact hl.keep dk
    · exact (st.dat p hp).keep dk
-- new lists become the block's own 
theorem St.adopt {s s' : Shared} (st : St f O ρ s) (m : Mv f.G f.W s s') (N : List (Addr × List Dat)) (hlo : ∀ p ∈ N, s.heap.objs.size ≤ p.1) (hnd : (N.map (·.1)).Nodup)
    (hown : ∀ p ∈ N, ∃ vs, OwnL s'.heap p.1 vs ∧ HasL (f.V (N ++ O)) s'.heap vs p.2) : St f (N ++ O) ρ s' := by
  have st1 := st.mv m
  have nw : ∀ a o, s.heap.get? a = some o → a ∉ N.map (·.1) := fun a o e h => by
    obtain ⟨p, hp, rfl⟩ := List.mem_map.mp h
    exact absurd (Heap.lt_size e) (Nat.not_lt.mpr (hlo p hp))
  have dk : DKeep (f.V O) (f.V (N ++ O)) s.heap s'.heap := by
    have d0 := m.dkeep (V := f.V O)
    have nv : ∀ a o, s.heap.get? a = some o → a ∉ f.V O → a ∉ f.V (N ++ O) := fun a o e h1 h => by
      have h : a ∈ (N ++ O).map (·.1) ++ f.V₀ := h
      rw [List.map_append, List.append_assoc] at h
      rcases List.mem_append.mp h with h | h
      · exact nw a o e h
      · exact h1 h
    refine ⟨fun a items ha hi => ⟨(d0.1 a items ha hi).1, ?_⟩, fun a items ha hi => ⟨(d0.2 a items ha hi).1, ?_⟩⟩
    · obtain ⟨o, e, _⟩ := hi
      exact nv a o e ha
    · obtain ⟨n, e⟩ := hi
      exact nv a _ e ha
  have lt0 : f.s₀.heap.objs.size ≤ s.heap.objs.size := by
    obtain ⟨mm, nn⟩ := st.loc
    exact Nat.le_trans st.ok.fL (Nat.le_of_lt nn.lt)
  refine { ok := st.ok, bel := st1.bel, frm := st1.frm, loc := st1.loc, cel := st1.cel, vars := fun y sl hy => ?_, own := fun p hp => ?_, nod := ?_, fO := fun p hp => ?_, v0 := st1.v0, frD := st1.frD, kep := fun p hp => ?_, dat := fun p hp => (st.dat p hp).keep dk, oV := fun p hp => ?_, tab := st1.tab }
  · obtain ⟨v, h1, h2⟩ := st.vars y sl hy
    exact ⟨v, h1.mv m, h2.keep dk⟩
  · rcases List.mem_append.mp hp with hp | hp
    · exact hown p hp
    · obtain ⟨us, h1, h2⟩ := st.own p hp
      exact ⟨us, h1.mv m, h2.keep dk⟩
  · rw [List.map_append, List.nodup_append]
    refine ⟨hnd, st.nod, fun a ha b hb => ?_⟩
    rintro rfl
    obtain ⟨p, hp, rfl⟩ := List.mem_map.mp hb
    obtain ⟨us, ⟨n, e⟩, _⟩ := st.own p hp
    exact nw _ _ e ha
  · rcases List.mem_append.mp hp with hp | hp
    · exact Nat.le_trans lt0 (hlo p hp)
    · exact st.fO p hp
  · obtain ⟨e, b, c⟩ := st.kep p hp
    obtain ⟨e1, _, _⟩ := st1.kep p hp
    refine ⟨e1, b, fun q => ?_⟩
    rw [List.map_append] at q
    rcases List.mem_append.mp q with q | q
    · exact nw _ _ e q
    · exact c q
  · rcases List.mem_append.mp hp with hp | hp
    · intro q
      obtain ⟨o, e⟩ := st.v0 _ q
      exact nw _ _ e (List.mem_map.mpr ⟨p, hp, rfl⟩)
    · exact st.oV p hp
-- an object that stays 
theorem St.hold {s : Shared} (st : St f O ρ s) {a : Addr} {o : Obj} (e : s.heap.get? a = some o) (k : KeepOk o) (h : a ∉ O.map (·.1)) : St (withF f f.V₀ ((a, o) :: f.K) f.D) O ρ s :=
  { ok := { st.ok with }, bel := st.bel, frm := st.frm, loc := st.loc, cel := st.cel, vars := st.vars, own := st.own, nod := st.nod, fO := st.fO, v0 := st.v0, frD := st.frD, oV := st.oV, tab := st.tab, dat := st.dat,
    kep := fun p hp => by
      rcases List.mem_cons.mp hp with rfl | hp
      · exact ⟨e, k, h⟩
      · exact st.kep p hp }
end
section
variable {f : Fm} {O : List (Addr × List Dat)} {ρ : List (Str × Slot)} {iter : Expr} {scope : Scope} {pos np ep : Pos} {nm : Str} {ds : List Dat}
abbrev emp (a : Addr) : Addr × Obj := (a, lstO [] 0)
-- the block of a comprehension that makes empty lists 
theorem comp_coreN {s₁ s' : Shared} {wr fp : List Addr} {vs : List Value} {es : List Dat} {J : Nat → Heap → Prop} {it : Value} {RR : Value → Addr → Result → Shared → Prop} {E : Value → Shared → Prop}
    (st1 : St f O ρ s₁) (hkind : scope.kind = .function) (hcell : ∀ y ∈ scope.names, y.2 ≠ .cell) (hb : ∀ C, (compEnvC scope [] C f.env).kindOf nm = some .local) (hd : HasL (f.V O) s₁.heap vs es)
    (ITA : ∀ V, (∀ b ∈ wr, b ∈ V) → Itr f.prog f.w f.A V it (.Name nm np) vs es ds J fp wr) (hJ : J 0 s'.heap) (hlo : ∀ b ∈ wr, s₁.heap.objs.size ≤ b) (hle : s₁.heap.objs.size ≤ s'.heap.objs.size) (m₂ : Mv f.G f.W s₁ s') (hsz : ds.length ≤ sizeLine)
    (hRR : ∀ (Dd C : Addr) m s₅ (as : List Addr) n, s₁.heap.objs.size ≤ Dd → s₁.heap.objs.size ≤ C → Dd ≠ C → s₅.heap.Ns C m → Mv f.G f.W s₁ s₅ → s₅.heap.get? Dd = some (lstO (as.map Value.ref) n) → as.length = ds.length → as.Nodup → (∀ a ∈ as, s₁.heap.objs.size ≤ a ∧ s₅.heap.get? a = some (lstO [] 0)) → Dd ∉ as → RR (.ref Dd) C (.ok .next) s₅) :
    wpAny f.M f.A (newList []) (fun acc s₃ => wpAny f.M f.A (newFunctionEnv scope f.env.globals [] [] f.env.qual none .none (some f.env)) (fun cenv s₄ =>
      codeAny f.M f.A (.compStart (.ListComp (.List [] ep) [⟨.Name nm np, iter, [], 0⟩] scope pos) 0 it acc { cenv with scope := relabel scope f.env }) (RR acc cenv.locals) s₄) E s₃) E s' := by
  refine wpAny_newObj_type (wpAny_newFunctionEnv hcell (by intro y hy; simp at hy) (fun h₁ hns₁ hsb₁ => ?_) hkind)
  dsimp only at hns₁ hsb₁ ⊢
  generalize hH2 : s'.heap.push { cls := .type "list", dict := none, data := .seq ([] : List Value).toArray } = H2 at hns₁ hsb₁ ⊢
  have hC : H2.objs.size = s'.heap.objs.size + 1 := by rw [← hH2, Heap.size_push]
  have hDC : s'.heap.objs.size ≠ H2.objs.size := by rw [hC]; exact Nat.ne_of_lt (Nat.lt_succ_self _)
  have below : ∀ b, b < s'.heap.objs.size → b ≠ H2.objs.size := fun b hb => by rw [hC]; exact Nat.ne_of_lt (Nat.lt_succ_of_lt hb)
  have old : ∀ b o, s'.heap.get? b = some o → h₁.get? b = some o := fun b o e => hsb₁.extBut b o (below b (Heap.lt_size e)) (Heap.get?_push_of_some _ (hH2 ▸ Heap.get?_push_of_some _ e))
  have hacc : h₁.PlainList s'.heap.objs.size #[] := ⟨_, hsb₁.extBut _ _ hDC (Heap.get?_push_of_some _ (hH2 ▸ Heap.get?_push_size _ rfl))⟩
  generalize hDd : s'.heap.objs.size = Dd at hacc hDC ⊢
  let V : List Addr := Dd :: (wr ++ f.V O)
  have hwV : ∀ b ∈ wr, b ∈ V := fun b hb => List.mem_cons_of_mem _ (List.mem_append.mpr (.inl hb))
  have IT := ITA V hwV
  have wrlt : ∀ b ∈ wr, b < Dd := fun b hb => by
    obtain ⟨o, e⟩ := IT.ex 0 _ hJ b (IT.sub b hb)
    rw [← hDd]; exact Heap.lt_size e
  have fplt : ∀ b ∈ fp, b < Dd := fun b hb => by
    obtain ⟨o, e⟩ := IT.ex 0 _ hJ b hb
    rw [← hDd]; exact Heap.lt_size e
  have hleD : s₁.heap.objs.size ≤ Dd := by rw [← hDd]; exact hle
  let FF (fpK : List (Addr × Obj)) (as : List Addr) (n : Nat) (D : List (List Value × List Dat)) : Fm := withF (compF f [] [] H2.objs.size scope s₁) V (fpK ++ (Dd, lstO (as.map Value.ref) n) :: as.map emp) D
  have loop : ∀ s₄ : Shared, s₄ = { s' with heap := h₁, toks := s'.toks + ([] : List (Str × Value)).length } →
      codeAny f.M f.A (.compLoop (.ListComp (.List [] ep) [⟨.Name nm np, iter, [], 0⟩] scope pos) 0 it (.ref Dd) (compEnvC scope [] H2.objs.size f.env)) (RR (.ref Dd) H2.objs.size) s₄ := by
    rintro s₄ rfl
    have m₄ : Mv f.G f.W s₁ { s' with heap := h₁, toks := s'.toks + ([] : List (Str × Value)).length } := m₂.trans (.of_keep old)
    obtain ⟨hJ4, Dfp, st4⟩ := St.comp (scope := scope) (cl := []) (ρc := []) (C := H2.objs.size) (Dd := Dd) st1 Cap.nil hkind hd (ITA ([Dd] ++ (wr ++ f.V O)) fun b hb => List.mem_append.mpr (.inr (List.mem_append.mpr (.inl hb)))) hJ hlo m₂ hDd.symm old m₄ (by rw [hC]; exact Nat.lt_succ_self _) hns₁ hacc hle
    obtain ⟨vs0, n0, e0, hl0, st4⟩ := st4.park
    have hv0 : vs0 = [] := by
      obtain ⟨n1, e1⟩ := hacc
      have e1' : h₁.get? Dd = some (lstO vs0 n0) := e0
      rw [e1] at e1'
      cases vs0 with
      | nil => rfl
      | cons a r => cases e1'
    subst hv0
    have Dwr : Dd ∉ wr := fun h => absurd (wrlt _ h) (Nat.lt_irrefl _)
    -- the frame is made anew
    have re : ∀ {K₀ D₀ : _} {t : Shared} {h' : Heap} {tk : Nat} {W₀ : List Addr} {ρ₀ : List (Str × Slot)} (as : List Addr) (n : Nat) (j : Nat), St (withF (compF f [] [] H2.objs.size scope s₁) V K₀ D₀) [] ρ₀ t → (vs, es) ∈ D₀ → (∀ b ∈ W₀, s₁.heap.objs.size ≤ b) → (∀ b ∈ W₀, b ∈ V) → (∀ b ∈ W₀, ∀ o, t.heap.get? b = some o → KeepOk o) →
        (∀ b o, b ∉ W₀ → t.heap.get? b = some o → h'.get? b = some o) → (∀ a ∈ V, ∃ o, h'.get? a = some o) → J j h' → h'.get? Dd = some (lstO (as.map Value.ref) n) → (∀ a ∈ as, h'.get? a = some (lstO [] 0)) → St (FF (objsAt h' fp) as n [(vs, es)]) [] ρ₀ { t with heap := h', toks := tk } := by
      intro K₀ D₀ t h' tk W₀ ρ₀ as n j stt hD0 a1 a2 a3 a4 a5 a6 a7 a8
      refine St.foreign (f := compF f [] [] H2.objs.size scope s₁) (wr := W₀) stt a1 a2 (fun a ha => ha) a5 (fun p hp => by rw [List.mem_singleton.mp hp]; exact hD0) (fun p hp => ?_) a3 a4
      refine ⟨?_, ?_, by simp⟩
      · rcases List.mem_append.mp hp with hp | hp
        · exact (objsAt_mem hp).2
        · rcases List.mem_cons.mp hp with rfl | hp
          · exact a7
          · obtain ⟨a, ha, rfl⟩ := List.mem_map.mp hp
            exact a8 a ha
      · rcases List.mem_append.mp hp with hp | hp
        · obtain ⟨h1, h2⟩ := objsAt_mem hp
          exact IT.fpOk j _ a6 _ h1 _ h2
        · rcases List.mem_cons.mp hp with rfl | hp
          · exact keep_seq rfl
          · obtain ⟨a, ha, rfl⟩ := List.mem_map.mp hp
            exact keep_seq rfl
    refine codeAny_compLoop_gen (fun k s => ∃ (as : List Addr) (n : Nat), k = ds.length + 1 - as.length ∧ as.length ≤ ds.length ∧ J as.length s.heap ∧ as.Nodup ∧ (∀ a ∈ as, Dd < a) ∧ St (FF (objsAt s.heap fp) as n [(vs, es)]) [] [] s) ?_ (ds.length + 1)
      ⟨[], n0, rfl, Nat.zero_le _, hJ4, List.nodup_nil, (fun _ h => nomatch h), re (W₀ := []) (t := { s' with heap := h₁, toks := s'.toks + ([] : List (Str × Value)).length }) (h' := h₁) (tk := s'.toks + ([] : List (Str × Value)).length) [] n0 0 st4 (List.mem_cons_of_mem _ (List.mem_singleton.mpr rfl)) (fun _ h => nomatch h) (fun _ h => nomatch h) (fun _ h => nomatch h) (fun _ _ _ e => e) (fun a ha => st4.v0 a ha) hJ4 e0 (fun _ h => nomatch h)⟩
    rintro k s₂ ⟨as, n, rfl, hi, hJi, hnd, hgt, st3⟩
    have hDk : s₂.heap.get? Dd = some (lstO (as.map Value.ref) n) := (st3.kep (Dd, lstO (as.map Value.ref) n) (List.mem_append.mpr (.inr List.mem_cons_self))).1
    have hAk : ∀ a ∈ as, s₂.heap.get? a = some (lstO [] 0) := fun a ha => (st3.kep (emp a) (List.mem_append.mpr (.inr (List.mem_cons_of_mem _ (List.mem_map.mpr ⟨a, ha, rfl⟩))))).1
    have awr : ∀ a ∈ as, a ∉ wr := fun a ha h => absurd (Nat.lt_trans (wrlt a h) (hgt a ha)) (Nat.lt_irrefl _)
    have vex : ∀ a ∈ V, ∃ o, s₂.heap.get? a = some o := fun a ha => st3.v0 a ha
    rcases Nat.lt_or_ge as.length ds.length with hlt | hge
    · have hd' : ds[as.length]? = some ds[as.length] := List.getElem?_eq_getElem hlt
      have hdata : HasL V s₂.heap vs es := st3.dat (vs, es) (List.mem_singleton.mpr rfl)
      refine wpAny_mono (IT.item as.length ds[as.length] s₂ (fun v s₄ => ∃ h' tk, s₄ = { s₂ with heap := h', toks := tk } ∧ J (as.length + 1) h' ∧ Has V h' v ds[as.length] ∧ (∀ b o, b ∉ wr → s₂.heap.get? b = some o → h'.get? b = some o)) (notedBy (model f.prog f.w) f.A (compEnvC scope [] H2.objs.size f.env) _) hd' hJi hdata vex
        (fun v h' tk hJ' hv' hk' => ⟨h', tk, rfl, hJ', hv', hk'⟩)) (fun r s₄ hr => ?_) fun _ _ x => x
      obtain ⟨v, rfl, hr⟩ := hr
      refine wpAny_mono hr (fun _ s₅ h5 => ?_) fun _ _ x => x
      obtain ⟨h', tk, rfl, hJ', hv', hk'⟩ := h5
      have st4' : St (FF (objsAt h' fp) as n [(vs, es)]) [] [] { s₂ with heap := h', toks := tk } := by
        refine re (W₀ := wr) as n (as.length + 1) st3 (List.mem_singleton.mpr rfl) hlo hwV (fun b hb o e => IT.fpOk _ _ hJi b (IT.sub b hb) o e) hk' (fun a ha => ?_) hJ' (hk' _ _ Dwr hDk) fun a ha => hk' _ _ (awr a ha) (hAk a ha)
        by_cases hw : a ∈ wr
        · exact IT.ex _ _ hJ' a (IT.sub a hw)
        · obtain ⟨o, e⟩ := vex a ha
          exact ⟨o, hk' a o hw e⟩
      refine As.name (f := FF (objsAt h' fp) as n [(vs, es)]) (d := ds[as.length]) (.inl (hb _)) _ v _ _ st4' hv' fun s₆ st6 => ?_
      refine wpAny_tests_nil ?_
      simp only [if_true]
      refine List_ (PySem.Calls.spliced_nil (wpAny_newObj_type ?_ (by show ([] : List Value).toArray.size ≤ sizeLine; rw [sizeLine_eq]; simp)))
      let s₇ : Shared := { s₆ with heap := s₆.heap.push (lstO [] 0) }
      have m7 : Mv f.G f.W s₆ s₇ := .push _
      have st7 : St (FF (objsAt h' fp) as n [(vs, es)]) [] _ s₇ := st6.mv (f := FF (objsAt h' fp) as n [(vs, es)]) m7
      have hD7 : s₇.heap.get? Dd = some (lstO (as.map Value.ref) n) := (st7.kep (Dd, lstO (as.map Value.ref) n) (List.mem_append.mpr (.inr List.mem_cons_self))).1
      have hA7 : ∀ a ∈ as, s₇.heap.get? a = some (lstO [] 0) := fun a ha => (st7.kep (emp a) (List.mem_append.mpr (.inr (List.mem_cons_of_mem _ (List.mem_map.mpr ⟨a, ha, rfl⟩))))).1
      have hN7 : s₇.heap.get? s₆.heap.objs.size = some (lstO [] 0) := Heap.get?_push_size _ rfl
      have hD6 : s₆.heap.get? Dd = some (lstO (as.map Value.ref) n) := (st6.kep (Dd, lstO (as.map Value.ref) n) (List.mem_append.mpr (.inr List.mem_cons_self))).1
      have hA6 : ∀ a ∈ as, s₆.heap.get? a = some (lstO [] 0) := fun a ha => (st6.kep (emp a) (List.mem_append.mpr (.inr (List.mem_cons_of_mem _ (List.mem_map.mpr ⟨a, ha, rfl⟩))))).1
      have hDn : Dd < s₆.heap.objs.size := Heap.lt_size hD6
      refine wpAny_list_append_plain (hsz := by
        have : as.length ≤ sizeLine := Nat.le_trans hi hsz
        simpa using this) (l := Dd) (s := s₇) ⟨n, hD7⟩ fun h₉ hp₉ hs₉ => ?_
      obtain ⟨n9, e9⟩ := hp₉
      have e9' : h₉.get? Dd = some (lstO ((as ++ [s₆.heap.objs.size]).map Value.ref) n9) := by rw [e9]; simp [lstO]
      have hJ7 : J (as.length + 1) h₉ := by
        refine IT.frame _ _ _ hJ' fun b hb o e => ?_
        refine hs₉.extBut b o (Nat.ne_of_lt (fplt b hb)) ?_
        exact (st7.kep (b, o) (List.mem_append.mpr (.inl (mem_objsAt hb e)))).1
      have hlen : (as ++ [s₆.heap.objs.size]).length = as.length + 1 := by simp
      refine ⟨ds.length + 1 - (as.length + 1), by omega, as ++ [s₆.heap.objs.size], n9, by rw [hlen], by rw [hlen]; exact hlt, by rw [hlen]; exact hJ7, ?_, ?_, ?_⟩
      · rw [List.nodup_append]
        refine ⟨hnd, by simp, fun a ha b hb => ?_⟩
        rw [List.mem_singleton.mp hb]
        exact Nat.ne_of_lt (Heap.lt_size (hA6 a ha))
      · intro a ha
        rcases List.mem_append.mp ha with ha | ha
        · exact hgt a ha
        · rw [List.mem_singleton.mp ha]; exact hDn
      · refine re (W₀ := [Dd]) (t := s₇) (h' := h₉) (tk := s₇.toks) (ρ₀ := []) (as ++ [s₆.heap.objs.size]) n9 (as.length + 1) (st7.weak (Sub.nilS _)) (List.mem_singleton.mpr rfl) (fun b hb => by rw [List.mem_singleton.mp hb]; exact hleD) (fun b hb => by rw [List.mem_singleton.mp hb]; exact List.mem_cons_self) (fun b hb o e => ?_) (fun b o hb e => hs₉.extBut b o (fun q => hb (List.mem_singleton.mpr q)) e) (fun a ha => ?_) hJ7 e9' fun a ha => ?_
        · rw [List.mem_singleton.mp hb, hD7] at e; cases e; exact keep_seq rfl
        · by_cases hq : a = Dd
          · subst hq; exact ⟨_, e9⟩
          · obtain ⟨o, e⟩ := st7.v0 a ha
            exact ⟨o, hs₉.extBut _ _ hq e⟩
        · rcases List.mem_append.mp ha with ha | ha
          · exact hs₉.extBut _ _ (fun q => absurd (hgt a ha) (by rw [q]; exact Nat.lt_irrefl _)) (hA7 a ha)
          · rw [List.mem_singleton.mp ha]
            exact hs₉.extBut _ _ (fun q => absurd hDn (by rw [← q]; exact Nat.lt_irrefl _)) hN7
    · have hie : as.length = ds.length := Nat.le_antisymm hi hge
      rw [hie] at hJi
      refine wpAny_mono (IT.done s₂ (fun s₄ => ∃ h' tk, s₄ = { s₂ with heap := h', toks := tk } ∧ ∀ b o, b ∉ wr → s₂.heap.get? b = some o → h'.get? b = some o) (notedBy (model f.prog f.w) f.A (compEnvC scope [] H2.objs.size f.env) _) hJi fun h' tk hk' => ⟨h', tk, rfl, hk'⟩) (fun r s₄ hr => ?_) fun _ _ x => x
      obtain ⟨rfl, h', tk, rfl, hk'⟩ := hr
      have st5 : St (withF (compF f [] [] H2.objs.size scope s₁) (f.V O) [] []) [] [] { s₂ with heap := h', toks := tk } := by
        refine St.foreign (f := compF f [] [] H2.objs.size scope s₁) (V' := f.V O) (K' := []) (D' := []) (wr := wr) st3 hlo hwV (fun a ha => List.mem_cons_of_mem _ (List.mem_append.mpr (.inr ha))) (fun a ha => ?_) (fun p hp => nomatch hp) (fun p hp => nomatch hp) (fun b hb o e => IT.fpOk _ _ hJi b (IT.sub b hb) o e) hk'
        obtain ⟨o, e⟩ : ∃ o, s₁.heap.get? a = some o := by
          rcases List.mem_append.mp ha with ha | ha
          · obtain ⟨p, hp, rfl⟩ := List.mem_map.mp ha
            obtain ⟨us, ⟨n, e⟩, _⟩ := st1.own p hp
            exact ⟨_, e⟩
          · exact st1.v0 a ha
        have hw : a ∉ wr := fun hw => absurd (Heap.lt_size e) (Nat.not_lt.mpr (hlo _ hw))
        obtain ⟨o', e'⟩ := vex a (List.mem_cons_of_mem _ (List.mem_append.mpr (.inr ha)))
        exact ⟨o', hk' a o' hw e'⟩
      obtain ⟨m, hm⟩ := st5.loc
      refine hRR _ _ m _ as n hleD st5.ok.fL hDC hm st5.frm (hk' _ _ Dwr hDk) hie hnd (fun a ha => ⟨Nat.le_trans hleD (Nat.le_of_lt (hgt a ha)), hk' _ _ (awr a ha) (hAk a ha)⟩) fun h => absurd (hgt _ h) (Nat.lt_irrefl _)
  have hJ1 : J 0 h₁ := IT.frame _ _ _ hJ fun b _ o e => old b o e
  exact codeAny_compStart_list (loop _ rfl) (IT.self 0 _ _ _ hJ1 (loop _ rfl))
end
end Mine

namespace Mine
section
variable {f : Fm} {O : List (Addr × List Dat)} {ρ : List (Str × Slot)} {value slice e e1 e2 : Expr} {pos np ep tp : Pos} {ds : List Dat} {d : Dat} {Φ : Ot → Prop} {nm x : Str} {scope : Scope}
theorem Mv.namesGone {X : Heap} {W : List Addr} {s₁ s₅ : Shared} {C : Addr} {h' : Heap} {m : Str → Option Value} (hC : s₁.heap.objs.size ≤ C) (hn : s₅.heap.Ns C m) (mv : Mv X W s₁ s₅) (hs : Heap.SameBut C s₅.heap h') : Mv X W s₁ { s₅ with heap := h' } := by
  have ck : CKeep s₅.heap h' := by
    obtain ⟨oL, es, ep, eL, dL, _⟩ := id hn
    exact ckeep_at hs ⟨oL, eL, fun vs h => by rw [dL] at h; cases h⟩
  obtain ⟨⟨h1, t1, g1, rfl, c1⟩, g, k⟩ := mv
  refine ⟨⟨h', t1, g1, rfl, c1⟩, g, fun b o e => ?_⟩
  have q := k b o e
  have : b ≠ C := by rintro rfl; exact absurd (Heap.lt_size e) (Nat.not_lt.mpr hC)
  split
  · rename_i hb
    rw [if_pos hb] at q
    obtain ⟨o', e', c1, c2⟩ := q
    exact ⟨o', hs.extBut b _ this e', c1, fun q => (c2 q).up ck⟩
  rename_i hb
  rw [if_neg hb] at q
  obtain ⟨sl, e', c⟩ := q
  exact ⟨sl, hs.extBut b _ this e', c⟩
theorem Mv.list {X : Heap} {W : List Addr} {s s' : Shared} {a : Addr} {vs : List Value} {n : Nat} (m : Mv X W s s') (e : s.heap.get? a = some (lstO vs n)) : s'.heap.get? a = some (lstO vs n) :=
  m.exactD e (tabB_cls (by intro h; injection h)) (fun es ep h => by injection h)
theorem Mv.size {X : Heap} {W : List Addr} {s s' : Shared} (m : Mv X W s s') {a : Addr} {o : Obj} (e : s.heap.get? a = some o) : a < s'.heap.objs.size := by
  obtain ⟨o', e'⟩ := m.there e
  exact Heap.lt_size e'
-- a list of new lists: one that holds an empty list, and empty ones 
theorem Ex.waysX {px p1 p2 p3 bp cpos ap : Pos} {iter : Expr} {rest : List Stmt} (hk : Binds f x) (hit : It f O ρ iter (.Name nm np) ds) (hclos : closureFor scope f.env = pure []) (hb : ∀ C, (compEnvC scope [] C f.env).kindOf nm = some .local) (hsz : ds.length + 1 ≤ sizeLine)
    (h : ∀ (A a0 : Addr) (as : List Addr) (n : Nat), as.length = ds.length → A ∉ (((a0, [Dat.list []]) :: as.map (fun a => (a, ([] : List Dat)))) ++ O).map (·.1) → Ex (withF f f.V₀ ((A, lstO (.ref a0 :: as.map Value.ref) n) :: f.K) f.D) (((a0, [Dat.list []]) :: as.map (fun a => (a, ([] : List Dat)))) ++ O) (put ρ x (.val (.ref A))) rest (retIs d))
    (hs1 : swapsWith (.BinOp (.List [.List [.List [] p3] p2] p1) .Add (.ListComp (.List [] ep) [⟨.Name nm np, iter, [], 0⟩] scope cpos) bp) (some (.Name x px)) ap.line f.env = pure false := by rfl)
    (hkind : scope.kind = .function := by rfl) (hcell : ∀ y ∈ scope.names, y.2 ≠ .cell := by decide)
    (hnames : ∀ y ∈ scope.names, y.2 = .local → scope.names.lookup y.1 = some .local := by decide) (hs : ∀ x, foldedSetIterable iter f.env x = pure x := by intro _; rfl) :
    Ex f O ρ (.Assign [.Name x px] (.BinOp (.List [.List [.List [] p3] p2] p1) .Add (.ListComp (.List [] ep) [⟨.Name nm np, iter, [], 0⟩] scope cpos) bp) ap :: rest) (retIs d) := by
  apply Ex.mk
  intro s E st
  refine wpAny_execs_cons (wpAny_Assign_Name (wpAny_BinOp ?_) hs1)
  refine List_ ?_
  rw [show starEach [Expr.List [Expr.List [] p3] p2] f.env = (false, eval (.List [.List [] p3] p2) f.env) :: starEach [] f.env from rfl]
  refine PySem.Calls.spliced_cons (List_ ?_)
  rw [show starEach [Expr.List [] p3] f.env = (false, eval (.List [] p3) f.env) :: starEach [] f.env from rfl]
  refine PySem.Calls.spliced_cons (List_ (PySem.Calls.spliced_nil (wpAny_newObj_type ?_ (by show ([] : List Value).toArray.size ≤ sizeLine; rw [sizeLine_eq]; simp))))
  let t1 : Shared := { s with heap := s.heap.push (lstO [] 0) }
  have w1 : Mv f.G f.W s t1 := .push _
  refine PySem.Calls.spliced_nil (wpAny_newObj_type ?_ (by show ([Value.ref s.heap.objs.size] : List Value).toArray.size ≤ sizeLine; rw [sizeLine_eq]; simp))
  let t2 : Shared := { t1 with heap := t1.heap.push (lstO [.ref s.heap.objs.size] 0) }
  have w2 : Mv f.G f.W t1 t2 := .push _
  refine PySem.Calls.spliced_nil (wpAny_newObj_type ?_ (by show ([Value.ref t1.heap.objs.size] : List Value).toArray.size ≤ sizeLine; rw [sizeLine_eq]; simp))
  let t3 : Shared := { t2 with heap := t2.heap.push (lstO [.ref t1.heap.objs.size] 0) }
  have w3 : Mv f.G f.W t2 t3 := .push _
  have st3 : St f O ρ t3 := st.mv (w1.trans (w2.trans w3))
  have z1 : t1.heap.objs.size = s.heap.objs.size + 1 := Heap.size_push _ _
  have z2 : t2.heap.objs.size = s.heap.objs.size + 2 := by rw [show t2.heap.objs.size = t1.heap.objs.size + 1 from Heap.size_push _ _, z1]
  obtain ⟨b, hbb⟩ : ∃ b, s.heap.objs.size = b := ⟨_, rfl⟩
  obtain ⟨a0, ha0⟩ : ∃ a0, t1.heap.objs.size = a0 := ⟨_, rfl⟩
  obtain ⟨T, hT⟩ : ∃ T, t2.heap.objs.size = T := ⟨_, rfl⟩
  rw [hbb, ha0] at z1
  rw [hbb, hT] at z2
  have eb1 : t1.heap.get? b = some (lstO [] 0) := by rw [← hbb]; exact Heap.get?_push_size _ rfl
  have ea2 : t2.heap.get? a0 = some (lstO [.ref b] 0) := by rw [← ha0, ← hbb]; exact Heap.get?_push_size _ rfl
  have eT3 : t3.heap.get? T = some (lstO [.ref a0] 0) := by rw [← hT, ← ha0]; exact Heap.get?_push_size _ rfl
  rw [eval_ListComp]
  refine wpAny_comprehension_free (use := none) rfl hs hclos hkind hnames ?_
  refine hit.run t3 _ _ st3 fun it s₁ s' vs es J fp wr m₁ m₂ hd ITA hJ hlo hfO hle => ?_
  refine comp_coreN (RR := fun acc C => compPost _ _ E none _ acc C) (st3.mv m₁) hkind hcell hb hd ITA hJ hlo hle m₂ (by omega) ?_
  intro Dd C m s₅ as n hDd hC hDC hn mv hp hlen hnd has hDas
  refine ⟨m, hn, fun h' hs' => ?_⟩
  have mg : Mv f.G f.W s₁ { s₅ with heap := h' } := Mv.namesGone hC hn mv hs'
  have hTs : T < s₁.heap.objs.size := m₁.size eT3
  have neC : ∀ a vs k, s₅.heap.get? a = some (lstO vs k) → a ≠ C := by
    rintro a vs k e rfl
    obtain ⟨o, es', ep', e', d', _⟩ := hn
    rw [e] at e'; cases e'; cases d'
  have hp' : h'.get? Dd = some (lstO (as.map Value.ref) n) := hs'.extBut _ _ hDC hp
  have has' : ∀ a ∈ as, h'.get? a = some (lstO [] 0) := fun a ha => hs'.extBut _ _ (neC _ _ _ (has a ha).2) (has a ha).2
  have mall : Mv f.G f.W t3 { s₅ with heap := h' } := m₁.trans mg
  have eT : h'.get? T = some (lstO [.ref a0] 0) := mall.list eT3
  show wpAny _ _ (binaryOp .Add (.ref t2.heap.objs.size) (.ref Dd)) _ E { s₅ with heap := h' }
  rw [hT]
  refine P.add_list (s := { s₅ with heap := h' }) eT hp' ?_ (by simp [hlen]; omega)
  rw [List.append_toArray]
  let s₇ : Shared := { s₅ with heap := h'.push (lstO (.ref a0 :: as.map Value.ref) 0) }
  have m7 : Mv f.G f.W { s₅ with heap := h' } s₇ := .push _
  have mtot : Mv f.G f.W s s₇ := (w1.trans (w2.trans w3)).trans (mall.trans m7)
  have eb : s₇.heap.get? b = some (lstO [] 0) := (w2.trans (w3.trans (mall.trans m7))).list eb1
  have ea : s₇.heap.get? a0 = some (lstO [.ref b] 0) := (w3.trans (mall.trans m7)).list ea2
  have hge : ∀ a ∈ as, T < a := fun a ha => Nat.lt_of_lt_of_le hTs (has a ha).1
  let N : List (Addr × List Dat) := (a0, [Dat.list []]) :: as.map (fun a => (a, ([] : List Dat)))
  have hNm : N.map (·.1) = a0 :: as := by
    show a0 :: (as.map (fun a => (a, ([] : List Dat)))).map (·.1) = _
    rw [List.map_map]
    congr 1
    exact List.map_id as
  have hbV : b ∉ f.V (N ++ O) := by
    intro q
    have q : b ∈ (N ++ O).map (·.1) ++ f.V₀ := q
    rw [List.map_append, hNm, List.append_assoc] at q
    rcases List.mem_append.mp q with q | q
    · rcases List.mem_cons.mp q with q | q
      · omega
      · have := hge b q; omega
    · exact st.freshV (hbb.symm ▸ q)
  have stN : St f (N ++ O) ρ s₇ := by
    refine st.adopt mtot N (fun p hp => ?_) ?_ fun p hp => ?_
    · rw [hbb]
      rcases List.mem_cons.mp hp with rfl | hp
      · show b ≤ a0; omega
      · obtain ⟨a, ha, rfl⟩ := List.mem_map.mp hp
        show b ≤ a
        have := hge a ha; omega
    · rw [hNm, List.nodup_cons]
      exact ⟨fun q => by have := hge a0 q; omega, hnd⟩
    · rcases List.mem_cons.mp hp with rfl | hp
      · exact ⟨[.ref b], ⟨0, ea⟩, .one (.list ⟨0, eb⟩ hbV .nil)⟩
      · obtain ⟨a, ha, rfl⟩ := List.mem_map.mp hp
        exact ⟨[], ⟨0, m7.list (s := { s₅ with heap := h' }) (has' a ha)⟩, .nil⟩
  have eA : s₇.heap.get? h'.objs.size = some (lstO (.ref a0 :: as.map Value.ref) 0) := Heap.get?_push_size _ rfl
  have hA : h'.objs.size ∉ (N ++ O).map (·.1) := by
    rw [List.map_append, hNm]
    intro q
    rcases List.mem_append.mp q with q | q
    · have hlt : ∀ a ∈ a0 :: as, a < h'.objs.size := fun a ha => by
        rcases List.mem_cons.mp ha with rfl | ha
        · exact Heap.lt_size ((w3.trans mall).list ea2)
        · exact Heap.lt_size (has' a ha)
      exact Nat.lt_irrefl _ (hlt _ q)
    · have st6 : St f O ρ { s₅ with heap := h' } := st3.mv mall
      exact st6.freshV (List.mem_append.mpr (.inl q))
  have stH := stN.hold eA (keep_seq rfl) hA
  refine St.bind (f := withF f f.V₀ ((h'.objs.size, lstO (.ref a0 :: as.map Value.ref) 0) :: f.K) f.D) (sl := .val (.ref h'.objs.size)) stH hk (show SlotIs _ _ (.val _) _ from rfl) fun s₂ st₂ => ?_
  refine wpAny_mono ((h h'.objs.size a0 as 0 hlen hA).run s₂ E st₂) (fun fl s' x => ?_) fun _ _ x => x
  exact Out.drop (f := f) (fun p hp => List.mem_cons_of_mem _ hp) (fun a ha => ha) (fun p hp => hp) x
-- an item of a list that stays 
theorem EvS.itemKept {A a : Addr} {vs : List Value} {n : Nat} {i : Int} {j : Nat} (hv : EvS f O ρ value (.val (.ref A))) (hK : (A, lstO vs n) ∈ f.K) (hi : Ev f O ρ slice (.int i)) (hj : seqIndex? i vs.length = some j) (hx : vs[j]? = some (.ref a)) (hsz : vs.length ≤ sizeLine)
    (hs : ∀ o j, subscripted slice false o j = operate [o, j] (getItem o j) := by intros; with_unfolding_all rfl) : EvS f O ρ (.Subscript value slice pos) (.val (.ref a)) := by
  apply EvS.mk
  intro s Q E st k
  refine Subscript_ (hv.run s _ _ st fun v s₁ m₁ h₁ => hi.run s₁ _ _ (st.mv m₁) fun vi s₂ m₂ h₂ => ?_)
  have h₁' : v = .ref A := h₁
  subst h₁'
  cases h₂
  obtain ⟨e, _, _⟩ := (st.mv (m₁.trans m₂)).kep _ hK
  have i1 : s₂.heap.IsList A vs.toArray := ⟨_, e, rfl, n, rfl⟩
  exact tail_any i1.typeIs slot_list_getitem.lookup (getItem_any i1 hj hx hsz (k _ _ (m₁.trans m₂) rfl)) (hs _ _)
theorem Ev.lenKept {A : Addr} {vs : List Value} {n : Nat} (hf : EvS f O ρ (.Name x np) (.val (.builtin "len"))) (hv : EvS f O ρ e (.val (.ref A))) (hK : (A, lstO vs n) ∈ f.K) (hsz : vs.length ≤ sizeLine)
    (hns : starEach [e] f.env = (false, eval e f.env) :: starEach [] f.env := by rfl) (hpl : (backTo pos (starEach [e] f.env)).any (·.1) = false := by rfl) : Ev f O ρ (.Call (.Name x np) [e] [] pos) (.int vs.length) := by
  apply Ev.mk
  intro s Q E st k
  refine wpAny_Call_NameR (hf.run s _ _ st fun fv s₁ m₁ h₁ => ?_)
  have h₁' : fv = .builtin "len" := h₁
  subst h₁'
  refine PySem.Calls.callWith_builtin hpl ?_
  rw [hns]
  refine PySem.Calls.evalArgs_plain (PySem.Calls.spliced_cons (hv.run s₁ _ _ (st.mv m₁) fun v s₂ m₂ h₂ => PySem.Calls.spliced_nil ?_))
  have h₂' : v = .ref A := h₂
  subst h₂'
  obtain ⟨e, _, _⟩ := (st.mv (m₁.trans m₂)).kep _ hK
  have i1 : s₂.heap.IsList A vs.toArray := ⟨_, e, rfl, n, rfl⟩
  rw [sizeLine_eq] at hsz
  refine PySem.Calls.call_len_list i1 (by simp; omega) ?_
  rw [List.size_toArray]
  exact k _ _ ((m₁.trans m₂).trans (.toks _)) (.int _ _)
theorem It.range2 {a b : Int} {n : Nat} (hf : EvS f O ρ (.Name x np) (.val (.type "range"))) (h1 : Ev f O ρ e1 (.int a)) (h2 : Ev f O ρ e2 (.int b)) (hn : n = (b - a).toNat) (ha : -(2 ^ 62) ≤ a) (hb : b < 2 ^ 62) (ha' : a < 2 ^ 62) (hb' : -(2 ^ 62) ≤ b)
    (hns : starEach [e1, e2] f.env = (false, eval e1 f.env) :: starEach [e2] f.env := by rfl) (hns2 : starEach [e2] f.env = (false, eval e2 f.env) :: starEach [] f.env := by rfl) (hpl : (backTo pos (starEach [e1, e2] f.env)).any (·.1) = false := by rfl) :
    It f O ρ (.Call (.Name x np) [e1, e2] [] pos) (.Name nm tp) ((List.range n).map fun i => Dat.int (a + (i : Nat))) := by
  refine It.rangeV hn ha hb ha' hb' fun s Q E st k => ?_
  refine callT_run st hf (EvL.consE h1 (EvL.consE h2 EvL.nilE hns2) hns) (fun vs s' m hv => ?_) hns hpl
  cases hv with
  | cons a1 hv =>
    cases hv with
    | cons a2 hv =>
      cases hv
      cases a1; cases a2
      exact call_range_2 (k s' _ _ _ _ m)
-- a comprehension over a list of the block's own 
theorem Ev.compOwn {ad : Addr} {α : Type} {xs : List α} {j : α → Dat} {g : α → Dat} {tgt elt iter : Expr} {ρc : List (Str × Slot)} {cl : List (Str × Addr)} (hv : EvS f O ρ iter (.val (.ref ad))) (ho : (ad, xs.map j) ∈ O) (hclos : closureFor scope f.env = pure cl) (hcap : Cap f scope cl ρ ρc) (turn : TurnA f scope cl ρc tgt elt xs j g) (hsz : xs.length ≤ sizeLine) (hkind : scope.kind = .function := by rfl) (hcell : ∀ y ∈ scope.names, y.2 ≠ .cell := by decide)
    (hnames : ∀ y ∈ scope.names, y.2 = .local → scope.names.lookup y.1 = some .local := by decide) (hs : ∀ x, foldedSetIterable iter f.env x = pure x := by intro _; rfl) : Ev f O ρ (.ListComp elt [⟨tgt, iter, [], 0⟩] scope pos) (.list (xs.map g)) := by
  apply Ev.mk
  intro s Q E st k
  rw [eval_ListComp]
  refine wpAny_comprehension_free (use := none) rfl hs hclos hkind hnames ?_
  refine hv.run s _ _ st fun v s₁ m₁ h₁ => ?_
  have h₁' : v = .ref ad := h₁
  subst h₁'
  have st1 := st.mv m₁
  obtain ⟨vs, i1, hl⟩ := st1.own _ ho
  have hne : ad ≠ s₁.heap.objs.size := by
    obtain ⟨n, e⟩ := i1
    exact Nat.ne_of_lt (Heap.lt_size e)
  refine wpAny_pyIter_list i1.isList ?_
  have W := Walks.list (prog := f.prog) (w := f.w) st.ok.hh s₁.heap.objs.size ad hne vs.toArray
  have hlen : vs.toArray.size = (xs.map j).length := by simp [hl.length]
  rw [hlen] at W
  have m₂ : Mv f.G f.W s₁ { s₁ with heap := s₁.heap.push { cls := .type "list_iterator", data := .fields #[.ref ad, rawInt 0] } } := .push _
  refine comp_core (RR := fun acc C => compPost _ _ E none Q acc C) (wr := [s₁.heap.objs.size]) (it := .ref s₁.heap.objs.size) st1 hcap hkind hcell (p := fun _ => true) (g := g) (j := j) (xs := xs) hl (fun V hw => Itr.of_walks W hw (fun i v d h hv hd hh => ?_) (fun i h hJ b hb o e => ?_) (fun i h hJ b hb => ?_) fun i v s Q E hJ hQ => letgo_list hJ.1 hQ)
    ⟨⟨_, Heap.get?_push_size _ rfl, rfl, rfl⟩, (i1.at fun o e => Heap.get?_push_of_some _ e).isList⟩ (fun b hb => by rw [List.mem_singleton.mp hb]; exact Nat.le_refl _) (size_up _ _) m₂ hsz turn.turn ?_
  · obtain ⟨d', hd', hx⟩ := hh.getV (k := i) (by simpa using hv)
    rw [hd] at hd'; cases hd'; exact hx
  · obtain ⟨⟨oi, ei, ci, di⟩, ⟨ol, el, _, n, dl⟩⟩ := hJ
    rcases List.mem_cons.mp hb with rfl | hb
    · rw [ei] at e; cases e; exact keep_fields di ci
    · have hb' := List.mem_singleton.mp hb; rw [hb', el] at e; cases e; exact keep_seq dl
  · obtain ⟨⟨oi, ei, _, di⟩, ⟨ol, el, _⟩⟩ := hJ
    rcases List.mem_cons.mp hb with rfl | hb
    · exact ⟨_, ei⟩
    · rw [List.mem_singleton.mp hb]; exact ⟨_, el⟩
  · intro Dd C m s₅ us hDd hC hDC hn mv hp hu hDV
    refine ⟨m, hn, fun h' hs' => ?_⟩
    obtain ⟨h1, h2⟩ := comp_gone hC hDC hn mv hp hu hDV hs'
    rw [picked_all] at h2
    exact k _ _ (m₁.trans h1) h2
-- a list of the block's own goes on by a list 
theorem ExS.extend {ap cp : Pos} {i : Nat} {ad : Addr} {ds' : List Dat} {ox : Expr} (ho : EvS f O ρ ox (.val (.ref ad))) (hi : O[i]? = some (ad, ds)) (h : Ev f O ρ e (.list ds')) (hsz : ds.length + ds'.length ≤ sizeLine) (hΦ : Φ (.next (O.set i (ad, ds ++ ds')) ρ))
    (hint : interactive f.env = false := by rfl) (hsw : swapsWith (.Call (.Attribute ox "extend" ap) [e] [] cp) none pos.line f.env = pure false := by rfl)
    (hbase : attributeBase ox "extend" f.env (eval ox f.env) = eval ox f.env := by rfl)
    (hline : (ap.endLine == cp.line) = true := by rfl) (hs : starEach [e] f.env = [(false, eval e f.env)] := by rfl) : ExS f O ρ (.Expr (.Call (.Attribute ox "extend" ap) [e] [] cp) pos) Φ := by
  apply ExS.mk
  intro s E st
  refine wpAny_Expr (Call_method1 hbase hs hline (ho.run s _ _ st fun v s₁ m₁ h₁ => ?_)) hint hsw
  have h₁' : v = .ref ad := h₁
  subst h₁'
  have st1 := st.mv m₁
  obtain ⟨vs, ⟨n, e1⟩, hl⟩ := st1.own _ (List.mem_of_getElem? hi)
  refine ⟨"list", "list.extend", F.plainAttrs_list, F.slot_list_extend, F.type_list_extend, ⟨_, e1, rfl⟩, (fun a q => by cases q; exact ⟨_, e1, rfl⟩), ?_⟩
  refine PySem.Calls.callWith_builtin rfl (PySem.Calls.evalArgs_plain (PySem.Calls.spliced_cons (h.run s₁ _ _ st1 fun y s₂ m₂ h₂ => PySem.Calls.spliced_nil ?_)))
  have st2 := st1.mv m₂
  obtain ⟨vs2, i2, hl2⟩ := st2.own _ (List.mem_of_getElem? hi)
  obtain ⟨n2, e2⟩ := id i2
  cases h₂ with
  | list i3 n3 hl3 =>
    rename_i b us
    obtain ⟨k3, e3⟩ := i3
    have hne : b ≠ ad := fun q => n3 (q ▸ List.mem_append.mpr (.inl (List.mem_map.mpr ⟨_, List.mem_of_getElem? hi, rfl⟩)))
    have hz : vs2.toArray.size + us.toArray.size ≤ sizeLine := by simpa [hl2.length, hl3.length] using hsz
    show wpAny _ _ (call (.builtin "list.extend") [.ref ad, .ref b]) _ E s₂
    refine call_meets F.slot_list_extend ⟨_, e2, rfl⟩ F.entry_list_extend (F.args_list_extend_2 _ _) (PySem.AutoSeq1.list_extend_list_list_0 ad vs2.toArray n2 b us.toArray k3 ?_ (Nat.le_trans (Nat.le_add_right _ _) hz) (Nat.le_succ_of_le hz)) ⟨e2, e3, ?_⟩
    · rw [Bool.and_eq_true, not_and]
      intro _
      unfold Builtin.List.listTooLong
      simpa using hz
    · have hfin : (s₂.heap.update ad (Obj.mapSeq fun x => x ++ us.toArray)).PlainList ad (vs2 ++ us).toArray := by
        have e2' : s₂.heap.get? ad = some { cls := Value.type "list", data := Data.seq vs2.toArray n2 } := e2
        refine ⟨if (vs2.toArray ++ us.toArray).size == vs2.toArray.size then n2 else n2 + 1, (Heap.get?_update_self _ e2' rfl).trans ?_⟩
        rw [← List.append_toArray]
        rfl
      exact ⟨_, _, hΦ, st2.ownSet (vs' := vs2 ++ us) hi (Heap.SameBut.update ..) hfin (hl2.append hl3)⟩
theorem EvS.iteT {t l r : Expr} {sl : Slot} (ht : Tr f O ρ t true) (h : EvS f O ρ l sl) : EvS f O ρ (.IfExp t l r pos) sl := by
  apply EvS.mk
  intro s Q E st k
  exact IfExp_ (ht.run s _ _ st fun s' m => h.run s' _ _ (st.mv m) fun v s₂ m₂ h₂ => k v s₂ (m.trans m₂) h₂)
end
end Mine

namespace Mine
section
variable {f : Fm} {O : List (Addr × List Dat)} {ρ : List (Str × Slot)} {iter tgt : Expr} {pos : Pos} {ds : List Dat} {d : Dat} {Φ : Ot → Prop} {body : List Stmt}
-- a loop whose turns know what stays 
theorem ExS.forXK (hit : It f O ρ iter tgt ds) (I : Nat → List (Addr × List Dat) → List (Str × Slot) → Prop) (h0 : ∃ ρ₁, I 0 O ρ₁ ∧ Sub ρ₁ ρ) (hO : ∀ i O' ρ', I i O' ρ' → O'.map (·.1) = O.map (·.1))
    (turn : ∀ V K D i O' ρ' d, (∀ p ∈ f.K, p ∈ K) → I i O' ρ' → ds[i]? = some d → ∃ ρ'', As (withF f V K D) O' ρ' tgt d ρ'' ∧ Ex (withF f V K D) O' ρ'' body (forR I i Φ))
    (done : ∀ O' ρ', I ds.length O' ρ' → Φ (.next O' ρ')) (hs : ∀ x, foldedSetIterable iter f.env x = pure x := by intro _; rfl) : ExS f O ρ (.For tgt iter body [] pos) Φ := by
  first | apply Ev.mk | apply EvS.mk | apply Tr.mk | apply EvL.mk | apply Ex.mk | apply ExS.mk | apply It.mk | skip
  intro s E st
  obtain ⟨ρ₁, hI0, hsub⟩ := h0
  refine wpAny_For (hit.run s _ _ st fun it s₁ s' vs es J fp wr m₁ m₂ hd ITA hJ hlo hfO hle => ?_) hs
  have IT := ITA (O.map (·.1) ++ (wr ++ f.V₀)) fun b hb => List.mem_append.mpr (.inr (List.mem_append.mpr (.inl hb)))
  have st1 := (st.mv m₁).weak hsub
  have st2 := st1.mv m₂
  have lo0 : ∀ b ∈ wr, f.s₀.heap.objs.size ≤ b := fun b hb => by
    obtain ⟨mm, nn⟩ := st1.loc
    exact Nat.le_trans (Nat.le_trans st1.ok.fL (Nat.le_of_lt nn.lt)) (hlo b hb)
  have ent : St (withF f (wr ++ f.V₀) (objsAt s'.heap fp ++ f.K) ((vs, es) :: f.D)) O ρ₁ s' :=
    st2.enter st1 m₂ hlo (fun a ha => IT.ex 0 _ hJ a (IT.sub a ha)) (fun p hp => by
      obtain ⟨h1, h2⟩ := objsAt_mem hp
      exact ⟨h2, IT.fpOk 0 _ hJ _ h1 _ h2, hfO _ h1⟩) hd
  have fKw : ∀ p ∈ f.K, p.1 ∉ wr := fun p hp hw => by
    obtain ⟨e, _, _⟩ := st1.kep p hp
    exact absurd (Heap.lt_size e) (Nat.not_lt.mpr (hlo _ hw))
  refine codeAny_forLoop_any (fun n s => ∃ i O' ρ', n = ds.length + 1 - i ∧ i ≤ ds.length ∧ I i O' ρ' ∧ J i s.heap ∧ St (withF f (wr ++ f.V₀) (objsAt s.heap fp ++ f.K) ((vs, es) :: f.D)) O' ρ' s) ?_ (ds.length + 1) ⟨0, O, ρ₁, rfl, Nat.zero_le _, hI0, hJ, ent⟩
  rintro n s₂ ⟨i, O', ρ', rfl, hi, hI, hJi, st3⟩
  have hOO := hO i O' ρ' hI
  have hVe : (withF f (wr ++ f.V₀) (objsAt s₂.heap fp ++ f.K) ((vs, es) :: f.D)).V O' = O.map (·.1) ++ (wr ++ f.V₀) := by show O'.map _ ++ _ = _; rw [hOO]
  have vex : ∀ a ∈ O.map (·.1) ++ (wr ++ f.V₀), ∃ o, s₂.heap.get? a = some o := fun a ha => by
    rcases List.mem_append.mp ha with ha | ha
    · rw [← hOO] at ha
      obtain ⟨p, hp, rfl⟩ := List.mem_map.mp ha
      obtain ⟨us, ⟨n, e⟩, _⟩ := st3.own p hp
      exact ⟨_, e⟩
    · exact st3.v0 a ha
  have KA : ∀ p ∈ f.K, p ∈ objsAt s₂.heap fp ++ f.K := fun p hp => List.mem_append.mpr (.inr hp)
  rcases Nat.lt_or_ge i ds.length with hlt | hge
  · have hd' : ds[i]? = some ds[i] := List.getElem?_eq_getElem hlt
    have hdata : HasL (O.map (·.1) ++ (wr ++ f.V₀)) s₂.heap vs es := by
      have := st3.dat (vs, es) List.mem_cons_self
      rw [hVe] at this
      exact this
    refine wpAny_mono (IT.item i ds[i] s₂ (fun v s₄ => ∃ h' tk, s₄ = { s₂ with heap := h', toks := tk } ∧ J (i + 1) h' ∧ Has (O.map (·.1) ++ (wr ++ f.V₀)) h' v ds[i] ∧ (∀ b o, b ∉ wr → s₂.heap.get? b = some o → h'.get? b = some o)) (notedBy (model f.prog f.w) f.A f.env _) hd' hJi hdata vex
      (fun v h' tk hJ' hv' hk' => ⟨h', tk, rfl, hJ', hv', hk'⟩)) (fun r s₄ hr => ?_) fun _ _ x => x
    obtain ⟨v, rfl, hr⟩ := hr
    refine wpAny_mono hr (fun _ s₅ h5 => ?_) fun _ _ x => x
    obtain ⟨h', tk, rfl, hJ', hv', hk'⟩ := h5
    have st4 : St (withF f (wr ++ f.V₀) (objsAt h' fp ++ f.K) ((vs, es) :: f.D)) O' ρ' { s₂ with heap := h', toks := tk } := by
      refine St.foreign (f := f) st3 lo0 (fun b hb => List.mem_append.mpr (.inl hb)) (fun a ha => ha) (fun a ha => ?_) (fun p hp => hp) (fun p hp => ?_) (fun b hb o e => IT.fpOk i _ hJi b (IT.sub b hb) o e) hk'
      · rcases List.mem_append.mp ha with ha | ha
        · exact IT.ex (i + 1) _ hJ' a (IT.sub a ha)
        · by_cases hw : a ∈ wr
          · exact IT.ex (i + 1) _ hJ' a (IT.sub a hw)
          · obtain ⟨o, e⟩ := st3.v0 a (List.mem_append.mpr (.inr ha))
            exact ⟨o, hk' a o hw e⟩
      · rcases List.mem_append.mp hp with hp | hp
        · obtain ⟨h1, h2⟩ := objsAt_mem hp
          refine ⟨h2, IT.fpOk (i + 1) _ hJ' _ h1 _ h2, ?_⟩
          rw [hOO]; exact hfO _ h1
        · obtain ⟨e, b, c⟩ := st3.kep p (List.mem_append.mpr (.inr hp))
          exact ⟨hk' _ _ (fKw p hp) e, b, c⟩
    obtain ⟨ρ'', has, hex⟩ := turn (wr ++ f.V₀) (objsAt h' fp ++ f.K) ((vs, es) :: f.D) i O' ρ' ds[i] (fun p hp => List.mem_append.mpr (.inr hp)) hI hd'
    have hv2 : Has ((withF f (wr ++ f.V₀) (objsAt h' fp ++ f.K) ((vs, es) :: f.D)).V O') h' v ds[i] := by
      have : (withF f (wr ++ f.V₀) (objsAt h' fp ++ f.K) ((vs, es) :: f.D)).V O' = O.map (·.1) ++ (wr ++ f.V₀) := by show O'.map _ ++ _ = _; rw [hOO]
      rw [this]; exact hv'
    refine has _ v _ _ st4 hv2 fun s₆ st6 => ?_
    refine wpAny_mono (hex.run s₆ _ st6) (fun fl s₇ ho => ?_) fun _ _ x => x
    have nx : (∃ O₁ ρ₁, (∃ ρ₂, I (i + 1) O₁ ρ₂ ∧ Sub ρ₂ ρ₁) ∧ St (withF f (wr ++ f.V₀) (objsAt h' fp ++ f.K) ((vs, es) :: f.D)) O₁ ρ₁ s₇) →
        ∃ m, m < ds.length + 1 - i ∧ ∃ i O' ρ', m = ds.length + 1 - i ∧ i ≤ ds.length ∧ I i O' ρ' ∧ J i s₇.heap ∧ St (withF f (wr ++ f.V₀) (objsAt s₇.heap fp ++ f.K) ((vs, es) :: f.D)) O' ρ' s₇ := by
      rintro ⟨O₁, ρ₁, ⟨ρ₂, hI2, hs2⟩, st7⟩
      have st7' := st7.weak hs2
      have hOO1 := hO _ _ _ hI2
      have kfp : ∀ b ∈ fp, ∀ o, h'.get? b = some o → s₇.heap.get? b = some o := fun b hb o e => (st7.kep (b, o) (List.mem_append.mpr (.inl (mem_objsAt hb e)))).1
      have hJ7 : J (i + 1) s₇.heap := IT.frame _ _ _ hJ' kfp
      refine ⟨ds.length + 1 - (i + 1), by omega, i + 1, O₁, ρ₂, rfl, hlt, hI2, hJ7, ?_⟩
      refine St.foreign (f := f) (wr := []) (h' := s₇.heap) (tk := s₇.toks) st7' (fun _ h => nomatch h) (fun _ h => nomatch h) (fun a ha => ha) (fun a ha => st7.v0 a ha) (fun p hp => hp) (fun p hp => ?_) (fun _ h => nomatch h) fun _ _ _ e => e
      rcases List.mem_append.mp hp with hp | hp
      · obtain ⟨h1, h2⟩ := objsAt_mem hp
        refine ⟨h2, IT.fpOk (i + 1) _ hJ7 _ h1 _ h2, ?_⟩
        rw [hOO1]; exact hfO _ h1
      · exact st7'.kep p (List.mem_append.mpr (.inr hp))
    cases fl with
    | next => exact nx ho
    | cont => exact nx ho
    | brk =>
      obtain ⟨O₁, ρ₁, hΦ, st7⟩ := ho
      exact ⟨O₁, ρ₁, hΦ, st7.drop (fun p hp => List.mem_append.mpr (.inr hp)) (fun a ha => List.mem_append.mpr (.inr ha)) (fun p hp => List.mem_cons_of_mem _ hp)⟩
    | ret v =>
      exact Out.drop (Φ := Φ) (fl := .ret v) (fun p hp => List.mem_append.mpr (.inr hp)) (fun a ha => List.mem_append.mpr (.inr ha)) (fun p hp => List.mem_cons_of_mem _ hp) ho
  · have hie : i = ds.length := Nat.le_antisymm hi hge
    subst hie
    refine wpAny_mono (IT.done s₂ (fun s₄ => ∃ h' tk, s₄ = { s₂ with heap := h', toks := tk } ∧ ∀ b o, b ∉ wr → s₂.heap.get? b = some o → h'.get? b = some o) (notedBy (model f.prog f.w) f.A f.env _) hJi fun h' tk hk' => ⟨h', tk, rfl, hk'⟩) (fun r s₄ hr => ?_) fun _ _ x => x
    obtain ⟨rfl, h', tk, rfl, hk'⟩ := hr
    refine wpAny_execs_nil ⟨O', ρ', done O' ρ' hI, ?_⟩
    refine St.foreign (f := f) (V' := f.V₀) (K' := f.K) (D' := f.D) st3 lo0 (fun b hb => List.mem_append.mpr (.inl hb)) (fun a ha => List.mem_append.mpr (.inr ha)) (fun a ha => ?_) (fun p hp => List.mem_cons_of_mem _ hp) (fun p hp => ?_) (fun b hb o e => IT.fpOk _ _ hJi b (IT.sub b hb) o e) hk'
    · obtain ⟨o, e⟩ := st1.v0 a ha
      have hw : a ∉ wr := fun hw => absurd (Heap.lt_size e) (Nat.not_lt.mpr (hlo _ hw))
      obtain ⟨o', e'⟩ := st3.v0 a (List.mem_append.mpr (.inr ha))
      exact ⟨o', hk' a o' hw e'⟩
    · obtain ⟨e, b, c⟩ := st3.kep p (List.mem_append.mpr (.inr hp))
      exact ⟨hk' _ _ (fKw p hp) e, b, c⟩
end
-- own lists at some addresses 
def OO (as : List Addr) (F : Nat → List Dat) : List (Addr × List Dat) := as.zipIdx.map fun p => (p.1, F p.2)
theorem OO_fst (as : List Addr) (F : Nat → List Dat) : (OO as F).map (·.1) = as := by
  unfold OO
  rw [List.map_map]
  show (as.zipIdx.map Prod.fst) = as
  simp
theorem OO_get {as : List Addr} {F : Nat → List Dat} {k : Nat} {a : Addr} (h : as[k]? = some a) : (OO as F)[k]? = some (a, F k) := by
  unfold OO
  rw [List.getElem?_map, List.getElem?_zipIdx, h]
  simp
theorem OO_set {as : List Addr} {F : Nat → List Dat} {k : Nat} {a : Addr} (h : as[k]? = some a) (X : List Dat) : (OO as F).set k (a, X) = OO as (fun j => if j = k then X else F j) := by
  apply List.ext_getElem?
  intro j
  have hk : k < as.length := (List.getElem?_eq_some_iff.mp h).1
  have hl : (OO as F).length = as.length := by unfold OO; simp
  by_cases hj : j = k
  · subst hj
    rw [List.getElem?_set_self (by rw [hl]; exact hk), OO_get h, if_pos rfl]
  · rw [List.getElem?_set_ne (Ne.symm hj)]
    cases ha : as[j]? with
    | none =>
      have hlj : as.length ≤ j := by rw [List.getElem?_eq_none_iff] at ha; exact ha
      rw [List.getElem?_eq_none (by rw [hl]; exact hlj), List.getElem?_eq_none (by unfold OO; simp; exact hlj)]
    | some b => rw [OO_get ha, OO_get ha, if_neg hj]
theorem OO_congr {as : List Addr} {F F' : Nat → List Dat} (h : ∀ j, j < as.length → F j = F' j) : OO as F = OO as F' := by
  apply List.ext_getElem?
  intro j
  cases ha : as[j]? with
  | none =>
    have hlj : as.length ≤ j := by rw [List.getElem?_eq_none_iff] at ha; exact ha
    rw [List.getElem?_eq_none (by unfold OO; simp; exact hlj), List.getElem?_eq_none (by unfold OO; simp; exact hlj)]
  | some b => rw [OO_get ha, OO_get ha, h j (List.getElem?_eq_some_iff.mp ha).1]
theorem OO_mem {as : List Addr} {F : Nat → List Dat} {k : Nat} {a : Addr} (h : as[k]? = some a) : (a, F k) ∈ OO as F := List.mem_of_getElem? (OO_get h)
end Mine

namespace Mine
-- ## next, and what it raises 
section
variable {prog : Program} {w : World} {A : Around} {E : Value → Shared → Prop} {s : Shared}
theorem next_item {it l : Addr} {i : Nat} {items : Array Value} {x : Value} {Q : Value → Shared → Prop} (hit : s.heap.IsListIter it l i) (hl : s.heap.IsList l items) (hx : items[i]? = some x)
    (hQ : ∀ h', h'.IsListIter it l (i + 1) → Heap.SameBut it s.heap h' → Q x { s with heap := h' }) : wpAny (model prog w) A (call (.builtin "next") [.ref it]) Q E s := by
  obtain ⟨o, ho, hc, hd⟩ := id hit
  obtain ⟨ol, hol, _, nl, hdl⟩ := hl
  refine PySem.Calls.call_function_entry (by decide +kernel) (by decide +kernel) kdk_entry_next (kdk_args_next _) ?_
  unfold Builtin.«next»
  refine wpAny_bind (m := someArgs "next" 1 2 _) (wpAny_of_eq (a := [Value.ref it]) (by first | rfl | kernel_rfl!) ?_)
  dsimp only
  refine wpAny_bind (wpAny_specialOf (name := Str.ofString "__next__") hit.typeIs slot_listiter_next.lookup ?_)
  refine wpAny_ite_split (fun hab => absurd hab (by decide)) (fun _ => ?_)
  refine wpAny_bind (wpAny_callSpecial?_slot (name := Str.ofString "__next__") hit.typeIs slot_listiter_next
    (wpAny_call_entry slot_listiter_next hit.typeIs entry_listiter_next ?_ (args_listiter_next _)))
  show wpAny _ _ (field (.ref it) 0 >>= _) _ _ s
  refine wpAny_bind (wpAny_field ho hd (x := .ref l) rfl ?_)
  show wpAny _ _ (if (Value.ref l == Value.none) = true then _ else _) _ _ s
  rw [if_neg (show ¬ ((Value.ref l == Value.none) = true) from Bool.false_ne_true)]
  show wpAny _ _ (field (.ref it) 1 >>= _) _ _ s
  refine wpAny_bind (wpAny_field ho hd (x := .int i 0) rfl ?_)
  show wpAny _ _ (seqItems? (.ref l) >>= _) _ _ s
  refine wpAny_bind (wpAny_seqItems hol hdl ?_)
  simp only [Int.toNat_natCast, hx]
  refine wpAny_bind (wpAny_setField ho hd (by simp) (wpAny_pure ⟨x, rfl, wpAny_pure ⟨_, rfl, hQ _ ?_ (Heap.SameBut.update ..)⟩⟩))
  exact ⟨_, Heap.get?_update_self _ ho (Obj.isFreed_of_fields (Obj.data_mapFields hd _)), (Obj.cls_mapFields ..).trans hc, by
    rw [Obj.data_mapFields hd]; simp [rawInt]⟩
theorem next_end {it l : Addr} {i : Nat} {items : Array Value} {Q : Value → Shared → Prop} (hh : A.handled = none) (hit : s.heap.IsListIter it l i) (hl : s.heap.IsList l items) (hx : items[i]? = none)
    (hE : ∀ h₁ h' e, Heap.SameBut it s.heap h₁ → (∃ o vs, h₁.get? it = some o ∧ o.cls = .type "list_iterator" ∧ o.data = .fields vs) → Heap.MadeExcOf h₁ h' e (.type "StopIteration") [] → E (.ref e) { s with heap := h' }) : wpAny (model prog w) A (call (.builtin "next") [.ref it]) Q E s := by
  obtain ⟨o, ho, hc, hd⟩ := id hit
  obtain ⟨ol, hol, _, nl, hdl⟩ := hl
  refine PySem.Calls.call_function_entry (by decide +kernel) (by decide +kernel) kdk_entry_next (kdk_args_next _) ?_
  unfold Builtin.«next»
  refine wpAny_bind (m := someArgs "next" 1 2 _) (wpAny_of_eq (a := [Value.ref it]) (by first | rfl | kernel_rfl!) ?_)
  dsimp only
  refine wpAny_bind (wpAny_specialOf (name := Str.ofString "__next__") hit.typeIs slot_listiter_next.lookup ?_)
  refine wpAny_ite_split (fun hab => absurd hab (by decide)) (fun _ => ?_)
  refine wpAny_bind (wpAny_callSpecial?_slot (name := Str.ofString "__next__") hit.typeIs slot_listiter_next
    (wpAny_call_entry slot_listiter_next hit.typeIs entry_listiter_next ?_ (args_listiter_next _)))
  show wpAny _ _ (field (.ref it) 0 >>= _) _ _ s
  refine wpAny_bind (wpAny_field ho hd (x := .ref l) rfl ?_)
  show wpAny _ _ (if (Value.ref l == Value.none) = true then _ else _) _ _ s
  rw [if_neg (show ¬ ((Value.ref l == Value.none) = true) from Bool.false_ne_true)]
  show wpAny _ _ (field (.ref it) 1 >>= _) _ _ s
  refine wpAny_bind (wpAny_field ho hd (x := .int i 0) rfl ?_)
  show wpAny _ _ (seqItems? (.ref l) >>= _) _ _ s
  refine wpAny_bind (wpAny_seqItems hol hdl ?_)
  simp only [Int.toNat_natCast, hx]
  refine wpAny_bind (wpAny_rule (wpAny_bind (wpAny_setField ho hd (by simp) ?_)))
  show wpAny _ _ (newExc (.type "StopIteration") [] >>= _) _ _ _
  refine wpAny_bind ?_
  simp only [newExc, newTuple]
  refine wpAny_bind (wpAny_newObj_type ?_ (by size_fits))
  refine wpAny_bind (m := firstArgMember _ _) (wpAny_of_eq (a := Value.none) (by first | rfl | (simp only [firstArgMember]; rfl)) ?_)
  refine wpAny_newObj_type ?_ (by size_fits)
  simp only [raiseNew]
  refine wpAny_bind (wpAny_handled ?_)
  rw [show A.in1.in1.handled = none from hh]
  refine wpAny_bind (wpAny_pure (wpAny_throw ?_))
  generalize hh1 : s.heap.update it (Obj.mapFields (·.setIfInBounds 0 Value.none)) = h₁
  have hs1 : Heap.SameBut it s.heap h₁ := by rw [← hh1]; exact Heap.SameBut.update ..
  have hi1 : ∃ o vs, h₁.get? it = some o ∧ o.cls = .type "list_iterator" ∧ o.data = .fields vs := by
    rw [← hh1]
    exact ⟨_, _, Heap.get?_update_self _ ho (Obj.isFreed_of_fields (Obj.data_mapFields hd _)), (Obj.cls_mapFields ..).trans hc, Obj.data_mapFields hd _⟩
  refine hE h₁ _ _ hs1 hi1 ⟨fun b o e => Heap.get?_push_of_some _ (Heap.get?_push_of_some _ e), ?_, ?_⟩
  · refine Heap.get?_none_of_le ?_
    show h₁.objs.size ≤ (h₁.push _).objs.size
    rw [Heap.size_push]; omega
  · exact ⟨h₁.objs.size, Heap.get?_push_size _ rfl, Heap.get?_none_of_le (Nat.le_refl _), Heap.get?_push_of_some _ (Heap.get?_push_size _ rfl)⟩
end
section
variable {M : Model} {A : Around} {E : Value → Shared → Prop} {s : Shared}
-- an exception that the frame itself made is noted 
theorem looks_made {base : Heap} {env : Env} {outer : List Env} {L e : Addr} {oe : Obj} {vs : Array Value} {a0 : Value} {Q : Unit → Shared → Prop} (hfr : A.frames = some (env :: outer)) (hf : env.frame = some L) (hkb : base.StaysIn s.heap) (hen : base.get? e = none) (hl : s.heap.FunFrames base (env :: outer))
    (he : s.heap.get? e = some oe) (hd : oe.data = .fields vs) (h1 : vs[1]? = some .none) (h0 : vs[0]? = some a0)
    (hQ : ∀ h', Heap.HeldW base (env :: outer) e oe.cls a0 L h' → s.heap.UpToSlots h' → Q () { s with heap := h' }) : wpAny M A (noteFrame (.ref e) env) Q E s := by
  unfold noteFrame
  simp only [hf]
  refine wpAny_bind (wpAny_field he hd h1 ?_)
  rw [if_neg (by decide)]
  exact wpAny_entryW hfr hl hf he hkb hen hd (Array.getElem?_eq_some_iff.mp h1).1 h0 fun h' ⟨x1, x2, x3, x4⟩ => hQ h' ⟨x1, hen, x2, x3⟩ x4
-- an exception that is held comes back from its own activation 
theorem came_back {base : Heap} {env : Env} {outer : List Env} {L e : Addr} {cls a0 : Value} (hf : env.frame = some L) (hh : Heap.HeldW base (env :: outer) e cls a0 L s.heap)
    (hQ : ∀ h', Heap.HeldW base (env :: outer) e cls a0 L h' → s.heap.UpToSlots h' → E (.ref e) { s with heap := h' }) : cameBackBy M A env E (.ref e) s := by
  obtain ⟨f1, f2, f3, oe, vs, T, oT, ts, he, hcls, hd, h1, hnT, hTe, hT, hdT, h3⟩ := hh
  have hsz3 : 3 < ts.size := (Array.getElem?_eq_some_iff.mp h3).1
  have other : ∀ b, b ≠ T → (s.heap.update T (Obj.mapFields (·.setIfInBounds 3 (rawInt L)))).get? b = s.heap.get? b := fun b hb => Heap.get?_update_other _ _ (Ne.symm hb)
  have noRecord : ∀ b o, s.heap.get? b = some o → (∀ vs, o.data ≠ .fields vs) → b ≠ T := fun b o hb hnf q => by
    rw [q, hT] at hb; injection hb with hb; subst hb; exact hnf ts hdT
  unfold cameBackBy
  refine wpAny_bind (wpAny_field he hd h1 ?_)
  rw [if_neg (show ¬ ((Value.ref T == Value.none) = true) from Bool.false_ne_true)]
  rw [hf]
  unfold setFlight
  refine wpAny_bind (wpAny_field he hd h1 ?_)
  rw [if_pos (show (Value.ref T != Value.none) = true from by simp)]
  refine wpAny_setField hT hdT hsz3 (hQ _ ⟨fun b o hbo => (other b fun q => by rw [q, hnT] at hbo; cases hbo).trans (f1 b o hbo), f2, f3.of_keeps fun b o hb hnf => ⟨o, (other b (noRecord b o hb hnf)).trans hb, rfl⟩, ?_⟩ fun b o hb hnf => ⟨o.slots, (other b (noRecord b o hb hnf)).trans hb⟩)
  exact ⟨oe, vs, T, _, _, (other e (Ne.symm hTe)).trans he, hcls, hd, h1, hnT, hTe, Heap.get?_update_self _ hT (Obj.isFreed_of_fields (Obj.data_mapFields hdT _)), Obj.data_mapFields hdT _, by simp [hsz3]⟩
end
section
variable {prog : Program} {w : World} {A : Around} {E : Value → Shared → Prop} {s : Shared} {env : Env}
set_option maxHeartbeats 1000000 in
theorem raise_from {x m : Str} {np cpos pos sp p2 : Pos} {k k2 : Nat} {e1 : Addr} {o1 : Obj} {vs1 : Array Value} {Q : Flow → Shared → Prop} (hh : A.handled = some (.ref e1)) (h1 : s.heap.get? e1 = some o1) (d1 : o1.data = .fields vs1) (c1 : vs1[2]? = some .none)
    (hx : ∀ (Q : Value → Shared → Prop) s₁, Q (.type "TypeError") s₁ → s₁.heap = s.heap → wpAny (model prog w) A (eval (.Name x np) env) Q E s₁)
    (hE : ∀ h' tk e t u, (∀ b o, s.heap.get? b = some o → h'.get? b = some o) → s.heap.get? e = none → s.heap.get? t = none → h'.get? e = some { cls := .type "TypeError", data := .fields #[.ref t, .none, .ref e1, .none, .bool true, .none] } → h'.TupAt t [.str m u] → E (.ref e) { s with heap := h', toks := tk }) :
    wpAny (model prog w) A (exec (.Raise (some (.Call (.Name x np) [.Constant (.str m) k sp] [] cpos)) (some (.Constant .none k2 p2)) pos) env) Q E s := by
  obtain ⟨hp, g, d, tk, os⟩ := s
  rw [arm_exec_Raise]
  show wpAny _ A (do standAt pos; raiseStmt env (some (do let v ← eval (.Call (.Name x np) [.Constant (.str m) k sp] [] cpos) env; standAt pos; pure v)) (some (do let v ← eval (.Constant .none k2 p2) env; standAt pos; pure v))) Q E _
  refine wpAny_bind (wpAny_standAt ?_)
  unfold raiseStmt
  refine wpAny_bind (wpAny_bind (wpAny_Call_ofName (hx _ _ ?_ rfl)))
  refine callWith_excType (by rfl) ?_
  rw [show starEach [Expr.Constant (.str m) k sp] env = (false, eval (.Constant (.str m) k sp) env) :: starEach [] env from rfl]
  refine PySem.Calls.evalArgs_plain (PySem.Calls.spliced_cons (PySem.Calls.Constant_str (x := m) (k := k) (pos := sp) (PySem.Calls.spliced_nil ?_)))
  refine wpAny_call_exc F.excCall_TypeError (hrest := by simp [sizeLine_eq]) fun h' e hm => ?_
  obtain ⟨t, he, htn, ht⟩ := hm.there
  refine wpAny_bind (wpAny_standAt (wpAny_pure ?_))
  refine wpAny_bind (wpAny_holding (wpAny_bind (Constant_none (wpAny_bind (wpAny_standAt (wpAny_pure (wpAny_bind (wpAny_pure ?_))))))))
  have hsub := F.excRaise_TypeError.isExc
  have hmeta := F.excRaise_TypeError.plainMeta
  refine wpAny_bind (wpAny_holding ?_)
  repeat (first | refine wpAny_loadPart he ?_ | wp_step)
  have hne : e1 ≠ e := by
    rintro rfl
    have := hm.new
    rw [show hp.get? e1 = some o1 from h1] at this; cases this
  generalize hh2 : (h'.update e (Obj.mapFields fun x => x.setIfInBounds 3 Value.none)).update e (Obj.mapFields fun x => x.setIfInBounds 4 (Value.bool true)) = h₂
  have he₁ := Heap.get?_update_self (Obj.mapFields (·.setIfInBounds 3 Value.none)) he rfl
  have he₂ := Heap.get?_update_self (Obj.mapFields (·.setIfInBounds 4 (Value.bool true))) he₁ rfl
  rw [hh2] at he₂
  have ho₂ : ∀ b, b ≠ e → h₂.get? b = h'.get? b := fun b hb => by
    rw [← hh2, Heap.get?_update_other _ _ (Ne.symm hb), Heap.get?_update_other _ _ (Ne.symm hb)]
  have h1₂ : h₂.get? e1 = some o1 := (ho₂ e1 hne).trans (hm.keeps _ _ h1)
  unfold raiseNew
  refine wpAny_bind (wpAny_handled ?_)
  rw [hh]
  dsimp only
  rw [if_pos (show (Value.ref e1 != Value.ref e) = true from by simp [hne])]
  have hent : entryFor table "proto.unchain" = some Builtin.«proto.unchain» := entryFor_of_fast (by kernel_rfl)
  refine wpAny_bind (wpAny_holding (wpAny_runValue (codeAny_builtin hent ?_)))
  unfold Builtin.«proto.unchain»
  dsimp only
  refine wpAny_bind (wpAny_field h1₂ d1 c1 ?_)
  rw [if_pos (show (Value.none == Value.none) = true from rfl)]
  refine wpAny_pure ?_
  refine wpAny_bind ?_
  unfold updateField
  refine wpAny_bind (wpAny_load he₂ ?_)
  have hob : (Obj.mapFields (fun x => x.setIfInBounds 4 (Value.bool true)) (Obj.mapFields (fun x => x.setIfInBounds 3 Value.none) { cls := Value.type "TypeError", data := Data.fields #[Value.ref t, Value.none, Value.none, Value.none, Value.bool false, Value.none] })) = { cls := Value.type "TypeError", data := Data.fields #[Value.ref t, Value.none, Value.none, Value.none, Value.bool true, Value.none] } := rfl
  rw [hob] at he₂ ⊢
  dsimp only
  rw [if_pos (show 2 < (#[Value.ref t, Value.none, Value.none, Value.none, Value.bool true, Value.none] : Array Value).size from by simp)]
  refine wpAny_update he₂ (wpAny_throw ?_)
  have htt : t ≠ e := by
    rintro rfl
    rw [he] at ht; simp at ht
  refine hE _ _ e t tk (fun b o hb => ?_) hm.new htn (Heap.get?_update_self _ he₂ rfl) ?_
  · have hbe : b ≠ e := by
      rintro rfl
      have := hm.new
      rw [show hp.get? b = some o from hb] at this; cases this
    rw [Heap.get?_update_other _ _ (Ne.symm hbe), ho₂ b hbe]
    exact hm.keeps _ _ hb
  · refine ⟨{ cls := .type "tuple", data := .seq [Value.str m tk].toArray }, 0, ?_, rfl, rfl⟩
    rw [Heap.get?_update_other _ _ (Ne.symm htt), ho₂ t htt]
    exact ht
end
end Mine

namespace Mine
-- ## an exception that is handled while another is raised 
structure ExC (base : Heap) (l : List Env) (e : Addr) (cls : Value) (h : Heap) : Prop where
  stays : base.StaysIn h
  new : base.get? e = none
  fr : h.FunFrames base l
  ob : ∃ oe vs T oT ts, h.get? e = some oe ∧ oe.cls = cls ∧ oe.data = .fields vs ∧ vs[1]? = some (.ref T) ∧ vs[2]? = some .none ∧ base.get? T = none ∧ T ≠ e ∧ h.get? T = some oT ∧ oT.data = .fields ts ∧ 3 < ts.size
section
variable {M : Model} {A : Around} {E : Value → Shared → Prop} {s : Shared} {base : Heap}
theorem note_first {env : Env} {outer : List Env} {L e : Addr} {oe : Obj} {vs : Array Value} {Q : Unit → Shared → Prop} (hfr : A.frames = some (env :: outer)) (hf : env.frame = some L) (hkb : base.StaysIn s.heap) (hen : base.get? e = none) (hl : s.heap.FunFrames base (env :: outer))
    (he : s.heap.get? e = some oe) (hd : oe.data = .fields vs) (h1 : vs[1]? = some .none) (h2 : vs[2]? = some .none) (hQ : ∀ h', ExC base (env :: outer) e oe.cls h' → s.heap.UpToSlots h' → Q () { s with heap := h' }) : wpAny M A (noteFrame (.ref e) env) Q E s := by
  have hsz : 1 < vs.size := (Array.getElem?_eq_some_iff.mp h1).1
  have notin : e ∉ (env :: outer).filterMap (·.frame) := fun hm => by
    obtain ⟨_, o, ho, hnf⟩ := hl.mem hm
    rw [he] at ho; cases ho
    exact hnf vs hd
  unfold noteFrame
  simp only [hf]
  refine wpAny_bind (wpAny_field he hd h1 ?_)
  rw [if_neg (by decide)]
  refine wpAny_bind (wpAny_frameOf_fun hfr hl hf fun h₁ hs₁ => ?_)
  refine wpAny_bind (wpAny_entryPlaceOf fun pl hpl => ?_)
  unfold EntryCells.newEntry newFields
  refine wpAny_bind (wpAny_newObj_type ?_ (hpl.sizeOk5 _ _ _ _ _))
  have e1 : h₁.get? e = some oe := (hs₁.2.1 e notin).trans he
  refine wpAny_setField (Heap.get?_push_of_some _ e1) hd hsz (hQ _ ?_ ?_)
  all_goals generalize hfl : ([Value.none, Value.ref L, Value.none, rawInt L, Value.none] ++ (if pl.isEmpty then List.replicate 6 Value.none else pl)) = fl
  all_goals have hfl4 : 3 < fl.toArray.size := by rw [← hfl]; simp
  all_goals have hTe : h₁.objs.size ≠ e := Nat.ne_of_gt (Heap.lt_size e1)
  all_goals have st1 : base.StaysIn h₁ := fun b o hb => (hs₁.2.1 b fun hm => by rw [(hl.mem hm).1] at hb; cases hb).trans (hkb b o hb)
  all_goals have keep : ∀ b o, b ≠ e → h₁.get? b = some o → ((h₁.push { cls := .type "traceback", data := .fields fl.toArray }).update e (Obj.mapFields (·.setIfInBounds 1 (Value.ref h₁.objs.size)))).get? b = some o := fun b o hbe hb => (Heap.get?_update_other _ _ (Ne.symm hbe)).trans (Heap.get?_push_of_some _ hb)
  all_goals have norec : ∀ b o, s.heap.get? b = some o → (∀ vs, o.data ≠ .fields vs) → b ≠ e := fun b o hb hnf q => hnf vs ((Option.some.inj (he.symm.trans (q ▸ hb))) ▸ hd)
  · refine ⟨fun b o hb => keep b o (fun q => by rw [q, hen] at hb; cases hb) (st1 b o hb), hen, hl.of_keeps fun b o hb hnf => ?_, ?_⟩
    · obtain ⟨sl, hs⟩ := hs₁.2.2 b o hb
      exact ⟨_, keep b _ (norec b o hb hnf) hs, rfl⟩
    · have hd' := Obj.data_mapFields hd (·.setIfInBounds 1 (Value.ref h₁.objs.size))
      refine ⟨_, _, h₁.objs.size, _, _, Heap.get?_update_self _ (Heap.get?_push_of_some _ e1) (Obj.isFreed_of_fields hd'), Obj.cls_mapFields _ _, hd', by simp [hsz], ?_, st1.fresh, hTe, (Heap.get?_update_other _ _ (Ne.symm hTe)).trans (Heap.get?_push_size h₁ rfl), rfl, hfl4⟩
      rw [Array.getElem?_setIfInBounds_ne (by decide)]; exact h2
  · intro b o hb hnf
    obtain ⟨sl, hs⟩ := hs₁.2.2 b o hb
    exact ⟨sl, keep b _ (norec b o hb hnf) hs⟩
theorem flight_none {l : List Env} {e : Addr} {cls : Value} {Q : Unit → Shared → Prop} (x : ExC base l e cls s.heap) (hQ : ∀ h', ExC base l e cls h' → s.heap.UpToSlots h' → Q () { s with heap := h' }) : wpAny M A (setFlight (.ref e) none) Q E s := by
  obtain ⟨a1, a2, a3, oe, vs, T, oT, ts, he, hc, hd, h1, h2, hnT, hTe, hT, hdT, h3⟩ := x
  unfold setFlight
  refine wpAny_bind (wpAny_field he hd h1 ?_)
  rw [if_pos (show (Value.ref T != Value.none) = true from by simp)]
  have other : ∀ b, b ≠ T → (s.heap.update T (Obj.mapFields (·.setIfInBounds 3 ((none : Option Addr).elim Value.none fun f => rawInt f)))).get? b = s.heap.get? b := fun b hb => Heap.get?_update_other _ _ (Ne.symm hb)
  have norec : ∀ b o, s.heap.get? b = some o → (∀ vs, o.data ≠ .fields vs) → b ≠ T := fun b o hb hnf q => by
    rw [q, hT] at hb; cases hb; exact hnf ts hdT
  refine wpAny_setField hT hdT h3 (hQ _ ⟨fun b o hb => (other b fun q => by rw [q, hnT] at hb; cases hb).trans (a1 b o hb), a2, a3.of_keeps fun b o hb hnf => ⟨o, (other b (norec b o hb hnf)).trans hb, rfl⟩, ?_⟩ fun b o hb hnf => ⟨o.slots, (other b (norec b o hb hnf)).trans hb⟩)
  exact ⟨oe, vs, T, _, _, (other e (Ne.symm hTe)).trans he, hc, hd, h1, h2, hnT, hTe, Heap.get?_update_self _ hT (Obj.isFreed_of_fields (Obj.data_mapFields hdT _)), Obj.data_mapFields hdT _, by simpa using h3⟩
-- an exception that is held leaves its frame 
theorem leaves_held {env : Env} {outer : List Env} {L e : Addr} {cls a0 : Value} {Q : Unit → Shared → Prop} (hf : env.frame = some L) (hh : Heap.HeldW base (env :: outer) e cls a0 L s.heap)
    (hQ : ∀ h', Heap.FlyingW base outer e cls a0 h' → s.heap.UpToSlots h' → Q () { s with heap := h' }) : wpAny M A (leaving env (.ref e)) Q E s := by
  unfold leaving
  refine wpAny_bind (wpAny_noteFrame_againW hf hh.2.2.2 ?_)
  refine wpAny_landsW hh fun h' hfl sm => ?_
  obtain ⟨k1, k2, ⟨_, _, k3⟩, k4⟩ := hfl
  exact hQ h' ⟨k1, k2, k3, k4⟩ sm
end
theorem Tr.isSame {f : Fm} {O : List (Addr × List Dat)} {ρ : List (Str × Slot)} {l r : Expr} {pos : Pos} {b : Addr} (hl : EvS f O ρ l (.val (.ref b))) (hr : EvS f O ρ r (.val (.ref b))) (hm : behindInMarks .Is r = false := by with_unfolding_all rfl) : Tr f O ρ (.Compare l [.Is] [r] pos) true := by
  apply Tr.mk
  intro s Q E st k
  refine wpAny_isTrue_Compare1 (hl.run s _ _ st fun va s₁ m₁ h₁ => hr.run s₁ _ _ (st.mv m₁) fun vb s₂ m₂ h₂ => ?_) hm
  have h₁' : va = .ref b := h₁
  have h₂' : vb = .ref b := h₂
  subst h₁' h₂'
  unfold compareOp
  exact wpAny_bind (wpAny_isSame_ref_self (wpAny_pure (wpAny_truthy_bool (k _ (m₁.trans m₂)))))
end Mine

namespace Mine
-- a def is entered, and its body is seen whole 
theorem enter_defE {prog : Program} {w : World} {mg mb : Str → Option Value} {G : Heap} {lvl : Nat} {A : Around} {outer : List Env} {V : List Addr} {s : Shared} {fa : Addr} {o : Obj} {fd : FuncData} {body : List Stmt} {vs : List Value} {binds : List (Str × Value)} {ρ : List (Str × Slot)} {K : List (Addr × Obj)} {Q E : Value → Shared → Prop}
    (pre : Pre mg mb G lvl A outer V s) (hlvl : 1 ≤ lvl) (ho : G.get? fa = some o) (hdata : o.data = .func fd) (hcd : G.CodeRec fd.code fd.qualname) (hbody : fd.body = .stmts body) (hclo : fd.closure = []) (hgl : fd.globals = mainGlobals) (hbi : fd.builtins = builtinsNs)
    (hbind : BindsTo s fd ⟨vs, []⟩ binds) (hcell : ∀ x ∈ fd.scope.names, x.2 ≠ .cell) {ps : List Str} (hps : binds.map (·.1) = ps) (hlocA : ps.all (fun p => fd.scope.names.lookup p == some .local) = true) (hnd : ps.Nodup) (hvars : ∀ x sl, ρ.lookup x = some sl → ∃ v, (x, v) ∈ binds ∧ SlotIs V s.heap sl v)
    (hK : ∀ p ∈ K, s.heap.get? p.1 = some p.2 ∧ KeepOk p.2) (hco : fd.scope.isCoroutine = false) (hgen : fd.scope.isGenerator = false) (hk : fd.scope.kind = .function)
    (h : ∀ (L : Addr) (s₁ : Shared) (Q' : Flow → Shared → Prop), St { mkF prog w mg mb G A (envD fd.scope fd.code fd.qualname L fa) outer V s with K := K } [] ρ s₁ → wpAny (model prog w) (A.deeper (envD fd.scope fd.code fd.qualname L fa)) (execs body (envD fd.scope fd.code fd.qualname L fa)) Q'
      (fun e s' => wpAny (model prog w) (A.deeper (envD fd.scope fd.code fd.qualname L fa)) (leaving (envD fd.scope fd.code fd.qualname L fa) e) (fun _ s'' => E e s'') (fun e' s'' => E e' s'') s') s₁) : wpAny (model prog w) A (call (.ref fa) vs) Q E s := by
  have hloc : ∀ x ∈ binds, fd.scope.names.lookup x.1 = some .local := fun x hx => by
    have := List.all_eq_true.mp hlocA x.1 (hps ▸ List.mem_map.mpr ⟨x, hx, rfl⟩)
    simpa using this
  refine wpAny_call (codeAny_call_def (binds := binds) (by have := pre.dep; omega) (pre.bel.stays _ _ ho) hdata (pre.bas.lim.keeps pre.bel.stays) (hcd.keeps pre.bel.stays) hbody hbind hcell hloc (fun h₁ hns keep => ?_) hco hgen hk)
  have henv : callEnv fd s.heap.objs.size fa = envD fd.scope fd.code fd.qualname s.heap.objs.size fa := by
    unfold callEnv; rw [hgl, hbi, hclo]
  rw [henv]
  have ex := h s.heap.objs.size
  generalize hE : envD fd.scope fd.code fd.qualname s.heap.objs.size fa = env at ex ⊢
  have hlocA : env.locals = s.heap.objs.size := by rw [← hE]; rfl
  have hfr : env.frame = some s.heap.objs.size := by rw [← hE]; rfl
  have hsc : env.scope = fd.scope := by rw [← hE]; rfl
  have hcle : env.cells = [] := by rw [← hE]; rfl
  have hkk : ∀ x, env.kindOf x = fd.scope.names.lookup x := fun x => by show env.scope.names.lookup x = _; rw [hsc]
  have noG : G.get? s.heap.objs.size = none := pre.bel.stays.fresh
  obtain ⟨oL, es, ep, eL, dL, rL⟩ := id hns
  have mv1 : Mv G (outer.filterMap (·.frame)) s { s with heap := h₁, toks := s.toks + binds.length } := Mv.of_keep keep
  have st : St { mkF prog w mg mb G A env outer V s with K := K } [] ρ { s with heap := h₁, toks := s.toks + binds.length } := by
    refine { ok := ⟨pre.hh, by rw [hsc]; exact hk, by rw [← hE]; rfl, by rw [← hE]; rfl, pre.bas, pre.bel.stays, by rw [hlocA]; exact Nat.le_refl _, by rw [hcle]; exact .nil, (fun _ n c hc => by rw [hcle] at hc; cases hc), fun a ha => ?_⟩,
             bel := ⟨trivial, fun b o e => keep b o (pre.bel.stays b o e), ?_⟩, frm := mv1, loc := ⟨_, by rw [hlocA]; exact hns⟩, cel := fun n c hc => by rw [hcle] at hc; simp at hc, vars := fun x sl hx => ?_, own := fun p hp => (nomatch hp), nod := List.nodup_nil, fO := fun p hp => (nomatch hp),
             v0 := fun a ha => let ⟨o, e⟩ := pre.v0 a ha; ⟨o, keep a o e⟩, frD := fun a ha => ?_, kep := fun p hp => ⟨keep _ _ (hK p hp).1, (hK p hp).2, by simp⟩, dat := fun p hp => (nomatch hp), oV := fun p hp => (nomatch hp), tab := mv1.tabs pre.tab }
    · have : (env :: outer).filterMap (·.frame) = s.heap.objs.size :: outer.filterMap (·.frame) := by simp [hfr]
      rw [show ({ mkF prog w mg mb G A env outer V s with K := K } : Fm).W = (env :: outer).filterMap (·.frame) from rfl, this] at ha
      rcases List.mem_cons.mp ha with rfl | ha
      · exact .inr (Nat.le_refl _)
      · exact .inl ha
    · refine ⟨by rw [hsc, hk]; decide, ⟨s.heap.objs.size, oL, hfr, noG, eL, fun vs q => by rw [dL] at q; cases q⟩, pre.bel.frames.of_keeps fun b o e _ => ⟨o, keep b o e, rfl⟩⟩
    · obtain ⟨v, hm, hs⟩ := hvars x sl hx
      refine ⟨v, .inl ⟨by rw [hkk]; exact hloc _ hm, _, by rw [hlocA]; exact hns, ?_⟩, hs.keep mv1.dkeep⟩
      exact lookup_nodup (by rw [List.map_reverse, hps]; exact List.pairwise_reverse.mpr (hnd.imp fun h => h.symm)) (List.mem_reverse.mpr hm)
    · have : (env :: outer).filterMap (·.frame) = s.heap.objs.size :: outer.filterMap (·.frame) := by simp [hfr]
      rw [show ({ mkF prog w mg mb G A env outer V s with K := K } : Fm).W = (env :: outer).filterMap (·.frame) from rfl, this] at ha
      rcases List.mem_cons.mp ha with rfl | ha
      · exact ⟨oL, es, ep, eL, dL⟩
      · obtain ⟨o, es', ep', e, d'⟩ := pre.frD a ha
        exact ⟨o, es', ep', keep a o e, d'⟩
  exact ex _ _ st
theorem stop_exc : isSubtype (.type "StopIteration") (.type "BaseException") = pure true := owsi_raise.isExc
theorem stop_meta : isSubtype (.type ((Manifest.find? "StopIteration").elim "type" fun x => x.metatype)) (.type "tuple") = pure false := isSubtype_of_subB (by decide +kernel)
theorem type_exc : isSubtype (.type "TypeError") (.type "BaseException") = pure true := F.excRaise_TypeError.isExc
theorem type_meta : isSubtype (.type ((Manifest.find? "TypeError").elim "type" fun x => x.metatype)) (.type "tuple") = pure false := isSubtype_of_subB (by decide +kernel)
theorem type_self : isSubtype (.type "TypeError") (.type "TypeError") = pure true := isSubtype_of_subB (by decide +kernel)
section
variable {f : Fm} {ρ : List (Str × Slot)}
-- next at an empty list, caught, and another error raised 
theorem reduce_raises {outer : List Env} {x y nI nN nS nT m : Str} {seq test : Expr} {px ip np1 cp1 ap1 pos1 np2 ip2 cp2 py ap2 sp hp tp np3 mp cp3 np4 rp : Pos} {km kn : Nat} {els rest : List Stmt} {s : Shared} {Q : Flow → Shared → Prop} {E : Value → Shared → Prop}
    (st : St f [] ρ s) (hst : f.A.frames = some f.outer) (ho : f.outer = f.env :: outer) (hWc : f.Wc = outer.filterMap (·.frame)) (hfr : f.env.frame = some f.env.locals) (hf0 : FrD f.s₀.heap (outer.filterMap (·.frame)))
    (hk : Binds f x) (hxd : (x == ("__debug__" : Str)) = false) (hxc : (x == ("__classdict__" : Str)) = false) (hfi : EvS f [] ρ (.Name nI np1) (.val (.builtin "iter"))) (he : Ev f [] ρ seq (.list []))
    (ht : ∀ V K D I, Tr (withF f V K D) [] (put ρ x (.val (.ref I))) test true) (hfn : ∀ V K D I, EvS (withF f V K D) [] (put ρ x (.val (.ref I))) (.Name nN np2) (.val (.builtin "next")))
    (hkS : f.env.kindOf nS = some .globalImplicit) (hgS : f.mg nS = none) (hbS : bootBuiltins nS = some (.type "StopIteration")) (hnS : nS ≠ "__name__") (hdS : (nS == ("__debug__" : Str)) = false)
    (hkT : f.env.kindOf nT = some .globalImplicit) (hgT : f.mg nT = none) (hbT : bootBuiltins nT = some (.type "TypeError")) (hnT : nT ≠ "__name__") (hdT : (nT == ("__debug__" : Str)) = false)
    (hs : swapsWith (.Call (.Name nI np1) [seq] [] cp1) (some (.Name x px)) ap1.line f.env = pure false) (hs2 : swapsWith (.Call (.Name nN np2) [.Name x ip2] [] cp2) (some (.Name y py)) ap2.line f.env = pure false)
    (hns : starEach [seq] f.env = (false, eval seq f.env) :: starEach [] f.env) (hpl : (backTo cp1 (starEach [seq] f.env)).any (·.1) = false)
    (k : ∀ e s' u, Fly f.G outer f.s₀ e (.type "TypeError") [.str m u] s' → E (.ref e) s') :
    wpAny f.M f.A (execs (.Assign [.Name x px] (.Call (.Name nI np1) [seq] [] cp1) ap1 :: .If test [.Try [.Assign [.Name y py] (.Call (.Name nN np2) [.Name x ip2] [] cp2) ap2] [.ExceptHandler (some (.Name nS sp)) none [.Raise (some (.Call (.Name nT np3) [.Constant (.str m) km mp] [] cp3)) (some (.Constant .none kn np4)) rp] hp] [] [] tp] els pos1 :: rest) f.env) Q
      (fun e s' => wpAny f.M f.A (leaving f.env e) (fun _ s'' => E e s'') (fun e' s'' => E e' s'') s') s := by
  refine wpAny_execs_cons (wpAny_Assign_Name (wpAny_Call_NameR (hfi.run s _ _ st fun fv s₁ m₁ h₁ => ?_)) hs)
  have h₁' : fv = .builtin "iter" := h₁
  subst h₁'
  refine PySem.Calls.callWith_builtin hpl ?_
  rw [hns]
  refine PySem.Calls.evalArgs_plain (PySem.Calls.spliced_cons (he.run s₁ _ _ (st.mv m₁) fun v s₂ m₂ h₂ => PySem.Calls.spliced_nil ?_))
  have st2 := st.mv (m₁.trans m₂)
  cases h₂ with
  | list i1 n1 hl =>
  rename_i ax vs
  cases hl
  obtain ⟨nx, ex⟩ := i1
  refine iter_call (wpAny_pyIter_list (⟨_, ex, rfl, nx, rfl⟩ : s₂.heap.IsList ax ([] : List Value).toArray) ?_)
  obtain ⟨I, hI⟩ : ∃ I, s₂.heap.objs.size = I := ⟨_, rfl⟩
  let io : Obj := { cls := .type "list_iterator", data := .fields #[.ref ax, .int 0 0] }
  let s₃ : Shared := { s₂ with heap := s₂.heap.push io }
  have m₃ : Mv f.G f.W s₂ s₃ := .push _
  have st3 : St f [] ρ s₃ := st2.mv m₃
  have eI : s₃.heap.get? I = some io := by rw [← hI]; exact Heap.get?_push_size _ rfl
  have eax : s₃.heap.get? ax = some (lstO [] nx) := m₃.list ex
  have oldI : ∀ a o, s₂.heap.get? a = some o → a ≠ I := fun a o e q => by
    have := Heap.lt_size e
    rw [q, hI] at this; exact Nat.lt_irrefl _ this
  have hKo : ∀ p ∈ [(I, io), (ax, lstO [] nx)], s₃.heap.get? p.1 = some p.2 ∧ KeepOk p.2 ∧ p.1 ∉ ([] : List (Addr × List Dat)).map (·.1) := fun p hp => by
    rcases List.mem_cons.mp hp with rfl | hp
    · exact ⟨eI, keep_fields rfl rfl, by simp⟩
    · rw [List.mem_singleton.mp hp]
      exact ⟨eax, keep_seq rfl, by simp⟩
  have ent : St (withF f ([I] ++ f.V₀) ([(I, io), (ax, lstO [] nx)] ++ f.K) (([], []) :: f.D)) [] ρ s₃ :=
    st3.enter (wr := [I]) st2 m₃ (fun b hb => by rw [List.mem_singleton.mp hb, hI]; exact Nat.le_refl _) (fun a ha => by rw [List.mem_singleton.mp ha]; exact ⟨_, eI⟩) hKo .nil
  have lo0 : f.s₀.heap.objs.size ≤ I := by
    obtain ⟨mm, nn⟩ := st2.loc
    rw [← hI]
    exact Nat.le_trans st2.ok.fL (Nat.le_of_lt nn.lt)
  rw [hI]
  refine St.bind (f := withF f ([I] ++ f.V₀) ([(I, io), (ax, lstO [] nx)] ++ f.K) (([], []) :: f.D)) (sl := .val (.ref I)) ent hk (show SlotIs _ _ (.val _) _ from rfl) fun s₄ st4 => ?_
  show wpAny _ _ (execs (.If _ _ _ _ :: rest) f.env) _ _ s₄
  refine wpAny_execs_cons (wpAny_If ((ht ([I] ++ f.V₀) ([(I, io), (ax, lstO [] nx)] ++ f.K) (([], []) :: f.D) I).run s₄ _ _ st4 fun s₅ m₅ => ?_))
  have st5 := st4.mv m₅
  rw [if_pos rfl]
  refine wpAny_execs_cons (wpAny_Try_except (wpAny_execs_cons (wpAny_Assign_Name (wpAny_Call_NameR ((hfn ([I] ++ f.V₀) ([(I, io), (ax, lstO [] nx)] ++ f.K) (([], []) :: f.D) I).run s₅ _ _ st5 fun fv s₆ m₆ h₆ => ?_)) hs2)))
  have h₆' : fv = .builtin "next" := h₆
  subst h₆'
  have st6 := st5.mv m₆
  refine PySem.Calls.callWith_builtin (by rfl) ?_
  rw [show starEach [Expr.Name x ip2] f.env = (false, eval (.Name x ip2) f.env) :: starEach [] f.env from rfl]
  refine PySem.Calls.evalArgs_plain (PySem.Calls.spliced_cons ((EvS.name (f := withF f ([I] ++ f.V₀) ([(I, io), (ax, lstO [] nx)] ++ f.K) (([], []) :: f.D)) (put_same _ _ _) hxd hxc).run s₆ _ _ st6 fun v s₇ m₇ h₇ => PySem.Calls.spliced_nil ?_))
  have h₇' : v = .ref I := h₇
  subst h₇'
  have st7 := st6.mv m₇
  have kI := (st7.kep (I, io) (List.mem_append.mpr (.inl List.mem_cons_self))).1
  have kax := (st7.kep (ax, lstO [] nx) (List.mem_append.mpr (.inl (List.mem_cons_of_mem _ List.mem_cons_self)))).1
  refine next_end (l := ax) (i := 0) (items := ([] : List Value).toArray) st7.ok.hh ⟨io, kI, rfl, rfl⟩ ⟨_, kax, rfl, nx, rfl⟩ rfl fun h₁ h' e1 hs1 hi1 hm => ?_
  have stB : St (withF f f.V₀ f.K f.D) [] (put ρ x (.val (.ref I))) { s₇ with heap := h₁, toks := s₇.toks } := by
    refine St.foreign (f := f) (V' := f.V₀) (K' := f.K) (D' := f.D) (wr := [I]) st7 (fun b hb => by rw [List.mem_singleton.mp hb]; exact lo0) (fun b hb => List.mem_append.mpr (.inl hb)) (fun a ha => List.mem_append.mpr (.inr ha)) (fun a ha => ?_) (fun p hp => List.mem_cons_of_mem _ hp) (fun p hp => ?_) (fun b hb o e => ?_) fun b o hb e => hs1.extBut b o (fun q => hb (List.mem_singleton.mpr q)) e
    · obtain ⟨o, e⟩ := st2.v0 a ha
      obtain ⟨o', e'⟩ := st7.v0 a (List.mem_append.mpr (.inr ha))
      exact ⟨o', hs1.extBut _ _ (oldI a o e) e'⟩
    · obtain ⟨e, _, _⟩ := st2.kep p hp
      obtain ⟨e', b, c⟩ := st7.kep p (List.mem_append.mpr (.inr hp))
      exact ⟨hs1.extBut _ _ (oldI _ _ e) e', b, c⟩
    · rw [List.mem_singleton.mp hb, kI] at e; cases e; exact keep_fields rfl rfl
  have stB : St f [] (put ρ x (.val (.ref I))) { s₇ with heap := h₁ } := stB
  -- the heap below
  have hin : ∀ env ∈ f.outer, ∀ b, env.frame = some b → b ∈ f.W := fun env he b hb => List.mem_filterMap.mpr ⟨env, he, hb⟩
  have hW : f.W = f.env.locals :: outer.filterMap (·.frame) := by
    show f.outer.filterMap (·.frame) = _
    rw [ho, List.filterMap_cons, hfr]
  have old0 : ∀ b o, f.s₀.heap.get? b = some o → b ∉ outer.filterMap (·.frame) → ∃ o', (hideAll h₁ f.W).get? b = some o' := fun b o e1 hb => by
    obtain ⟨o', e2⟩ := stB.frm.there e1
    refine ⟨o', hideAll_get _ e2 ?_⟩
    rw [hW]
    intro h
    rcases List.mem_cons.mp h with h | h
    · have := Heap.lt_size e1
      rw [h] at this
      exact absurd this (Nat.not_lt.mpr st.ok.fL)
    · exact hb h
  have oldB : ∀ b o, h₁.get? b = some o → b ∉ f.W → ∃ o', (hideAll h₁ f.W).get? b = some o' := fun b o e hb => ⟨o, hideAll_get _ e hb⟩
  have m0 : Mv f.G (outer.filterMap (·.frame)) f.s₀ { s₇ with heap := h₁ } := by rw [← hWc]; exact stB.frm
  have nW : ∀ b o vs, h₁.get? b = some o → o.data = .fields vs → b ∉ f.W := fun b o vs e hd hb => by
    obtain ⟨o', es, ep, e', d⟩ := stB.frD b hb
    have e' : h₁.get? b = some o' := e'
    rw [e] at e'; cases e'; rw [hd] at d; cases d
  have tb : TabsIn f.G (hideAll h₁ f.W) := fun P hP => by
    obtain ⟨op, e, ok⟩ := stB.tab P hP
    refine ⟨op, hideAll_get _ e ?_, ok.up fun c o vs e1 x1 y1 => ⟨o, hideAll_get _ e1 (nW c o vs e1 y1), x1, y1⟩⟩
    obtain ⟨ps, rfl, _⟩ := ok
    exact nW P _ ps e rfl
  generalize hB : hideAll h₁ f.W = B at old0 oldB tb
  have BS : B.StaysIn h₁ := by rw [← hB]; exact fun b o q => of_hideAll _ q
  have hBW : ∀ b ∈ outer.filterMap (·.frame), B.get? b = none := fun b hb => by rw [← hB]; exact hideAll_none _ (by rw [hW]; exact List.mem_cons_of_mem _ hb)
  have Bnone : ∀ b, h₁.get? b = none → B.get? b = none := fun b hb => by
    cases q : B.get? b with
    | none => rfl
    | some o => have := BS b o q; rw [hb] at this; cases this
  have frB : h₁.FunFrames B (f.env :: outer) := by rw [← hB, ← ho]; exact funFrames_hide stB.bel.frames hin
  have stF : ∀ h' tk, B.StaysIn h' → h₁.UpToSlots h' → St f [] (put ρ x (.val (.ref I))) { s₇ with heap := h', toks := tk } := fun h' tk a b => stB.mv (Mv.fly (.refl _) stB.frD oldB BS a b tb tk)
  obtain ⟨t1, he1, ht1, _⟩ := hm.there
  have hstk : f.A.frames = some (f.env :: outer) := by rw [hst, ho]
  refine note_first (base := B) (s := { s₇ with heap := h' }) hstk hfr (fun b o e => hm.keeps b o (BS b o e)) (Bnone _ hm.new) (frB.of_keeps fun b o e _ => ⟨o, hm.keeps b o e, rfl⟩) he1 rfl rfl rfl fun h₂ x₂ sm₂ => ?_
  have sm2 : h₁.UpToSlots h₂ := (Heap.UpToSlots.of_keeps hm.keeps).trans sm₂
  refine flight_none (s := { s₇ with heap := h₂ }) x₂ fun h₃ x₃ sm₃ => ?_
  have sm3 := sm2.trans sm₃
  have st8 := stF h₃ s₇.toks x₃.stays sm3
  refine wpAny_handleBy_builtin (X := "StopIteration") (T := "StopIteration") (b := true) stop_exc stop_meta isSubtype_stop ?_
  refine PySem.Calls.Name_function_global st.ok.kind hkS (PySem.Calls.loadGlobal_builtin (mg := f.mg) (mb := f.mb) (by rw [st.ok.glob]; exact st.ok.bas.g.keeps st8.bel.stays) hgS (by rw [st.ok.bi]; exact st.ok.bas.b.keeps st8.bel.stays) (by rw [st.ok.bas.boot nS hnS]; exact hbS) ?_) hdS
  obtain ⟨oe3, _, _, _, _, he3, hc3, _⟩ := x₃.ob
  refine ⟨rfl, ⟨oe3, he3, hc3⟩, ?_⟩
  rw [if_pos rfl]
  refine flight_none (s := { s₇ with heap := h₃ }) x₃ fun h₄ x₄ sm₄ => ?_
  have sm4 := sm3.trans sm₄
  have st9 := stF h₄ s₇.toks x₄.stays sm4
  obtain ⟨oe4, vs4, T4, oT4, ts4, he4, hc4, hd4, _, h24, _⟩ := x₄.ob
  refine wpAny_execs_cons (raise_from (s := { s₇ with heap := h₄ }) (e1 := e1) rfl he4 hd4 h24 (fun Q' s' hq hsm => ?_) fun h₅ tk₅ e2 t2 u keep5 new5 newt he5 ht5 => ?_)
  · refine PySem.Calls.Name_function_global st.ok.kind hkT (PySem.Calls.loadGlobal_builtin (mg := f.mg) (mb := f.mb) (by rw [st.ok.glob, hsm]; exact st.ok.bas.g.keeps st9.bel.stays) hgT (by rw [st.ok.bi, hsm]; exact st.ok.bas.b.keeps st9.bel.stays) (by rw [st.ok.bas.boot nT hnT]; exact hbT) hq) hdT
  have B5 : B.StaysIn h₅ := fun b o e => keep5 b o (x₄.stays b o e)
  have Bn4 : ∀ b, h₄.get? b = none → B.get? b = none := fun b hb => by
    cases q : B.get? b with
    | none => rfl
    | some o => have := x₄.stays b o q; rw [hb] at this; cases this
  have sm5 : h₁.UpToSlots h₅ := sm4.trans (.of_keeps keep5)
  show wpAny _ _ (noteFrame (.ref e2) f.env) _ _ _
  refine looks_made (base := B) (s := { s₇ with heap := h₅, toks := tk₅ }) (a0 := .ref t2) hstk hfr B5 (Bn4 _ new5) (x₄.fr.of_keeps fun b o e _ => ⟨o, keep5 b o e, rfl⟩) he5 rfl rfl rfl fun h₆ held6 sm₆ => ?_
  refine came_back (s := { s₇ with heap := h₆, toks := tk₅ }) hfr held6 fun h₇ held7 sm₇ => ?_
  refine leaves_held (s := { s₇ with heap := h₇, toks := tk₅ }) hfr held7 fun h₈ fl8 sm₈ => ?_
  have sm58 : h₅.UpToSlots h₈ := (sm₆.trans sm₇).trans sm₈
  refine k e2 _ u ⟨?_, B, t2, old0, fl8, Bn4 _ newt, ht5.of_slots sm58, hBW, tb⟩
  exact Mv.fly (s' := { s₇ with heap := h₁ }) m0 hf0 old0 BS fl8.1 (sm5.trans sm58) tb tk₅
end
end Mine

namespace Mine
section
variable {f : Fm} {ρ : List (Str × Slot)}
-- the iterator of a list, told 
theorem list_itr {prog : Program} {w : World} {A : Around} {V : List Addr} {I ax : Addr} {vs : List Value} {es : List Dat} {tgt : Expr} (hh : A.handled = none) (hne : ax ≠ I) (hl : vs.length = es.length) (hw : ∀ b ∈ [I], b ∈ V) :
    Itr prog w A V (.ref I) tgt vs es es (fun i h => h.IsListIter I ax i ∧ h.IsList ax vs.toArray) [I, ax] [I] := by
  have W := Walks.list (prog := prog) (w := w) hh I ax hne vs.toArray
  have hlen : vs.toArray.size = es.length := by simp [hl]
  rw [hlen] at W
  refine Itr.of_walks W hw (fun i v d h hv hd hh => ?_) (fun i h hJ b hb o e => ?_) (fun i h hJ b hb => ?_) fun i v s Q E hJ hQ => letgo_list hJ.1 hQ
  · obtain ⟨d', hd', hx⟩ := hh.getV (k := i) (by simpa using hv)
    rw [hd] at hd'; cases hd'; exact hx
  · obtain ⟨⟨oi, ei, ci, di⟩, ⟨ol, el, _, n, dl⟩⟩ := hJ
    rcases List.mem_cons.mp hb with rfl | hb
    · rw [ei] at e; cases e; exact keep_fields di ci
    · have hb' := List.mem_singleton.mp hb; rw [hb', el] at e; cases e; exact keep_seq dl
  · obtain ⟨⟨oi, ei, _, di⟩, ⟨ol, el, _⟩⟩ := hJ
    rcases List.mem_cons.mp hb with rfl | hb
    · exact ⟨_, ei⟩
    · rw [List.mem_singleton.mp hb]; exact ⟨_, el⟩
set_option maxHeartbeats 1000000 in
-- an iterator is made and its first item is taken 
theorem Ex.iterNext {x y nI nN : Str} {seq test : Expr} {px np1 cp1 ap1 pos1 np2 ip2 cp2 py ap2 tp : Pos} {h0 : ExceptHandler} {hds : List ExceptHandler} {els rest : List Stmt} {d0 d : Dat} {ds : List Dat}
    (hk : Binds f x) (hky : Binds f y) (hxd : (x == ("__debug__" : Str)) = false) (hxc : (x == ("__classdict__" : Str)) = false) (hfi : EvS f [] ρ (.Name nI np1) (.val (.builtin "iter"))) (he : Ev f [] ρ seq (.list (d0 :: ds)))
    (ht : ∀ V K D I, Tr (withF f V K D) [] (put ρ x (.val (.ref I))) test true) (hfn : ∀ V K D I, EvS (withF f V K D) [] (put ρ x (.val (.ref I))) (.Name nN np2) (.val (.builtin "next")))
    (hs : swapsWith (.Call (.Name nI np1) [seq] [] cp1) (some (.Name x px)) ap1.line f.env = pure false) (hs2 : swapsWith (.Call (.Name nN np2) [.Name x ip2] [] cp2) (some (.Name y py)) ap2.line f.env = pure false)
    (hns : starEach [seq] f.env = (false, eval seq f.env) :: starEach [] f.env) (hpl : (backTo cp1 (starEach [seq] f.env)).any (·.1) = false)
    (h : ∀ I V K D, (∀ nm tp, Held f [] (.ref I) (.Name nm tp) (d0 :: ds) 1 V K D) → ExH f (withF f V K D) [] (put (put ρ x (.val (.ref I))) y (.dat d0)) rest (retIs d)) :
    Ex f [] ρ (.Assign [.Name x px] (.Call (.Name nI np1) [seq] [] cp1) ap1 :: .If test [.Try [.Assign [.Name y py] (.Call (.Name nN np2) [.Name x ip2] [] cp2) ap2] (h0 :: hds) [] [] tp] els pos1 :: rest) (retIs d) := by
  apply Ex.mk
  intro s E st
  refine wpAny_execs_cons (wpAny_Assign_Name (wpAny_Call_NameR (hfi.run s _ _ st fun fv s₁ m₁ h₁ => ?_)) hs)
  have h₁' : fv = .builtin "iter" := h₁
  subst h₁'
  refine PySem.Calls.callWith_builtin hpl ?_
  rw [hns]
  refine PySem.Calls.evalArgs_plain (PySem.Calls.spliced_cons (he.run s₁ _ _ (st.mv m₁) fun v s₂ m₂ h₂ => PySem.Calls.spliced_nil ?_))
  have st2 := st.mv (m₁.trans m₂)
  cases h₂ with
  | list i1 n1 hl =>
  rename_i ax vs
  have hlen := hl.length
  obtain ⟨nx, ex⟩ := id i1
  refine iter_call (wpAny_pyIter_list i1.isList ?_)
  obtain ⟨I, hI⟩ : ∃ I, s₂.heap.objs.size = I := ⟨_, rfl⟩
  let io : Obj := { cls := .type "list_iterator", data := .fields #[.ref ax, .int 0 0] }
  let s₃ : Shared := { s₂ with heap := s₂.heap.push io }
  have m₃ : Mv f.G f.W s₂ s₃ := .push _
  have st3 : St f [] ρ s₃ := st2.mv m₃
  have eI : s₃.heap.get? I = some io := by rw [← hI]; exact Heap.get?_push_size _ rfl
  have eax : s₃.heap.get? ax = some (lstO vs nx) := m₃.list ex
  have oldI : ∀ a o, s₂.heap.get? a = some o → a ≠ I := fun a o e q => by
    have := Heap.lt_size e
    rw [q, hI] at this; exact Nat.lt_irrefl _ this
  have hne : ax ≠ I := oldI _ _ ex
  have hKo : ∀ p ∈ [(I, io), (ax, lstO vs nx)], s₃.heap.get? p.1 = some p.2 ∧ KeepOk p.2 ∧ p.1 ∉ ([] : List (Addr × List Dat)).map (·.1) := fun p hp => by
    rcases List.mem_cons.mp hp with rfl | hp
    · exact ⟨eI, keep_fields rfl rfl, by simp⟩
    · rw [List.mem_singleton.mp hp]
      exact ⟨eax, keep_seq rfl, by simp⟩
  have ent : St (withF f ([I] ++ f.V₀) ([(I, io), (ax, lstO vs nx)] ++ f.K) ((vs, d0 :: ds) :: f.D)) [] ρ s₃ :=
    st3.enter (wr := [I]) st2 m₃ (fun b hb => by rw [List.mem_singleton.mp hb, hI]; exact Nat.le_refl _) (fun a ha => by rw [List.mem_singleton.mp ha]; exact ⟨_, eI⟩) hKo hl
  have lo0 : f.s₀.heap.objs.size ≤ I := by
    obtain ⟨mm, nn⟩ := st2.loc
    rw [← hI]
    exact Nat.le_trans st2.ok.fL (Nat.le_of_lt nn.lt)
  rw [hI]
  refine St.bind (f := withF f ([I] ++ f.V₀) ([(I, io), (ax, lstO vs nx)] ++ f.K) ((vs, d0 :: ds) :: f.D)) (sl := .val (.ref I)) ent hk (show SlotIs _ _ (.val _) _ from rfl) fun s₄ st4 => ?_
  show wpAny _ _ (execs (.If _ _ _ _ :: rest) f.env) _ _ s₄
  refine wpAny_execs_cons (wpAny_If ((ht ([I] ++ f.V₀) ([(I, io), (ax, lstO vs nx)] ++ f.K) ((vs, d0 :: ds) :: f.D) I).run s₄ _ _ st4 fun s₅ m₅ => ?_))
  have st5 := st4.mv m₅
  rw [if_pos rfl]
  refine wpAny_execs_cons (wpAny_Try_except (wpAny_execs_cons (wpAny_Assign_Name (wpAny_Call_NameR ((hfn ([I] ++ f.V₀) ([(I, io), (ax, lstO vs nx)] ++ f.K) ((vs, d0 :: ds) :: f.D) I).run s₅ _ _ st5 fun fv s₆ m₆ h₆ => ?_)) hs2)))
  have h₆' : fv = .builtin "next" := h₆
  subst h₆'
  have st6 := st5.mv m₆
  refine PySem.Calls.callWith_builtin (by rfl) ?_
  rw [show starEach [Expr.Name x ip2] f.env = (false, eval (.Name x ip2) f.env) :: starEach [] f.env from rfl]
  refine PySem.Calls.evalArgs_plain (PySem.Calls.spliced_cons ((EvS.name (f := withF f ([I] ++ f.V₀) ([(I, io), (ax, lstO vs nx)] ++ f.K) ((vs, d0 :: ds) :: f.D)) (put_same _ _ _) hxd hxc).run s₆ _ _ st6 fun v s₇ m₇ h₇ => PySem.Calls.spliced_nil ?_))
  have h₇' : v = .ref I := h₇
  subst h₇'
  have st7 := st6.mv m₇
  have kI := (st7.kep (I, io) (List.mem_append.mpr (.inl List.mem_cons_self))).1
  have kax := (st7.kep (ax, lstO vs nx) (List.mem_append.mpr (.inl (List.mem_cons_of_mem _ List.mem_cons_self)))).1
  have hvs : ∃ v0 vr, vs = v0 :: vr := by
    cases vs with
    | nil => simp at hlen
    | cons a r => exact ⟨a, r, rfl⟩
  obtain ⟨v0, vr, hv0⟩ := hvs
  refine next_item (l := ax) (i := 0) (items := vs.toArray) (x := v0) ⟨io, kI, rfl, rfl⟩ ⟨_, kax, rfl, nx, rfl⟩ (by rw [hv0]; rfl) fun h' hit' hs1 => ?_
  obtain ⟨oi, ei, ci, di⟩ := id hit'
  have eax' : h'.get? ax = some (lstO vs nx) := hs1.extBut _ _ hne kax
  have hlI : h'.IsList ax vs.toArray := ⟨_, eax', rfl, nx, rfl⟩
  let K1 : List (Addr × Obj) := objsAt h' [I, ax] ++ f.K
  have stB : St (withF f ([I] ++ f.V₀) K1 ((vs, d0 :: ds) :: f.D)) [] (put ρ x (.val (.ref I))) { s₇ with heap := h', toks := s₇.toks } := by
    refine St.foreign (f := f) (V' := [I] ++ f.V₀) (K' := K1) (D' := (vs, d0 :: ds) :: f.D) (wr := [I]) st7 (fun b hb => by rw [List.mem_singleton.mp hb]; exact lo0) (fun b hb => List.mem_append.mpr (.inl hb)) (fun a ha => ha) (fun a ha => ?_) (fun p hp => hp) (fun p hp => ?_) (fun b hb o e => ?_) fun b o hb e => hs1.extBut b o (fun q => hb (List.mem_singleton.mpr q)) e
    · rcases List.mem_append.mp ha with ha' | ha'
      · rw [List.mem_singleton.mp ha']; exact ⟨_, ei⟩
      · obtain ⟨o, e⟩ := st2.v0 a ha'
        obtain ⟨o', e'⟩ := st7.v0 a (List.mem_append.mpr (.inr ha'))
        exact ⟨o', hs1.extBut _ _ (oldI a o e) e'⟩
    · rcases List.mem_append.mp hp with hp | hp
      · obtain ⟨h1, h2⟩ := objsAt_mem hp
        refine ⟨h2, ?_, by simp⟩
        rcases List.mem_cons.mp h1 with q | q
        · rw [q, ei] at h2; cases h2; exact keep_fields di ci
        · rw [List.mem_singleton.mp q, eax'] at h2; rw [← Option.some.inj h2]; exact keep_seq rfl
      · obtain ⟨e, _, _⟩ := st2.kep p hp
        obtain ⟨e', b, c⟩ := st7.kep p (List.mem_append.mpr (.inr hp))
        exact ⟨hs1.extBut _ _ (oldI _ _ e) e', b, c⟩
    · rw [List.mem_singleton.mp hb, kI] at e; cases e; exact keep_fields rfl rfl
  have hv : Has ([] ++ ([I] ++ f.V₀)) h' v0 d0 := by
    have hdata := stB.dat (vs, d0 :: ds) List.mem_cons_self
    obtain ⟨d', hd', hx⟩ := hdata.getV (k := 0) (v := v0) (by rw [hv0]; rfl)
    cases hd'; exact hx
  have HH : ∀ nm tp, Held f [] (.ref I) (.Name nm tp) (d0 :: ds) 1 ([I] ++ f.V₀) K1 ((vs, d0 :: ds) :: f.D) := by
    intro nm tp
    refine ⟨vs, d0 :: ds, fun i h => h.IsListIter I ax i ∧ h.IsList ax vs.toArray, [I, ax], [I], h', rfl, rfl, rfl, fun V hw => list_itr st.ok.hh hne hlen hw, ⟨hit', hlI⟩, fun b hb => by rw [List.mem_singleton.mp hb]; exact lo0, fun b hb => by simp, fun p hp hw => ?_, fun a ha hw => ?_⟩
    · obtain ⟨e, _, _⟩ := st2.kep p hp
      exact oldI _ _ e (List.mem_singleton.mp hw)
    · obtain ⟨o, e⟩ := st2.v0 a ha
      exact oldI _ _ e (List.mem_singleton.mp hw)
  refine St.bind (f := withF f ([I] ++ f.V₀) K1 ((vs, d0 :: ds) :: f.D)) (sl := .dat d0) (s := { s₇ with heap := h' }) stB hky hv fun s₈ st8 => ?_
  refine wpAny_execs_nil ?_
  show wpAny f.M f.A (execs [] f.env) _ _ s₈
  refine wpAny_execs_nil ?_
  first | (show wpAny f.M f.A (execs [] f.env) _ _ s₈; exact wpAny_execs_nil (h I _ _ _ HH s₈ _ st8)) | (show wpAny f.M f.A (execs rest f.env) _ _ s₈; exact h I _ _ _ HH s₈ _ st8)
end
end Mine

namespace Mine
section
variable {f : Fm} {O : List (Addr × List Dat)} {ρ : List (Str × Slot)} {Φ : Ot → Prop}
theorem str_type_error {prog : Program} {w : World} {A : Around} {E : Value → Shared → Prop} {s : Shared} {e t0 : Addr} {m : Str} {tk : Tok} {Q : Value → Shared → Prop} (hu : A.units + 2 < cLine) (x : s.heap.ExcAt e "TypeError" (.ref t0)) (ht : s.heap.TupAt t0 [.str m tk]) (h : Q (.str m tk) s) :
    wpAny (model prog w) A (call (.type "str") [.ref e]) Q E s := P.str_of_exc_one F.excStr_TypeError hu x ht h
set_option maxHeartbeats 1000000 in
-- a built-in error is caught by its name, and its text is compared 
theorem ExS.tryBuilt {call els : Expr} {x n sN as r : Str} {outer : List Env} {xp rp rp2 hp tp sp np cp p1 p2 qp ip : Pos} {k1 k2 : Nat} (hx : EvX f O ρ call (.type "TypeError") as) (hst : f.A.frames = some f.outer) (ho : f.outer = f.env :: outer) (hfr : f.env.frame = some f.env.locals)
    (hkx : f.env.kindOf x = some .globalImplicit) (hgx : f.mg x = none) (hbx : bootBuiltins x = some (.type "TypeError")) (hkn : f.env.kindOf n = some .local) (hks : f.env.kindOf sN = some .globalImplicit) (hgs : f.mg sN = none) (hbs : bootBuiltins sN = some (.type "str")) (hu : f.A.units + 10 < cLine) (hΦ : Φ (.ret (.str r)))
    (hxd : (x == ("__debug__" : Str)) = false := by decide) (hxn : x ≠ "__name__" := by decide) (hsd : (sN == ("__debug__" : Str)) = false := by decide) (hsn : sN ≠ "__name__" := by decide) (hnd : (n == ("__debug__" : Str)) = false := by decide) :
    ExS f O ρ (.Try [.Return (some call) rp] [.ExceptHandler (some (.Name x xp)) (some n) [.Return (some (.IfExp (.Compare (.Call (.Name sN sp) [.Name n np] [] cp) [.Eq] [.Constant (.str as) k1 p1] qp) (.Constant (.str r) k2 p2) els ip)) rp2] hp] [] [] tp) Φ := by
  apply ExS.mk
  intro s E st
  refine wpAny_Try_except (wpAny_execs_cons (wpAny_Return_some (hx.run s _ _ st fun e s' t fly => ?_)))
  obtain ⟨mv, B, t0, old, hfl, hBt, htup, hBW, tb⟩ := fly
  have hfl' : Heap.FlyingW B (f.env :: outer) e (.type "TypeError") (.ref t0) s'.heap := ho ▸ hfl
  refine wpAny_looks_onW (by rw [hst, ho]) hfr hfl' fun h₄ held sm₄ => wpAny_landsW held fun h₅ fl5 sm₅ => ?_
  have stF : ∀ h' tk, B.StaysIn h' → s'.heap.UpToSlots h' → St f O ρ { s' with heap := h', toks := tk } := fun h' tk h1 h2 => st.mv (Mv.fly mv st.frD old hfl.1 h1 h2 tb tk)
  have st5 := stF h₅ s'.toks fl5.1 (sm₄.trans sm₅)
  refine wpAny_handleBy_builtin_as (X := "TypeError") (T := "TypeError") (b := true) type_exc type_meta type_self ?_
  refine PySem.Calls.Name_function_global st.ok.kind hkx (PySem.Calls.loadGlobal_builtin (mg := f.mg) (mb := f.mb) (by rw [st.ok.glob]; exact st.ok.bas.g.keeps st5.bel.stays) hgx (by rw [st.ok.bi]; exact st.ok.bas.b.keeps st5.bel.stays) (by rw [st.ok.bas.boot x hxn]; exact hbx) ?_) hxd
  obtain ⟨ob, hob, hobc⟩ := fl5.there
  refine ⟨rfl, ⟨ob, hob, hobc⟩, ?_⟩
  rw [if_pos rfl]
  refine lands_againW fl5 fun h₆ fl6 sm₆ => ?_
  have sm6 := (sm₄.trans sm₅).trans sm₆
  have st6 := stF h₆ s'.toks fl6.1 sm6
  obtain ⟨m6, hn6⟩ := st6.loc
  refine wpAny_storeName_local hkn hn6 (fun h7 hn7 hs7 => ?_) (by rw [st.ok.kind]; rfl)
  have st7 : St f O (put ρ n (.val (.ref e))) { s' with heap := h7, toks := s'.toks + 1 } := st6.storeL (x := n) (v := .ref e) (sl := .val (.ref e)) (tk := s'.toks + 1) hkn (show SlotIs _ _ (.val _) _ from rfl) hn6 hn7 hs7
  obtain ⟨oL, es, ep, eL, dL, _⟩ := id hn6
  obtain ⟨oe, ws, hoe, hoec, hoed, hoe0⟩ := fl6.first
  have hne : e ≠ f.env.locals := by
    rintro rfl
    rw [hoe] at eL; cases eL; rw [hoed] at dL; cases dL
  have hoe7 := hs7.extBut _ _ hne hoe
  have ht6 : h₆.TupAt t0 [.str as t] := htup.of_slots sm6
  have ht7 : h7.TupAt t0 [.str as t] := by
    obtain ⟨o, n0, a1, a2, a3⟩ := ht6
    refine ⟨o, n0, hs7.extBut _ _ ?_ a1, a2, a3⟩
    rintro rfl
    rw [a1] at eL; cases eL; rw [a3] at dL; cases dL
  let s7 : Shared := { s' with heap := h7, toks := s'.toks + 1 }
  have st7' : St f O (put ρ n (.val (.ref e))) s7 := st7
  refine wpAny_execs_cons (wpAny_Return_some (IfExp_ (wpAny_isTrue_Compare1 (wpAny_Call_NameR ?_) (by rfl))))
  refine PySem.Calls.Name_function_global st.ok.kind hks (PySem.Calls.loadGlobal_builtin (mg := f.mg) (mb := f.mb) (by rw [st.ok.glob]; exact st.ok.bas.g.keeps st7'.bel.stays) hgs (by rw [st.ok.bi]; exact st.ok.bas.b.keeps st7'.bel.stays) (by rw [st.ok.bas.boot sN hsn]; exact hbs) ?_) hsd
  rw [show starEach [Expr.Name n np] f.env = (false, eval (.Name n np) f.env) :: starEach [] f.env from rfl]
  refine PySem.callWith_type (by rfl) (PySem.Calls.evalArgs_plain (PySem.Calls.spliced_cons (wpAny_Name (wpAny_loadName_local (v := .ref e) st.ok.kind hkn hn7 (by simp) (PySem.Calls.spliced_nil ?_)) hnd)))
  show wpAny _ _ (PySem.call (.type "str") [.ref e]) _ _ s7
  refine str_type_error (s := s7) (A := f.A.mark (some (.ref e))) (show f.A.units + 2 < cLine by omega) ⟨oe, ws, hoe7, hoec, hoed, hoe0⟩ ht7 ?_
  refine PySem.Calls.Constant_str ?_
  refine eq_str (wpAny_truthy_bool ?_)
  rw [beq_self_eq_true, if_pos rfl]
  refine PySem.Calls.Constant_str ?_
  have st8 : St f O (put ρ n (.val (.ref e))) { s7 with toks := s7.toks + 1 + 1 } := st7'.mv (.toks _)
  obtain ⟨m9, hn8⟩ := st8.loc
  refine wpAny_nameGoes hkn hn8 (by rw [st.ok.kind]; rfl) fun h9 m10 hn9 hs9 => ?_
  refine ⟨.str r, hΦ, .str _ _, ?_⟩
  exact frm_at (tk := s7.toks + 1 + 1 + 1) st8.frm st.ok.fL hs9 (by obtain ⟨oL, es, ep, eL, dL, _⟩ := id hn8; exact ⟨oL, eL, fun vs h => by rw [dL] at h; cases h⟩)
end
end Mine

namespace Mine
section
variable {f : Fm} {O : List (Addr × List Dat)} {ρ : List (Str × Slot)}
-- a def is called with a lambda and a list 
theorem Ev.callLam2 {x : Str} {ra c P : Addr} {o : Obj} {fd : FuncData} {np pos lp : Pos} {params : Arguments} {body e2 : Expr} {scope : Scope} {cl : List (Str × Addr)} {ds : List Dat} {d : Dat} (hf : EvS f O ρ (.Name x np) (.val (.ref ra))) (ho : f.G.get? ra = some o) (hod : o.data = .func fd)
    (C : CodeIs f.G c P) (hc : f.env.code = .ref c) (B : BuiltM f.mg f.G) (hdef : defaultsOf params f.env = ([], [])) (hcl : closureFor scope f.env = pure cl) (h2 : Ev f O ρ e2 (.list ds))
    (hcall : ∀ (s₁ s : Shared) (fa : Addr) (v2 : Value) (qual : Str) (pm cdv ct : Value) (Q E : Value → Shared → Prop), St f O ρ s₁ → s₁.heap.get? fa = some (lamObj qual params body scope cl pm cdv ct) → CodeOk s₁.heap cdv → Mv f.G f.W s₁ s → St f O ρ s → Has (f.V O) s.heap v2 (.list ds) →
      (∀ v s', Mv f.G f.W s s' → Has (f.V O) s'.heap v d → Q v s') → wpAny f.M f.A (call (.ref ra) [.ref fa, v2]) Q E s)
    (hns : starEach [.Lambda params body scope lp, e2] f.env = [(false, eval (.Lambda params body scope lp) f.env), (false, eval e2 f.env)] := by rfl) : Ev f O ρ (.Call (.Name x np) [.Lambda params body scope lp, e2] [] pos) d := by
  apply Ev.mk
  intro s Q E st k
  refine wpAny_Call_NameR (hf.run s _ _ st fun fv s₁ m₁ h₁ => ?_)
  have h₁' : fv = .ref ra := h₁
  subst h₁'
  have st1 := st.mv m₁
  rw [hns]
  refine PySem.Calls.callWith_function (o := o) (fd := fd) (PySem.Calls.evalArgs_plain (PySem.Calls.spliced_cons (lam_make st1 C hc B hdef hcl fun fa s₂ qual pm cdv ct m₂ hfa hcd hfr => PySem.Calls.spliced_cons (h2.run s₂ _ _ (st1.mv m₂) fun v2 s₃ m₃ hq => PySem.Calls.spliced_nil ?_))))
  have st3 := st1.mv (m₂.trans m₃)
  refine ⟨⟨st3.bel.stays _ _ ho, hod⟩, ?_⟩
  exact hcall s₂ s₃ fa v2 qual pm cdv ct Q E (st1.mv m₂) hfa hcd m₃ st3 hq fun v s₅ m₅ h₅ => k v s₅ (m₁.trans (m₂.trans (m₃.trans m₅))) h₅
theorem EvX.callLam2 {x : Str} {ra c P : Addr} {o : Obj} {fd : FuncData} {np pos lp : Pos} {params : Arguments} {body e2 : Expr} {scope : Scope} {cl : List (Str × Addr)} {ds : List Dat} {cls : Value} {as : Str} (hf : EvS f O ρ (.Name x np) (.val (.ref ra))) (ho : f.G.get? ra = some o) (hod : o.data = .func fd)
    (C : CodeIs f.G c P) (hc : f.env.code = .ref c) (B : BuiltM f.mg f.G) (hdef : defaultsOf params f.env = ([], [])) (hcl : closureFor scope f.env = pure cl) (h2 : Ev f O ρ e2 (.list ds))
    (hcall : ∀ (s : Shared) (fa : Addr) (v2 : Value) (Q E : Value → Shared → Prop), St f O ρ s → Has (f.V O) s.heap v2 (.list ds) →
      (∀ e s' t, Fly f.G f.outer s e cls [.str as t] s' → E (.ref e) s') → wpAny f.M f.A (call (.ref ra) [.ref fa, v2]) Q E s)
    (hns : starEach [.Lambda params body scope lp, e2] f.env = [(false, eval (.Lambda params body scope lp) f.env), (false, eval e2 f.env)] := by rfl) : EvX f O ρ (.Call (.Name x np) [.Lambda params body scope lp, e2] [] pos) cls as := by
  unfold EvX
  intro s Q E st k
  refine wpAny_Call_NameR (hf.run s _ _ st fun fv s₁ m₁ h₁ => ?_)
  have h₁' : fv = .ref ra := h₁
  subst h₁'
  have st1 := st.mv m₁
  rw [hns]
  refine PySem.Calls.callWith_function (o := o) (fd := fd) (PySem.Calls.evalArgs_plain (PySem.Calls.spliced_cons (lam_make st1 C hc B hdef hcl fun fa s₂ qual pm cdv ct m₂ hfa hcd hfr => PySem.Calls.spliced_cons (h2.run s₂ _ _ (st1.mv m₂) fun v2 s₃ m₃ hq => PySem.Calls.spliced_nil ?_))))
  have st3 := st1.mv (m₂.trans m₃)
  refine ⟨⟨st3.bel.stays _ _ ho, hod⟩, ?_⟩
  refine hcall s₃ fa v2 Q E st3 hq fun e s' t fly => k e s' t ?_
  have mall := m₁.trans (m₂.trans m₃)
  obtain ⟨mv, B, t0, old, r⟩ := fly
  refine ⟨mall.trans mv, B, t0, fun b o e hb => ?_, r⟩
  obtain ⟨o', e'⟩ := mall.there e
  exact old b o' e' hb
end
end Mine

namespace Mine
-- ## a list made of a zip 
abbrev IsZipF (h : Heap) (z TI TO a : Addr) (f : Bool) : Prop :=
  h.get? z = some { cls := .type "zip", dict := none, data := .fields #[rawInt a, .bool f, .bool false, .ref TI, .ref TO], slots := #[] }
section
variable {prog : Program} {w : World} {A : Around} {E : Value → Shared → Prop} {s : Shared}
theorem zip_out {z TI TO i1 i2 l1 l2 a : Addr} {f : Bool} {oa : Obj} {Q : PySem.Fin → Shared → Prop} (D : ZipApart z TI TO i1 i2 l1 l2)
    (hz : IsZipF s.heap z TI TO a f) (hTI : IsPair s.heap TI (.ref i1) (.ref i2)) (ha : s.heap.get? a = some oa)
    (h : ∀ h', IsZipF h' z TI TO a true → Heap.SameBut z s.heap h' → wpAny (model prog w) A (Builtin.SmallTypes.nextOf (.ref i1)) (fun x s₁ => wpAny (model prog w) A (Builtin.SmallTypes.nextOf (.ref i2)) (fun y s₂ => wpAny (model prog w) A (newTuple [x, y]) (fun v s₃ => Q (.done (.ret v)) s₃) E s₂) E s₁) E { s with heap := h' }) :
    wpAny (model prog w) A (Builtin.«zip.__next__» ⟨[.ref z], []⟩) Q E s := by
  show wpAny _ _ (field (.ref z) 2 >>= _) _ _ _
  refine wpAny_bind (wpAny_field hz rfl (x := .bool false) rfl ?_)
  show wpAny _ _ (field (.ref z) 3 >>= _) _ _ _
  refine wpAny_bind (wpAny_field hz rfl (x := .ref TI) rfl ?_)
  refine wpAny_bind (wpAny_seqItems hTI rfl ?_)
  show wpAny _ _ (Builtin.SmallTypes.ownedTupleIsFree (.ref z) >>= _) _ _ _
  refine wpAny_bind ?_
  unfold Builtin.SmallTypes.ownedTupleIsFree
  refine wpAny_bind (wpAny_field hz rfl (x := rawInt a) rfl ?_)
  show wpAny _ _ (loadIfAlive ((a : Int).toNat) >>= _) _ _ _
  rw [Int.toNat_natCast]
  refine wpAny_bind (kdx_alive ha ?_)
  simp only [Option.isNone_some, Bool.false_eq_true, if_false]
  refine wpAny_bind (wpAny_field hz rfl (x := .bool f) rfl ?_)
  rcases f with _ | _
  · rw [if_pos (show (Value.bool false != Value.bool true) = true from rfl)]
    refine wpAny_bind (wpAny_setField_rec hz (by simp) fun h₃ he₃ hs₃ => ?_)
    refine wpAny_pure ?_
    simp only [Bool.false_eq_true, if_false]
    have r := h h₃ he₃ hs₃
    simp only [List.forIn_toArray, List.forIn_cons, List.forIn_nil]
    refine wpAny_bind (wpAny_bind (wpAny_bind (wpAny_holding (wpAny_bind (wpAny_mono r (fun x s₁ r => wpAny_pure (wpAny_pure ?_)) fun _ _ x => x)))))
    refine wpAny_bind (wpAny_bind (wpAny_holding (wpAny_bind (wpAny_mono r (fun y s₂ r => wpAny_pure (wpAny_pure (wpAny_pure ?_))) fun _ _ x => x))))
    exact wpAny_bind (wpAny_mono r (fun v s₃ r => wpAny_pure r) fun _ _ x => x)
  · rw [if_neg (show ¬ ((Value.bool true != Value.bool true) = true) from Bool.false_ne_true)]
    have r := h s.heap hz (Heap.SameBut.refl _ _)
    refine wpAny_pure ?_
    simp only [Bool.false_eq_true, if_false]
    simp only [List.forIn_toArray, List.forIn_cons, List.forIn_nil]
    refine wpAny_bind (wpAny_bind (wpAny_bind (wpAny_holding (wpAny_bind (wpAny_mono r (fun x s₁ r => wpAny_pure (wpAny_pure ?_)) fun _ _ x => x)))))
    refine wpAny_bind (wpAny_bind (wpAny_holding (wpAny_bind (wpAny_mono r (fun y s₂ r => wpAny_pure (wpAny_pure (wpAny_pure ?_))) fun _ _ x => x))))
    exact wpAny_bind (wpAny_mono r (fun v s₃ r => wpAny_pure r) fun _ _ x => x)
structure ZSt (z TI TO i1 i2 l1 l2 : Addr) (xs ys : Array Value) (k : Nat) (h : Heap) : Prop where
  zs : IsZip h z TI TO .none ∨ ∃ a f oa, IsZipF h z TI TO a f ∧ h.get? a = some oa ∧ a ≠ z ∧ a ≠ i1 ∧ a ≠ i2 ∧ a ≠ TO
  ti : IsPair h TI (.ref i1) (.ref i2)
  to : ∃ a b, IsPair h TO a b
  p1 : h.IsListIter i1 l1 k
  p2 : h.IsListIter i2 l2 k
  e1 : h.IsList l1 xs
  e2 : h.IsList l2 ys
theorem ZSt.item {z TI TO i1 i2 l1 l2 : Addr} {k : Nat} {xs ys : Array Value} {x y : Value} {Q : Option Value → Shared → Prop} (D : ZipApart z TI TO i1 i2 l1 l2) (Z : ZSt z TI TO i1 i2 l1 l2 xs ys k s.heap) (hx : xs[k]? = some x) (hy : ys[k]? = some y)
    (hQ : ∀ h', ZSt z TI TO i1 i2 l1 l2 xs ys (k + 1) h' → IsPair h' s.heap.objs.size x y → (∀ c o, c ≠ z → c ≠ TO → c ≠ i1 → c ≠ i2 → s.heap.get? c = some o → h'.get? c = some o) → s.heap.objs.size < h'.objs.size → Q (some (.ref s.heap.objs.size)) { s with heap := h' }) :
    wpAny (model prog w) A (pyNext (.ref z)) Q E s := by
  obtain ⟨zs, hTI, ⟨a0, b0, hTO⟩, h1, h2, hl1, hl2⟩ := Z
  have lt : ∀ {c o}, s.heap.get? c = some o → s.heap.objs.size ≠ c := fun e => Nat.ne_of_gt (Heap.lt_size e)
  have n1 : s.heap.objs.size ≠ i1 := by obtain ⟨_, e, _⟩ := h1; exact lt e
  have n2 : s.heap.objs.size ≠ i2 := by obtain ⟨_, e, _⟩ := h2; exact lt e
  rcases zs with hz | ⟨a, f, oa, hz, ha, az, ai1, ai2, aTO⟩
  · refine wpAny_pyNext_zip_item D hz hTI hTO h1 h2 hl1 hl2 hx hy fun h' a1 a2 a3 a4 a5 a6 hk => ?_
    refine hQ h' ⟨.inr ⟨_, false, _, a1, a5, lt hz, n1, n2, lt hTO⟩, hk _ _ D.TIz D.TITO D.TIi1 D.TIi2 hTI, ⟨_, _, a2⟩, a3, a4, hl1.at fun o e => hk _ o D.l1z D.l1TO D.l1i1 D.l1i2 e, hl2.at fun o e => hk _ o D.l2z D.l2TO D.l2i1 D.l2i2 e⟩ a5 hk (by rw [a6]; exact Nat.lt_succ_self _)
  · have hT : s.TypeIs (.ref z) "zip" := ⟨_, hz, rfl⟩
    unfold pyNext
    refine wpAny_bind (wpAny_attempt (wpAny_callSpecial?_slot (name := Str.ofString "__next__") hT F.slot_zip_next
      (wpAny_call_entry F.slot_zip_next hT F.entry_zip_next (zip_out D hz hTI ha fun h₁ hz₁ hs₁ => ?_) (F.args_zip_next_1 _))))
    refine wpAny_nextOf_list_item (h1.extBut hs₁.extBut D.i1z) (hl1.extBut hs₁.extBut D.l1z) hx fun h₂ h1₂ hs₂ => ?_
    refine wpAny_nextOf_list_item ((h2.extBut hs₁.extBut D.i2z).extBut hs₂.extBut D.i12.symm) ((hl2.extBut hs₁.extBut D.l2z).extBut hs₂.extBut D.l2i1) hy fun h₃ h2₃ hs₃ => ?_
    refine wpAny_newTuple ?_
    have hsz : h₃.objs.size = s.heap.objs.size := by rw [hs₃.1, hs₂.1, hs₁.1]
    have hk₃ : ∀ c o, c ≠ z → c ≠ i1 → c ≠ i2 → s.heap.get? c = some o → h₃.get? c = some o := fun c o c1 c3 c4 e => hs₃.extBut _ _ c4 (hs₂.extBut _ _ c3 (hs₁.extBut _ _ c1 e))
    have hz₃ : IsZipF h₃ z TI TO a true := hs₃.extBut _ _ D.i2z.symm (hs₂.extBut _ _ D.i1z.symm hz₁)
    have h1₃ : h₃.IsListIter i1 l1 (k + 1) := h1₂.extBut hs₃.extBut D.i12
    have up : ∀ c o, h₃.get? c = some o → (h₃.push { cls := .type "tuple", data := .seq #[x, y] }).get? c = some o := fun c o e => Heap.get?_push_of_some _ e
    refine ⟨_, rfl, wpAny_pure ?_⟩
    show Q (some (.ref h₃.objs.size)) { s with heap := h₃.push { cls := .type "tuple", data := .seq #[x, y] } }
    have hp : IsPair (h₃.push { cls := .type "tuple", data := .seq #[x, y] }) h₃.objs.size x y := Heap.get?_push_size _ rfl
    rw [hsz] at hp ⊢
    refine hQ _ ⟨.inr ⟨a, true, oa, up _ _ hz₃, up _ _ (hk₃ _ _ az ai1 ai2 ha), az, ai1, ai2, aTO⟩, up _ _ (hk₃ _ _ D.TIz D.TIi1 D.TIi2 hTI), ⟨a0, b0, up _ _ (hk₃ _ _ D.TOz D.TOi1 D.TOi2 hTO)⟩, h1₃.at fun o e => up _ o e, h2₃.at fun o e => up _ o e, hl1.at fun o e => up _ _ (hk₃ _ o D.l1z D.l1i1 D.l1i2 e), hl2.at fun o e => up _ _ (hk₃ _ o D.l2z D.l2i1 D.l2i2 e)⟩ hp
      (fun c o c1 _ c3 c4 e => up _ _ (hk₃ c o c1 c3 c4 e)) ?_
    rw [Heap.size_push, hsz]; exact Nat.lt_succ_self _
theorem ZSt.done {z TI TO i1 i2 l1 l2 : Addr} {k : Nat} {xs ys : Array Value} {Q : Option Value → Shared → Prop} (hh : A.handled = none) (D : ZipApart z TI TO i1 i2 l1 l2) (Z : ZSt z TI TO i1 i2 l1 l2 xs ys k s.heap) (hend : xs[k]? = none ∨ ys[k]? = none)
    (hQ : ∀ h', (∀ c o, c ≠ z → c ≠ TO → c ≠ i1 → c ≠ i2 → s.heap.get? c = some o → h'.get? c = some o) → Q none { s with heap := h' }) :
    wpAny (model prog w) A (pyNext (.ref z)) Q E s := by
  obtain ⟨zs, hTI, ⟨a0, b0, hTO⟩, h1, h2, hl1, hl2⟩ := Z
  rcases zs with hz | ⟨a, f, oa, hz, ha, az, ai1, ai2, aTO⟩
  · exact wpAny_pyNext_zip_end hh D hz hTI hTO h1 h2 hl1 hl2 hend hQ
  · have hT : s.TypeIs (.ref z) "zip" := ⟨_, hz, rfl⟩
    unfold pyNext
    refine wpAny_bind (wpAny_attempt (wpAny_callSpecial?_slot (name := Str.ofString "__next__") hT F.slot_zip_next
      (wpAny_call_entry F.slot_zip_next hT F.entry_zip_next (zip_out D hz hTI ha fun h₁ hz₁ hs₁ => ?_) (F.args_zip_next_1 _))))
    have fin : ∀ h' e, (∀ c o, c ≠ z → c ≠ TO → c ≠ i1 → c ≠ i2 → s.heap.get? c = some o → h'.get? c = some o) → (∃ o, h'.get? e = some o ∧ o.cls = .type "StopIteration") →
        wpAny (model prog w) A (do if ← isInstance (.ref e) (.type "StopIteration") then pure none else throw (.ref e)) Q E { s with heap := h' } := by
      rintro h' e hk ⟨o, ho, hc⟩
      refine wpAny_bind (wpAny_isInstance (T := "StopIteration") (b := true) ⟨o, ho, hc⟩ isSubtype_stop ?_)
      exact wpAny_pure (hQ _ hk)
    cases hx : xs[k]? with
    | none =>
      refine wpAny_nextOf_list_end (show A.in1.handled = none from hh) (h1.extBut hs₁.extBut D.i1z) (hl1.extBut hs₁.extBut D.l1z) hx fun h₂ e hs₂ he => ?_
      exact fin h₂ e (fun c o c1 _ c3 _ x => hs₂ _ _ c3 (hs₁.extBut _ _ c1 x)) he
    | some x =>
      have hy : ys[k]? = none := by rcases hend with h | h; rw [hx] at h; cases h; exact h
      refine wpAny_nextOf_list_item (h1.extBut hs₁.extBut D.i1z) (hl1.extBut hs₁.extBut D.l1z) hx fun h₂ h1₂ hs₂ => ?_
      refine wpAny_nextOf_list_end (show A.in1.handled = none from hh) ((h2.extBut hs₁.extBut D.i2z).extBut hs₂.extBut D.i12.symm) ((hl2.extBut hs₁.extBut D.l2z).extBut hs₂.extBut D.l2i1) hy fun h₃ e hs₃ he => ?_
      exact fin h₃ e (fun c o c1 _ c3 c4 x => hs₃ _ _ c4 (hs₂.extBut _ _ c3 (hs₁.extBut _ _ c1 x))) he
end
end Mine

namespace Mine
theorem zip_no_len : typeLookup (.type "zip") "__len__" = pure none := by rw [typeLookup_type, builtinLookup_eq_fast]; kernel_rfl
theorem zip_no_hint : typeLookup (.type "zip") "__length_hint__" = pure none := by rw [typeLookup_type, builtinLookup_eq_fast]; kernel_rfl
section
variable {prog : Program} {w : World} {A : Around} {E : Value → Shared → Prop} {s : Shared} {R : Result → Shared → Prop} {z TI TO i1 i2 l1 l2 S : Addr} {xs ys : Array Value}
def PairsOf (lo S z TO i1 i2 : Addr) (xs ys : Array Value) (acc : Array Value) (i : Nat) (h : Heap) : Prop :=
  acc.size = i ∧ ∀ (j : Nat) (v : Value), acc[j]? = some v → ∃ (T : Addr) (x y : Value), v = .ref T ∧ lo ≤ T ∧ T ≠ S ∧ T ≠ z ∧ T ≠ TO ∧ T ≠ i1 ∧ T ≠ i2 ∧ IsPair h T x y ∧ xs[j]? = some x ∧ ys[j]? = some y
theorem ZSt.up {k : Nat} {h h' : Heap} (Z : ZSt z TI TO i1 i2 l1 l2 xs ys k h) (hS : S ∉ [z, TI, TO, i1, i2, l1, l2]) (e : ∀ c o, c ≠ S → h.get? c = some o → h'.get? c = some o) (eS : ∃ o, h'.get? S = some o) : ZSt z TI TO i1 i2 l1 l2 xs ys k h' := by
  simp only [List.mem_cons, List.not_mem_nil, or_false, not_or] at hS
  obtain ⟨s1, s2, s3, s4, s5, s6, s7⟩ := hS
  obtain ⟨zs, hTI, ⟨a0, b0, hTO⟩, h1, h2, hl1, hl2⟩ := Z
  refine ⟨?_, e _ _ (Ne.symm s2) hTI, ⟨a0, b0, e _ _ (Ne.symm s3) hTO⟩, h1.at fun o q => e _ _ (Ne.symm s4) q, h2.at fun o q => e _ _ (Ne.symm s5) q, hl1.at fun o q => e _ _ (Ne.symm s6) q, hl2.at fun o q => e _ _ (Ne.symm s7) q⟩
  rcases zs with hz | ⟨a, f, oa, hz, ha, r⟩
  · exact .inl (e _ _ (Ne.symm s1) hz)
  · by_cases haS : a = S
    · obtain ⟨o, eo⟩ := eS
      exact .inr ⟨a, f, o, e _ _ (Ne.symm s1) hz, haS ▸ eo, r⟩
    · exact .inr ⟨a, f, oa, e _ _ (Ne.symm s1) hz, e _ _ haS ha, r⟩
theorem zip_loop (hh : A.handled = none) (D : ZipApart z TI TO i1 i2 l1 l2) (hS : S ∉ [z, TI, TO, i1, i2, l1, l2]) {n lo : Nat} (hn : n = min xs.size ys.size) (hsz : n ≤ sizeLine) (res : Value) :
    ∀ (m i : Nat) (s : Shared) (acc : Array Value) (c : Nat), n - i = m → i ≤ n → lo ≤ s.heap.objs.size → ZSt z TI TO i1 i2 l1 l2 xs ys i s.heap → s.heap.get? S = some { cls := .type "list", dict := none, data := .seq acc c, slots := #[] } → PairsOf lo S z TO i1 i2 xs ys acc i s.heap →
    (∀ h' acc' c', (∀ b o, b ∉ [S, z, TO, i1, i2] → s.heap.get? b = some o → h'.get? b = some o) → h'.get? S = some { cls := .type "list", dict := none, data := .seq acc' c', slots := #[] } → PairsOf lo S z TO i1 i2 xs ys acc' n h' → R (.ok (.ret res)) { s with heap := h' }) →
    codeAny (model prog w) A (.builtin "list.extend.loop" ⟨[.ref S, .ref z, res], []⟩) R s := by
  have hS' := hS
  simp only [List.mem_cons, List.not_mem_nil, or_false, not_or] at hS'
  obtain ⟨s1, s2, s3, s4, s5, s6, s7⟩ := hS'
  intro m
  induction m with
  | zero =>
    intro i s acc c hk hi hlo Z hSo hacc hR
    have hin : i = n := by omega
    subst hin
    refine codeAny_builtin PySem.F.entry_extend_loop ?_
    rw [Around.under_plainId PySem.F.plain_extend_loop _]
    show wpAny _ A.in1 (pyNext (.ref z) >>= _) _ _ s
    have hend : xs[i]? = none ∨ ys[i]? = none := by
      rw [hn]
      rcases Nat.le_total xs.size ys.size with h | h
      · exact .inl (by rw [Nat.min_eq_left h]; exact Array.getElem?_eq_none (Nat.le_refl _))
      · exact .inr (by rw [Nat.min_eq_right h]; exact Array.getElem?_eq_none (Nat.le_refl _))
    refine wpAny_bind (ZSt.done (show A.in1.handled = none from hh) D Z hend fun h' hk' => ?_)
    refine wpAny_pure (hR h' acc c (fun b o hb e => ?_) (hk' _ _ s1 s3 s4 s5 hSo) ⟨hacc.1, fun j v hj => ?_⟩)
    · simp only [List.mem_cons, List.not_mem_nil, or_false, not_or] at hb
      exact hk' b o hb.2.1 hb.2.2.1 hb.2.2.2.1 hb.2.2.2.2 e
    · obtain ⟨T, x, y, q1, q2, q3, q4, q5, q6, q7, q8, q9⟩ := hacc.2 j v hj
      exact ⟨T, x, y, q1, q2, q3, q4, q5, q6, q7, hk' _ _ q4 q5 q6 q7 q8, q9⟩
  | succ m ih =>
    intro i s acc c hk hi hlo Z hSo hacc hR
    have hlt : i < n := by omega
    have hix : i < xs.size := by omega
    have hiy : i < ys.size := by omega
    refine codeAny_builtin PySem.F.entry_extend_loop ?_
    rw [Around.under_plainId PySem.F.plain_extend_loop _]
    show wpAny _ A.in1 (pyNext (.ref z) >>= _) _ _ s
    refine wpAny_bind (ZSt.item D Z (Array.getElem?_eq_getElem hix) (Array.getElem?_eq_getElem hiy) fun h' Z' hp hk' hlt' => ?_)
    have hS₁ : h'.get? S = some { cls := .type "list", dict := none, data := .seq acc c, slots := #[] } := hk' _ _ s1 s3 s4 s5 hSo
    have lt : ∀ {c o}, s.heap.get? c = some o → s.heap.objs.size ≠ c := fun e => Nat.ne_of_gt (Heap.lt_size e)
    have zlt : ∃ o, s.heap.get? z = some o := by rcases Z.zs with q | ⟨_, _, _, q, _⟩ <;> exact ⟨_, q⟩
    obtain ⟨oz, ez⟩ := zlt
    obtain ⟨a0, b0, hTO⟩ := Z.to
    have n1 : s.heap.objs.size ≠ i1 := by obtain ⟨_, e, _⟩ := Z.p1; exact lt e
    have n2 : s.heap.objs.size ≠ i2 := by obtain ⟨_, e, _⟩ := Z.p2; exact lt e
    show wpAny _ A.in1 (updateSeq S (·.push (.ref s.heap.objs.size)) >>= _) _ _ _
    refine wpAny_bind ?_
    refine wpAny_updateSeq hS₁ rfl (wpAny_pure ⟨plainId_quiet PySem.F.plain_extend_loop _, ih (i + 1) _ (acc.push (.ref s.heap.objs.size)) _ (by omega) hlt ?_ (Z'.up hS (fun c o hc e => (Heap.get?_update_other _ _ (Ne.symm hc)).trans e) ⟨_, Heap.get?_update_self _ hS₁ rfl⟩) (Heap.get?_update_self _ hS₁ rfl) ⟨by rw [Array.size_push, hacc.1], fun j v hj => ?_⟩ fun h'' acc' c' hk'' hS'' hacc' => ?_⟩)
      (by rw [hacc.1]; omega) (by show (acc.push _).size ≤ sizeLine + 1; rw [Array.size_push, hacc.1]; omega)
    · show lo ≤ (h'.update S _).objs.size
      rw [Heap.size_update]; omega
    · rw [Array.getElem?_push] at hj
      split at hj
      · rename_i e
        rw [hacc.1] at e; cases hj
        subst e
        exact ⟨_, _, _, rfl, hlo, lt hSo, lt ez, lt hTO, n1, n2, (Heap.get?_update_other _ _ (lt hSo).symm).trans hp, Array.getElem?_eq_getElem hix, Array.getElem?_eq_getElem hiy⟩
      · obtain ⟨T, x, y, q1, q2, q3, q4, q5, q6, q7, q8, q9⟩ := hacc.2 j v hj
        exact ⟨T, x, y, q1, q2, q3, q4, q5, q6, q7, (Heap.get?_update_other _ _ (Ne.symm q3)).trans (hk' _ _ q4 q5 q6 q7 q8), q9⟩
    · refine hR h'' acc' c' (fun b o hb e => ?_) hS'' hacc'
      refine hk'' b o hb ?_
      simp only [List.mem_cons, List.not_mem_nil, or_false, not_or] at hb
      exact (Heap.get?_update_other _ _ (Ne.symm hb.1)).trans (hk' b o hb.2.1 hb.2.2.1 hb.2.2.2.1 hb.2.2.2.2 e)
end
section
variable {prog : Program} {w : World} {A : Around} {E : Value → Shared → Prop} {s : Shared} {R : Result → Shared → Prop} {z TI TO i1 i2 l1 l2 S : Addr} {xs ys : Array Value}
theorem zip_extend (hh : A.handled = none) (D : ZipApart z TI TO i1 i2 l1 l2) (hS : S ∉ [z, TI, TO, i1, i2, l1, l2]) {n lo c₀ : Nat} (hn : n = min xs.size ys.size) (hsz : n ≤ sizeLine) (res : Value) (hlo : lo ≤ s.heap.objs.size) (Z : ZSt z TI TO i1 i2 l1 l2 xs ys 0 s.heap) (hz : IsZip s.heap z TI TO .none)
    (hSo : s.heap.get? S = some { cls := .type "list", data := .seq #[] c₀ })
    (hR : ∀ h' acc' c', (∀ b o, b ∉ [S, z, TO, i1, i2] → s.heap.get? b = some o → h'.get? b = some o) → h'.get? S = some { cls := .type "list", dict := none, data := .seq acc' c', slots := #[] } → PairsOf lo S z TO i1 i2 xs ys acc' n h' → R (.ok (.ret res)) { s with heap := h' }) :
    wpAny (model prog w) A.in1 (Builtin.List.listExtendWith (.ref S) (.ref z) res)
      (fun fin s' => match fin with | .done f => R (.ok f) s' | .again c' => c'.quiet = true ∧ codeAny (model prog w) A c' R s') (fun e s' => R (.error e) s') s := by
  have hSI : S ≠ z := fun e => hS (by simp [e])
  have hT : ∀ h : Heap, IsZip h z TI TO .none → Shared.TypeIs { s with heap := h } (.ref z) "zip" := fun h q => ⟨_, q, rfl⟩
  have hT0 : s.TypeIs (.ref z) "zip" := ⟨_, hz, rfl⟩
  unfold Builtin.List.listExtendWith
  refine wpAny_bind (wpAny_typeOf hT0 ?_)
  have h1 : Builtin.List.listSameRef (.ref S) (.ref z) = false := by simp [Builtin.List.listSameRef, hSI]
  have h2 : (Value.type "zip" == Value.type "list") = false := by decide
  have h3 : (Value.type "zip" == Value.type "tuple") = false := by decide
  simp only [h1, h2, h3, Bool.or_false, Bool.false_eq_true, if_false]
  refine wpAny_bind (wpAny_pyIter_zip hz ?_)
  refine wpAny_bind (wpAny_holding ?_)
  unfold Builtin.List.listLengthHint
  refine wpAny_bind (wpAny_specialOf hT0 zip_no_len ?_)
  show wpAny _ A.in1 (specialOf (Value.ref z) (Str.ofString "__length_hint__") >>= _) _ _ _
  refine wpAny_bind (wpAny_specialOf hT0 zip_no_hint ?_)
  refine wpAny_pure ?_
  show wpAny _ A.in1 (rule "list.extend.makes-room" >>= fun _ => Builtin.List.listTouch (.ref S) >>= fun _ =>
    again (.builtin "list.extend.loop" ⟨[.ref S, .ref z, res], []⟩)) _ _ _
  refine wpAny_bind (wpAny_rule ?_)
  refine wpAny_bind ?_
  show wpAny _ A.in1 (updateSeq S (·.push .none) >>= fun _ => updateSeq S (·.pop)) _ _ _
  refine wpAny_bind (wpAny_updateSeq hSo rfl ?_)
  have hS₂ := Heap.get?_update_self (Obj.mapSeq (·.push Value.none)) hSo rfl
  refine wpAny_updateSeq (hz := by seq_fits) hS₂ rfl ?_
  have hS₃ := Heap.get?_update_self (Obj.mapSeq (·.pop)) hS₂ rfl
  have oth : ∀ b o, b ≠ S → s.heap.get? b = some o → ((s.heap.update S (Obj.mapSeq (·.push Value.none))).update S (Obj.mapSeq (·.pop))).get? b = some o :=
    fun b o hb e => (Heap.get?_update_other _ _ (Ne.symm hb)).trans ((Heap.get?_update_other _ _ (Ne.symm hb)).trans e)
  refine wpAny_pure ⟨plainId_quiet PySem.F.plain_extend_loop _, zip_loop hh D hS hn hsz res n 0 _ _ _ rfl (Nat.zero_le _) (by show lo ≤ (Heap.update _ S _).objs.size; rw [Heap.size_update, Heap.size_update]; exact hlo) (Z.up hS oth ⟨_, hS₃⟩) hS₃ ⟨rfl, fun j v hj => by simp at hj⟩ fun h' acc' c' hk' hS' hacc => ?_⟩
  exact hR h' acc' c' (fun b o hb e => hk' b o hb (oth b o (fun q => hb (by simp [q])) e)) hS' hacc
theorem zip_init (hh : A.handled = none) (D : ZipApart z TI TO i1 i2 l1 l2) (hS : S ∉ [z, TI, TO, i1, i2, l1, l2]) {n lo : Nat} (hn : n = min xs.size ys.size) (hsz : n ≤ sizeLine) (hlo : lo ≤ s.heap.objs.size) (Z : ZSt z TI TO i1 i2 l1 l2 xs ys 0 s.heap) (hz : IsZip s.heap z TI TO .none)
    (hSo : s.heap.get? S = some { cls := .type "list", data := .seq #[] })
    (hR : ∀ h' acc' c', (∀ b o, b ∉ [S, z, TO, i1, i2] → s.heap.get? b = some o → h'.get? b = some o) → h'.get? S = some { cls := .type "list", dict := none, data := .seq acc' c', slots := #[] } → PairsOf lo S z TO i1 i2 xs ys acc' n h' → R (.ok (.ret .none)) { s with heap := h' }) :
    wpAny (model prog w) A.in1 (Builtin.«list.__init__» ⟨[.ref S, .ref z], []⟩)
      (fun fin s' => match fin with | .done f => R (.ok f) s' | .again c' => c'.quiet = true ∧ codeAny (model prog w) A c' R s') (fun e s' => R (.error e) s') s := by
  show wpAny _ A.in1 (do let old ← Builtin.List.listItems (.ref S); Builtin.List.listUpdate (.ref S) (fun _ => #[]); letGo old.toList.reverse; Builtin.List.listExtendWith (.ref S) (.ref z) .none) _ _ s
  refine wpAny_bind ?_
  unfold Builtin.List.listItems
  refine wpAny_bind (wpAny_seqItems hSo rfl (wpAny_pure ?_))
  show wpAny _ A.in1 (updateSeq S (fun _ => #[]) >>= fun _ => letGo (#[] : Array Value).toList.reverse >>= fun _ => Builtin.List.listExtendWith (.ref S) (.ref z) .none) _ _ s
  refine wpAny_bind (wpAny_updateSeq hSo rfl ?_)
  have hS₂ := Heap.get?_update_self (Obj.mapSeq (fun _ => (#[] : Array Value))) hSo rfl
  have oth : ∀ b o, b ≠ S → s.heap.get? b = some o → (s.heap.update S (Obj.mapSeq (fun _ => (#[] : Array Value)))).get? b = some o :=
    fun b o hb e => (Heap.get?_update_other _ _ (Ne.symm hb)).trans e
  refine wpAny_bind (wpAny_letGo ?_)
  refine zip_extend hh D hS hn hsz .none (by show lo ≤ (Heap.update _ S _).objs.size; rw [Heap.size_update]; exact hlo) (Z.up hS oth ⟨_, hS₂⟩) (oth _ _ (fun q => hS (by simp [q])) hz) hS₂ fun h' acc' c' hk' hS' hacc => ?_
  exact hR h' acc' c' (fun b o hb e => hk' b o hb (oth b o (fun q => hb (by simp [q])) e)) hS' hacc
-- a list of a zip of two lists 
theorem call_list_zip {Q : Value → Shared → Prop} (hh : A.handled = none) (D : ZipApart z TI TO i1 i2 l1 l2) {n : Nat} (hn : n = min xs.size ys.size) (hsz : n ≤ sizeLine) (Z : ZSt z TI TO i1 i2 l1 l2 xs ys 0 s.heap) (hz : IsZip s.heap z TI TO .none)
    (hQ : ∀ h' acc' c', (∀ b o, b ∉ [z, TO, i1, i2] → s.heap.get? b = some o → h'.get? b = some o) → h'.get? s.heap.objs.size = some { cls := .type "list", dict := none, data := .seq acc' c', slots := #[] } → PairsOf s.heap.objs.size s.heap.objs.size z TO i1 i2 xs ys acc' n h' → Q (.ref s.heap.objs.size) { s with heap := h' }) :
    wpAny (model prog w) A (call (.type "list") [.ref z]) Q E s := by
  have lt : ∀ {c o}, s.heap.get? c = some o → s.heap.objs.size ≠ c := fun e => Nat.ne_of_gt (Heap.lt_size e)
  have hSf : s.heap.objs.size ∉ [z, TI, TO, i1, i2, l1, l2] := by
    obtain ⟨_, t1, ⟨_, _, t2⟩, ⟨_, t3, _⟩, ⟨_, t4, _⟩, ⟨_, t5, _⟩, ⟨_, t6, _⟩⟩ := Z
    simp only [List.mem_cons, List.not_mem_nil, or_false, not_or]
    exact ⟨lt hz, lt t1, lt t2, lt t3, lt t4, lt t5, lt t6⟩
  refine callType_codes (Q₁ := fun obj s₁ => obj = .ref s.heap.objs.size ∧ s₁ = { s with heap := s.heap.push { cls := .type "list", data := .seq #[] } }) PySem.F.called_list (PySem.F.typeCall_list_1 _) PySem.F.entry_list_init
    (code_list_new _ ⟨rfl, rfl⟩) fun obj s₁ h₁ => ?_
  obtain ⟨rfl, rfl⟩ := h₁
  have hS : (s.heap.push { cls := .type "list", data := .seq #[] }).get? s.heap.objs.size = some { cls := .type "list", data := .seq #[] } := Heap.get?_push_size _ rfl
  have up : ∀ c o, s.heap.get? c = some o → (s.heap.push { cls := .type "list", data := .seq #[] }).get? c = some o := fun c o e => Heap.get?_push_of_some _ e
  refine ⟨⟨_, hS, rfl⟩, PySem.F.args_list_init_2 _ _, zip_init (lo := s.heap.objs.size) (show A.in1.handled = none from hh) D hSf hn hsz (by show _ ≤ (s.heap.push _).objs.size; rw [Heap.size_push]; exact Nat.le_succ _) (Z.up hSf (fun c o _ e => up c o e) ⟨_, hS⟩) (up _ _ hz) hS fun h' acc' c' hk' hS' hacc => ?_⟩
  refine ⟨rfl, hQ h' acc' c' (fun b o hb e => hk' b o ?_ (up b o e)) hS' hacc⟩
  intro hm
  rcases List.mem_cons.mp hm with q | q
  · exact lt e q.symm
  · exact hb q
end
end Mine

namespace Mine
theorem hasL_of {V : List Addr} {h : Heap} : ∀ {vs : List Value} {ds : List Dat}, vs.length = ds.length → (∀ (j : Nat) (v : Value) (d : Dat), vs[j]? = some v → ds[j]? = some d → Has V h v d) → HasL V h vs ds
  | [], [], _, _ => .nil
  | [], _ :: _, h, _ => by simp at h
  | _ :: _, [], h, _ => by simp at h
  | v :: vs, d :: ds, hl, h => .cons (h 0 v d rfl rfl) (hasL_of (by simpa using hl) fun j v' d' e1 e2 => h (j + 1) v' d' e1 e2)
section
variable {f : Fm} {O : List (Addr × List Dat)} {ρ : List (Str × Slot)}
theorem St.vEx {s : Shared} (st : St f O ρ s) {a : Addr} (ha : a ∈ f.V O) : ∃ o, s.heap.get? a = some o := by
  rcases List.mem_append.mp ha with ha | ha
  · obtain ⟨p, hp, rfl⟩ := List.mem_map.mp ha
    obtain ⟨vs, ⟨n, e⟩, _⟩ := st.own p hp
    exact ⟨_, e⟩
  · exact st.v0 a ha
theorem Ev.listZip {nL nZ : Str} {np zp p1 p2 : Pos} {e1 e2 : Expr} {d1 d2 : List Dat} (hL : EvS f O ρ (.Name nL np) (.val (.type "list"))) (hZ : EvS f O ρ (.Name nZ zp) (.val (.type "zip"))) (h1 : Ev f O ρ e1 (.list d1)) (h2 : Ev f O ρ e2 (.list d2)) (hsz : (d1.zip d2).length ≤ sizeLine)
    (hns : starEach [.Call (.Name nZ zp) [e1, e2] [] p1] f.env = (false, eval (.Call (.Name nZ zp) [e1, e2] [] p1) f.env) :: starEach [] f.env := by rfl) (hpl : (backTo p2 (starEach [.Call (.Name nZ zp) [e1, e2] [] p1] f.env)).any (·.1) = false := by rfl)
    (hns1 : starEach [e1, e2] f.env = (false, eval e1 f.env) :: starEach [e2] f.env := by rfl) (hns2 : starEach [e2] f.env = (false, eval e2 f.env) :: starEach [] f.env := by rfl) (hpl1 : (backTo p1 (starEach [e1, e2] f.env)).any (·.1) = false := by rfl) :
    Ev f O ρ (.Call (.Name nL np) [.Call (.Name nZ zp) [e1, e2] [] p1] [] p2) (.list ((d1.zip d2).map fun p => Dat.tuple [p.1, p.2])) := by
  apply Ev.mk
  intro s Q E st k
  refine wpAny_Call_NameR (hL.run s _ _ st fun fv s₁ m₁ h₁ => ?_)
  have h₁' : fv = .type "list" := h₁
  subst h₁'
  refine PySem.callWith_type hpl ?_
  rw [hns]
  refine PySem.Calls.evalArgs_plain (PySem.Calls.spliced_cons (callT_run (st.mv m₁) hZ (EvL.consE h1 (EvL.consE h2 EvL.nilE hns2) hns1) (fun vs s₂ m₂ hv => ?_) hns1 hpl1))
  have st2 := (st.mv m₁).mv m₂
  cases hv with
  | cons a b =>
  cases b with
  | cons b c =>
  cases c
  obtain ⟨a₁, vs₁, rfl, i₁, n₁, l₁⟩ := a.lists
  obtain ⟨a₂, vs₂, rfl, i₂, n₂, l₂⟩ := b.lists
  have lt₁ : a₁ < s₂.heap.objs.size := by obtain ⟨n, e⟩ := i₁; exact Heap.lt_size e
  have lt₂ : a₂ < s₂.heap.objs.size := by obtain ⟨n, e⟩ := i₂; exact Heap.lt_size e
  refine call_zip_2 i₁.isList i₂.isList fun h' hz hTI hTO hi1 hi2 hsz' hkeep => PySem.Calls.spliced_nil ?_
  obtain ⟨N, hN⟩ : ∃ N, s₂.heap.objs.size = N := ⟨_, rfl⟩
  rw [hN] at hz hTI hTO hi1 hi2 hsz' lt₁ lt₂ ⊢
  have D : ZipApart (N + 4) (N + 2) (N + 3) N (N + 1) a₁ a₂ := by constructor <;> (show @Ne Nat _ _) <;> (have := lt₁; have := lt₂; simp only [Addr] at *; omega)
  have Z : ZSt (N + 4) (N + 2) (N + 3) N (N + 1) a₁ a₂ vs₁.toArray vs₂.toArray 0 h' := ⟨.inl hz, hTI, ⟨_, _, hTO⟩, hi1, hi2, i₁.isList.at fun o e => hkeep _ o e, i₂.isList.at fun o e => hkeep _ o e⟩
  have hlen : (d1.zip d2).length = min vs₁.toArray.size vs₂.toArray.size := by simp [l₁.length, l₂.length]
  refine call_list_zip (s := { s₂ with heap := h' }) st.ok.hh D hlen hsz Z hz fun h'' acc c' hk'' hL'' hacc => ?_
  have keep2 : ∀ b o, s₂.heap.get? b = some o → h''.get? b = some o := fun b o e => by
    refine hk'' b o ?_ (hkeep b o e)
    have hb := Heap.lt_size e
    rw [hN] at hb
    intro hm
    simp only [List.mem_cons, List.not_mem_nil, or_false] at hm
    simp only [Addr] at *
    omega
  have m₃ : Mv f.G f.W s₂ { s₂ with heap := h'' } := Mv.of_keepH keep2
  have hV : ∀ T : Addr, N ≤ T → T ∉ f.V O := fun T hT hm => by
    obtain ⟨o, e⟩ := st2.vEx hm
    have := Heap.lt_size e
    rw [hN] at this
    exact absurd this (Nat.not_lt.mpr hT)
  refine k (.ref h'.objs.size) { s₂ with heap := h'' } (m₁.trans (m₂.trans m₃)) (.list (vs := acc.toList) ⟨c', by simpa using hL''⟩ (hV _ (by rw [hsz']; omega)) (hasL_of ?_ fun j v d hv hd => ?_))
  · rw [Array.length_toList, hacc.1, List.length_map]
  · have hv' : acc[j]? = some v := by simpa using hv
    obtain ⟨T, x, y, rfl, hT, _, _, _, _, _, hp, hx, hy⟩ := hacc.2 j v hv'
    have hx' : vs₁[j]? = some x := by simpa using hx
    have hy' : vs₂[j]? = some y := by simpa using hy
    obtain ⟨dx, ex, qx⟩ := (l₁.mv m₃).getV hx'
    obtain ⟨dy, ey, qy⟩ := (l₂.mv m₃).getV hy'
    have ez : (d1.zip d2)[j]? = some (dx, dy) := List.getElem?_zip_eq_some.mpr ⟨ex, ey⟩
    rw [List.getElem?_map, ez] at hd
    cases hd
    have hT' : h'.objs.size ≤ T := hT
    exact .tuple (vs := [x, y]) ⟨_, hp, rfl, 0, rfl⟩ (hV T (by rw [hsz'] at hT'; omega)) (.cons qx (.cons qy .nil))
end
end Mine

namespace Mine
-- ## one walk from sign to sign 
theorem app_nil0 (ws : List (Nat × List Nat)) : app ws [] = ws := by
  unfold app
  cases h : ws.getLast? with
  | none => rfl
  | some p =>
    have hne : ws ≠ [] := by rintro rfl; simp at h
    rw [List.getLast?_eq_some_getLast hne] at h
    have h' := Option.some.inj h
    simp only [List.append_nil]
    rw [← h']
    exact List.dropLast_concat_getLast hne
theorem app_concat (ws : List (Nat × List Nat)) (p : Nat × List Nat) (b : List Nat) : app (ws ++ [p]) b = ws ++ [(p.1, p.2 ++ b)] := by
  unfold app; simp
theorem app_app (ws : List (Nat × List Nat)) (a b : List Nat) : app (app ws a) b = app ws (a ++ b) := by
  rcases List.eq_nil_or_concat ws with rfl | ⟨l, p, rfl⟩
  · rfl
  · rw [List.concat_eq_append, app_concat, app_concat, app_concat, List.append_assoc]
structure Wk where
  ws : List (Nat × List Nat)
  ins : Option Nat
  cl : Option Nat
  fr : Bool
def wstp (σ : Wk) (c : Nat) : Wk :=
  if σ.ins = some c then ⟨beg σ.fr c σ.ws, none, some c, false⟩
  else if σ.ins ≠ none then ⟨app (beg σ.fr c σ.ws) [c], σ.ins, σ.cl, false⟩
  else if c = 39 ∨ c = 34 then ⟨app (beg σ.fr c σ.ws) (if σ.cl = some c then [c] else []), some c, none, false⟩
  else if c = 32 then ⟨beg σ.fr c σ.ws, none, none, true⟩
  else ⟨app (beg σ.fr c σ.ws) [c], none, none, false⟩
theorem wstp_close (ws : List (Nat × List Nat)) (q : Nat) (cl : Option Nat) : wstp ⟨ws, some q, cl, false⟩ q = ⟨ws, none, some q, false⟩ := by
  simp [wstp, beg]
theorem wstp_in (ws : List (Nat × List Nat)) {q c : Nat} (cl : Option Nat) (h : ¬ c = q) : wstp ⟨ws, some q, cl, false⟩ c = ⟨app ws [c], some q, cl, false⟩ := by
  simp [wstp, beg, Ne.symm h]
theorem wstp_open (ws : List (Nat × List Nat)) {c : Nat} (cl : Option Nat) (fr : Bool) (h : c = 39 ∨ c = 34) : wstp ⟨ws, none, cl, fr⟩ c = ⟨app (beg fr c ws) (if cl = some c then [c] else []), some c, none, false⟩ := by
  simp [wstp, h]
theorem wstp_blank (ws : List (Nat × List Nat)) (cl : Option Nat) (fr : Bool) : wstp ⟨ws, none, cl, fr⟩ 32 = ⟨beg fr 32 ws, none, none, true⟩ := by
  simp [wstp]
theorem wstp_sign (ws : List (Nat × List Nat)) {c : Nat} (cl : Option Nat) (fr : Bool) (h : ¬ (c = 39 ∨ c = 34)) (h' : ¬ c = 32) : wstp ⟨ws, none, cl, fr⟩ c = ⟨app (beg fr c ws) [c], none, none, false⟩ := by
  simp [wstp, h, h']
def wk (σ : Wk) (l : List Nat) : Wk := l.foldl wstp σ
theorem wk_cons (σ : Wk) (c : Nat) (l : List Nat) : wk σ (c :: l) = wk (wstp σ c) l := rfl
theorem wk_app (σ : Wk) (a b : List Nat) : wk σ (a ++ b) = wk (wk σ a) b := List.foldl_append
theorem wstp_other (ws : List (Nat × List Nat)) {q d : Nat} (h : ¬ d = q) : wstp ⟨ws, none, some q, false⟩ d = wstp ⟨ws, none, none, false⟩ d := by
  simp [wstp, Ne.symm h]
theorem wk_in {q : Nat} (hq : q = 39 ∨ q = 34) : ∀ r ws, (wk ⟨ws, some q, none, false⟩ r).ws = (wk ⟨app ws (scanQ q r), none, none, false⟩ (r.drop ((scanQ q r).length + (scanQ q r).count q + 1))).ws := by
  refine scanQ_induct (q := q) ?_ ?_ ?_ ?_ ?_
  · intro ws; rw [scanQ_nil, app_nil0]; rfl
  · intro ws; rw [scanQ_one, app_nil0, wk_cons, wstp_close]; rfl
  · intro r ih ws
    rw [scanQ_qq, wk_cons, wk_cons, wstp_close, wstp_open _ _ _ hq, if_pos rfl, ih]
    show (wk ⟨app (app ws [q]) _, none, none, false⟩ _).ws = _
    rw [app_app, List.singleton_append, List.length_cons, List.count_cons_self]
    have : (scanQ q r).length + 1 + ((scanQ q r).count q + 1) + 1 = ((scanQ q r).length + (scanQ q r).count q + 1) + 1 + 1 := by omega
    rw [this, List.drop_succ_cons, List.drop_succ_cons]
  · intro d r h ws
    rw [scanQ_q _ _ h, app_nil0, wk_cons, wstp_close]
    show _ = (wk ⟨ws, none, none, false⟩ (d :: r)).ws
    rw [wk_cons, wk_cons, wstp_other _ h]
  · intro c r h ih ws
    rw [scanQ_ne _ _ h, wk_cons, wstp_in _ _ h, ih, app_app, List.singleton_append, List.length_cons, List.count_cons_of_ne h]
    have : (scanQ q r).length + 1 + (scanQ q r).count q + 1 = ((scanQ q r).length + (scanQ q r).count q + 1) + 1 := by omega
    rw [this, List.drop_succ_cons]
theorem rdL_wk (n : Nat) : ∀ (l : List Nat) (fr : Bool) (ws : List (Nat × List Nat)), l.length ≤ n → rdL l fr ws = (wk ⟨ws, none, none, fr⟩ l).ws := by
  induction n with
  | zero => intro l fr ws h; rw [List.length_eq_zero_iff.mp (Nat.le_zero.mp h)]; rfl
  | succ n ih =>
    intro l fr ws h
    cases l with
    | nil => rfl
    | cons c r =>
      have hr : r.length ≤ n := by simpa using h
      by_cases hc : c = 39 ∨ c = 34
      · rw [rdL_mark _ _ _ hc, wk_cons, wstp_open _ _ _ hc, wk_in hc, ih _ _ _ (by rw [List.length_drop]; omega)]
        simp only [reduceCtorEq, if_false, app_nil0]
      · by_cases h2 : c = 32
        · subst h2
          rw [rdL_blank, wk_cons, wstp_blank, ih _ _ _ hr]
        · rw [rdL_sign _ _ _ hc h2, wk_cons, wstp_sign _ _ _ hc h2, ih _ _ _ hr]
def wk0 (l : List Nat) : Wk := wk ⟨[], none, none, true⟩ l
theorem rd_wk (l : List Nat) : rd l = (wk0 l).ws := rdL_wk _ l true [] (Nat.le_refl _)
-- which signs are safe 
theorem safe_list : ∀ c < 128, safeN c = decide (c ∈ ([97, 98, 99, 100, 101, 102, 103, 104, 105, 106, 107, 108, 109, 110, 111, 112, 113, 114, 115, 116, 117, 118, 119, 120, 121, 122, 65, 66, 67, 68, 69, 70, 71, 72, 73, 74, 75, 76, 77, 78, 79, 80, 81, 82, 83, 84, 85, 86, 87, 88, 89, 90, 48, 49, 50, 51, 52, 53, 54, 55, 56, 57, 95, 64, 37, 43, 61, 58, 44, 46, 47, 45] : List Nat)) := by decide +kernel
theorem chset_hi : ∀ c < 256, 128 ≤ c → chset c = false := by decide +kernel
theorem safeN_hi {c : Nat} (h : 128 ≤ c) : safeN c = false := by
  unfold safeN
  have h1 : chset c = false := by
    by_cases h2 : c < 256
    · exact chset_hi c h2 h
    · unfold chset; simp [h2]
  rw [h1, Bool.false_or]
  unfold Sre.isWord Sre.isDigit
  have : ¬ c ≤ 57 ∧ ¬ c ≤ 90 ∧ ¬ c ≤ 122 ∧ ¬ c = 95 := by omega
  simp [this]
theorem safe_ne {c : Nat} (h : safeN c = true) : ¬ (c = 39 ∨ c = 34) ∧ ¬ c = 32 := by
  refine ⟨?_, ?_⟩
  · rintro (rfl | rfl) <;> revert h <;> decide +kernel
  · rintro rfl; revert h; decide +kernel
end Mine

namespace Mine
theorem dep_lt {a m k n : Nat} (h : a + n < m) (hk : 1 + k ≤ n) : a + 1 + k < m := by omega
theorem uni_lt {a m c d : Nat} (h : a + c + 100 < m) (hk : d + 3 ≤ c) : a + 3 + d + 100 < m := by omega
local macro_rules | `(tactic| walk_at "boot") => `(tactic| first | exact boot_len | exact boot_chr | exact boot_range | exact boot_zip | exact boot_enumerate | exact boot_sum | exact boot_list | exact boot_str | exact boot_iter | exact boot_next)
local macro_rules | `(tactic| walk_at "sz") => `(tactic| first | assumption | (simp only [S_length, List.length_append, List.length_cons, List.length_nil, List.length_map, sizeLine_eq] at *; omega))
local macro_rules | `(tactic| walk_at "op") => `(tactic| first
  | exact Op2.addInt
  | exact Op2.eqStr
  | exact Op2.neStr
  | exact Op2.ltInt
  | exact Op2.geInt
  | exact Op2.eqInt
  | exact Op2.modInt (by decide)
  | (refine' Op2.addStr ?sz; (case' sz => (try walk_at "sz")))
  | (refine' Op2.addList ?sz; (case' sz => (try walk_at "sz"))))
local macro_rules | `(tactic| walk_at "opn") => `(tactic| first | (refine' OpN.lenStr ?sz; (case' sz => (try walk_at "sz"))) | (refine' OpN.lenList ?sz; (case' sz => (try walk_at "sz"))))
local macro_rules | `(tactic| walk_at "evp") => `(tactic| first
  | exact EvP.no
  | (refine' EvP.yes ?x1; (case' x1 => walk_at "ev")))
local macro_rules | `(tactic| walk_at "ev") => `(tactic| first
  | exact Ev.strC
  | exact Ev.intC
  | exact Ev.boolC
  | exact Ev.name (by rfl)
  | (refine' Ev.neg ?x1; (case' x1 => walk_at "ev"))
  | (refine' Ev.bin ?x1 ?x2 ?x3; (case' x1 => walk_at "ev"); (case' x2 => walk_at "ev"); (case' x3 => walk_at "op"))
  | (refine' Ev.cmp ?x1 ?x2 ?x3; (case' x1 => walk_at "ev"); (case' x2 => walk_at "ev"); (case' x3 => walk_at "op"))
  | (refine' Ev.listD ?x1; (case' x1 => walk_at "evl"))
  | (refine' Ev.tupleD ?x1; (case' x1 => walk_at "evl"))
  | (refine' Ev.sliceStr ?x1 ?x2 ?x3 ?sz; (case' x1 => walk_at "ev"); (case' x2 => walk_at "evp"); (case' x3 => walk_at "evp"); (case' sz => (try walk_at "sz")))
  | (refine' Ev.sliceList ?x1 ?x2 ?x3 ?sz; (case' x1 => walk_at "ev"); (case' x2 => walk_at "evp"); (case' x3 => walk_at "evp"); (case' sz => (try walk_at "sz")))
  | (refine' Ev.callB (Ev.builtin (by rfl) (by assumption) (by walk_at "boot")) ?x1 ?x2; (case' x1 => walk_at "evl"); (case' x2 => walk_at "opn"))
  | (refine' Ev.itemStr ?x1 ?x2 ?h0 ?hc ?sz; (case' x1 => walk_at "ev"); (case' x2 => walk_at "ev"); (case' sz => (try walk_at "sz")))
  | (refine' Ev.itemList ?x1 ?x2 ?hj ?hd ?sz; (case' x1 => walk_at "ev"); (case' x2 => walk_at "ev"); (case' sz => (try walk_at "sz"))))
local macro_rules | `(tactic| walk_at "evl") => `(tactic| first
  | exact EvL.nilE
  | (refine' EvL.consE ?x1 ?x2; (case' x1 => walk_at "ev"); (case' x2 => walk_at "evl")))
local macro_rules | `(tactic| walk_at "tr") => `(tactic| first
  | (refine' Tr.cmp ?x1 ?x2 ?x3; (case' x1 => walk_at "ev"); (case' x2 => walk_at "ev"); (case' x3 => walk_at "op"))
  | (refine' Tr.notE ?x1; (case' x1 => walk_at "tr"))
  | exact Tr.orNil
  | exact Tr.andNil
  | (refine' Tr.intE ?x1; (case' x1 => walk_at "ev")))

abbrev PR : Program := PySem.Challenge.rw_oy0021_02.row.prog
noncomputable abbrev KK (w : World) : Frag := Mine.hd.heap_39 w.params
-- what the names of the top stand for 
structure Names (mg : Str → Option Value) : Prop where
  len : mg (Str.ofString "len") = none
  chr : mg (Str.ofString "chr") = none
  range : mg (Str.ofString "range") = none
  zip : mg (Str.ofString "zip") = none
  enumerate : mg (Str.ofString "enumerate") = none
  sum : mg (Str.ofString "sum") = none
  str : mg (Str.ofString "str") = none
  iter : mg (Str.ofString "iter") = none
  next : mg (Str.ofString "next") = none
  list : mg (Str.ofString "list") = none
  stop : mg (Str.ofString "StopIteration") = none
  type : mg (Str.ofString "TypeError") = none
  parse257 : mg (Str.ofString "parse257") = some (.ref 83)
  reduce : mg (Str.ofString "reduce") = some (.ref 92)
  missing : mg (Str.ofString "_initial_missing") = some (.ref 84)
  find : mg (Str.ofString "_find_unsafe") = some (.ref 44)
  join : mg (Str.ofString "join") = some (.ref 43)
  quote : mg (Str.ofString "quote") = some (.ref 51)
  turned : mg (Str.ofString "_law_turned") = some (.ref 97)
  read : mg (Str.ofString "_law_read") = some (.ref 104)
  walked : mg (Str.ofString "_law_walked") = some (.ref 111)
  written : mg (Str.ofString "_law_written") = some (.ref 116)
  bare : mg (Str.ofString "_law_bare") = some (.ref 121)
  meant : mg (Str.ofString "_law_meant") = some (.ref 126)
  ways : mg (Str.ofString "_law_ways") = some (.ref 131)
-- the top 
structure TopF (w : World) (mg : Str → Option Value) (G : Heap) : Prop where
  KI : (KK w).In G
  N : Names mg
  B : BuiltM mg G
  t38 : grows G 38
  t113 : grows G 113

section
variable {w : World} {mg mb : Str → Option Value} {G : Heap}
set_option maxHeartbeats 800000 in
theorem c_parse257 (KI : (KK w).In G) (N : Names mg) : Con PR w mg mb G 1 83 R257 := by
  have hm := N.len
  refine Con.of_def [Str.ofString "resp"] (KI _ _ (by rfl)) (by rfl) ?_ (by rfl) (by rfl) (by rfl) (by rfl) (fun vs hv => ?_) (by decide) (by rfl) (fun ds d ⟨l, e, _⟩ => by rw [e]; rfl) (by decide) (by rfl) (by rfl) (by rfl) ?_
  · exact codeRec_of KI (by rfl)
  · match vs, hv with
    | [v], _ => rfl
  · rintro A L outer V s hd hu ds d ⟨l, rfl, hlen, hpre, rfl⟩
    dsimp only [parm, List.map, List.zip_cons_cons, List.zip_nil_right]
    refine' Ex.consX (ExS.ifX (v := false) (Tr.of ?tr ?tv) (fun h => nomatch h) fun _ => Ex.nilX (thenN ?_))
    case tr => walk_at "tr"
    case tv =>
      have e1 : sl l none (some 3) = [50, 53, 55] := by rw [← hpre]; exact sl_upto l 3
      rw [e1]; decide
    refine' Ex.consX (ExS.ifX (Tr.of ?tr ?tv) (v := !decide ((l.drop 3).take 2 = [32, 34])) (fun hq => ?h1) (fun hq => ?h2))
    case tr => walk_at "tr"
    case tv =>
      have e1 : sl l (some 3) (some 5) = (l.drop 3).take 2 := sl_run l 3 5 (by decide)
      have e2 : Str.ofString " \"" = S [32, 34] := by decide
      rw [e1, e2]
      by_cases h : (l.drop 3).take 2 = [32, 34] <;> simp [h, S_inj]
    case h1 =>
      have hq' : ¬ (l.drop 3).take 2 = [32, 34] := by simpa using hq
      refine Ex.consX (ExS.ret Ev.strC ?_)
      show Dat.str _ = Dat.str _
      rw [p257, if_neg hq']; rfl
    case h2 =>
      have hq' : (l.drop 3).take 2 = [32, 34] := by simpa using hq
      refine Ex.nilX (thenN ?_)
      (refine' Ex.consX (ExS.assign (.inl (by rfl)) ?asg1 (thenN ?rest1)); (case' asg1 => walk_at "ev"))
      (refine' Ex.consX (ExS.assign (.inl (by rfl)) ?asg2 (thenN ?rest2)); (case' asg2 => walk_at "ev"))
      (refine' Ex.consX (ExS.assign (.inl (by rfl)) ?asg3 (thenN ?rest3)); (case' asg3 => walk_at "ev"))
      skip
      refine Ex.weak (ρ' := [(Str.ofString "resp", .dat (.str (S l))), (Str.ofString "dirname", .dat (.str (S []))), (Str.ofString "i", .dat (.int (5 : Nat))), (Str.ofString "n", .dat (.int l.length))]) ?_ (by rw [S_length]; (repeat (first | exact Sub.nilS _ | refine Sub.consS (by rfl) ?_)))
      have h5 : 5 ≤ l.length := by
        have := congrArg List.length hq'
        simp at this; omega
      refine Ex.consX (ExS.whileX (Inv257 l) (l.length - 5) ⟨rfl, 5, [], h5, rfl, by simp, by simp, rfl⟩ ?_)
      rintro k O ρ ⟨rfl, i, acc, hi, rfl, hacc, hscan, rfl⟩
      refine ⟨decide ((i : Int) < l.length), by walk_at "tr", fun hf => thenN ?_, fun ht => ?_⟩
      · have hil : i = l.length := by have := of_decide_eq_false hf; omega
        subst hil
        refine Ex.consX (ExS.ret (Ev.name (by rfl)) ?_)
        show Dat.str _ = Dat.str _
        rw [p257, if_pos hq', ← hscan]
        simp [scan_nil]
      · have hil : i < l.length := by have := of_decide_eq_true ht; omega
        obtain ⟨c, r, hcr⟩ : ∃ c r, l.drop i = c :: r := ⟨_, _, List.drop_eq_getElem_cons hil⟩
        have hc : l[i]? = some c := by
          have := congrArg (·[0]?) hcr
          simpa using this
        have hr : l.drop (i + 1) = r := by
          have := congrArg (List.drop 1) hcr
          simpa [List.drop_drop] using this
        rw [hcr] at hscan
        refine' Ex.consX (ExS.assign (.inl (by rfl)) (Ev.itemStr (cc := c) ?x1 ?x2 ?h0 ?hc ?sz) (thenN ?_))
        case x1 => walk_at "ev"
        case x2 => walk_at "ev"
        case h0 => omega
        case hc => simpa using hc
        case sz => walk_at "sz"
        (refine' Ex.consX (ExS.assign (.inl (by rfl)) ?asg4 (thenN ?rest4)); (case' asg4 => walk_at "ev"))
        refine' Ex.consX (ExS.ifX (Tr.of ?tr ?tv) (v := decide (c = 34)) (fun h34 => ?h1) (fun h34 => ?h2))
        case tr => walk_at "tr"
        case tv =>
          have e2 : Str.ofString "\"" = S [34] := by decide
          rw [e2, S_beq]; by_cases h : c = 34 <;> simp [h]
        case h1 =>
          have h34' : c = 34 := of_decide_eq_true h34
          subst h34'
          have iv : ((i : Int) + 1).toNat = i + 1 := by omega
          rcases Nat.lt_or_ge (i + 1) l.length with hlt | hge
          · have hd1 : r.head? = l[i + 1]? := by
              rw [← hr]; simp
            refine' Ex.consX (ExS.ifX (v := l[i + 1] != 34) (Tr.of (Tr.orE (v := false) (w := l[i + 1] != 34) (Tr.of ?tr ?tv) (fun _ => Tr.of (Tr.orE (w := false) (Tr.of (v' := l[i + 1] != 34) (Tr.cmp (Ev.itemStr (cc := l[i + 1]) ?x1 ?x2 ?h0 ?hc ?sz) ?x3 ?x4) ?tv2) fun _ => Tr.orNil) (by simp))) (by simp)) (fun hb => ?h1b) (fun hb => ?h2b))
            case tr => walk_at "tr"
            case tv => simp; omega
            case x1 => walk_at "ev"
            case x2 => walk_at "ev"
            case h0 => omega
            case hc => rw [iv]; exact List.getElem?_eq_getElem hlt
            case sz => walk_at "sz"
            case x3 => walk_at "ev"
            case x4 => walk_at "op"
            case tv2 =>
              have e2 : Str.ofString "\"" = S [34] := by decide
              rw [e2]
              simp only [bne, S_beq]
              by_cases h : l[i + 1] = 34 <;> simp [h]
            case h1b =>
              refine Ex.consX (ExS.brkX (thenN ?_))
              refine Ex.consX (ExS.ret (Ev.name (by rfl)) ?_)
              show Dat.str _ = Dat.str _
              rw [p257, if_pos hq', ← hscan, scan_q, List.append_nil]
              rw [hd1, List.getElem?_eq_getElem hlt]
              simpa using hb
            case h2b =>
              refine Ex.nilX (thenN ?_)
              (refine' Ex.consX (ExS.assign (.inl (by rfl)) ?asg5 (thenN ?rest5)); (case' asg5 => walk_at "ev"))
              refine Ex.nilX (thenN ?_)
              (refine' Ex.consX (ExS.assign (.inl (by rfl)) ?asg6 (thenN ?rest6)); (case' asg6 => walk_at "ev"))
              obtain ⟨r', rfl⟩ : ∃ r', r = 34 :: r' := by
                rw [List.getElem?_eq_getElem hlt] at hd1
                have hb' : l[i + 1] = 34 := by simpa using hb
                cases r with
                | nil => cases hd1
                | cons d r' => rw [hb'] at hd1; cases hd1; exact ⟨r', rfl⟩
              have hr2 : l.drop (i + 1 + 1) = r' := by
                have := congrArg (List.drop 1) hr
                simpa [List.drop_drop] using this
              refine Ex.nilX ⟨l.length - (i + 1 + 1), by omega, _, ⟨rfl, i + 1 + 1, acc ++ [34], by omega, rfl, by simp; omega, ?_, rfl⟩, ?_⟩
              · rw [← hscan, hr2, scan_qq]; simp
              · rw [S_append]; (repeat (first | exact Sub.nilS _ | refine Sub.consS (by rfl) ?_))
          · refine' Ex.consX (ExS.ifX (v := true) (Tr.of (Tr.orE (v := true) (w := true) (Tr.of ?tr ?tv) (fun h => nomatch h)) rfl) (fun _ => ?h1b) (fun hb => nomatch hb))
            case tr => walk_at "tr"
            case tv => simp; omega
            case h1b =>
              refine Ex.consX (ExS.brkX (thenN ?_))
              refine Ex.consX (ExS.ret (Ev.name (by rfl)) ?_)
              show Dat.str _ = Dat.str _
              have hr0 : r = [] := by rw [← hr]; exact List.drop_of_length_le hge
              rw [p257, if_pos hq', ← hscan, hr0, scan_q, List.append_nil]
              simp
        case h2 =>
          have h34' : ¬ c = 34 := of_decide_eq_false h34
          refine Ex.nilX (thenN ?_)
          (refine' Ex.consX (ExS.assign (.inl (by rfl)) ?asg7 (thenN ?rest7)); (case' asg7 => walk_at "ev"))
          skip
          refine Ex.nilX ⟨l.length - (i + 1), by omega, _, ⟨rfl, i + 1, acc ++ [c], by omega, rfl, by simp; omega, ?_, rfl⟩, ?_⟩
          · rw [← hscan, hr, scan_ne _ h34']; simp
          · rw [S_append]; (repeat (first | exact Sub.nilS _ | refine Sub.consS (by rfl) ?_))
end

section
variable {w : World} {mg mb : Str → Option Value} {G : Heap}
def Rturned (ds : List Dat) (d : Dat) : Prop := ∃ l : List Nat, ds = [.str (S l)] ∧ l.length ≤ 1000000 ∧ d = .str (S (turn l))
theorem jn_nil_ones (l : List Nat) : jn [] (l.map fun c => [c]) = l := by
  induction l with
  | nil => rfl
  | cons a r ih =>
    cases r with
    | nil => rfl
    | cons b r =>
      show [a] ++ [] ++ jn [] (([b] : List Nat) :: r.map fun c => [c]) = _
      rw [show jn [] (([b] : List Nat) :: r.map fun c => [c]) = b :: r from ih]
      rfl
set_option maxHeartbeats 800000 in
theorem c_turned (KI : (KK w).In G) : Con PR w mg mb G 1 97 Rturned := by
  refine Con.of_def [Str.ofString "text"] (KI _ _ (by rfl)) (by rfl) ?_ (by rfl) (by rfl) (by rfl) (by rfl) (fun vs hv => ?_) (by decide) (by rfl) (fun ds d ⟨l, e, _⟩ => by rw [e]; rfl) (by decide) (by rfl) (by rfl) (by rfl) ?_
  · exact codeRec_of KI (by rfl)
  · match vs, hv with
    | [v], _ => rfl
  · rintro A L outer V s hd hu ds d ⟨l, rfl, hlen, rfl⟩
    dsimp only [parm, List.map, List.zip_cons_cons, List.zip_nil_right]
    refine' Ex.consX (ExS.ret (Ev.methS (x := S []) ?x1 (Ev.compA (xs := l) (j := fun c => Dat.str (S [c])) (g := fun c => Dat.str (S [trn c])) (ρc := []) (It.str (x := l) ?x2) (by rfl) Cap.nil ?turn ?sz1) F.slot_str_join F.type_str_join (Op2.joinL (l.map fun c => [trn c]) ?x5 ?x3)) ?x4)
    case x1 => exact Ev.strC
    case x2 => walk_at "ev"
    case x5 => simp
    case sz1 => walk_at "sz"
    case turn =>
      intro C s₁ V K D Dd acc c hc
      refine ⟨_, Sub.nilS _, As.name (.inl (by rfl)), ?_⟩
      have e1 : Str.ofString "\"" = S [34] := by decide
      have e2 : Str.ofString "'" = S [39] := by decide
      refine' Ev.ite (v := decide (c = 34)) (Tr.of ?tr1 ?tv1) (fun h => ?h1) (fun h => ?h2)
      case tr1 => walk_at "tr"
      case tv1 => rw [e1, S_beq]; by_cases h : c = 34 <;> simp [h]
      case h1 =>
        have : c = 34 := of_decide_eq_true h
        refine Ev.of Ev.strC ?_
        rw [e2]; simp [trn, this]
      case h2 =>
        have : ¬ c = 34 := of_decide_eq_false h
        refine' Ev.ite (v := decide (c = 39)) (Tr.of ?tr2 ?tv2) (fun h => ?h3) (fun h => ?h4)
        case tr2 => walk_at "tr"
        case tv2 => rw [e2, S_beq]; by_cases h : c = 39 <;> simp [h]
        case h3 =>
          have : c = 39 := of_decide_eq_true h
          refine Ev.of Ev.strC ?_
          rw [e1]; simp [trn, this]
        case h4 =>
          have h2 : ¬ c = 39 := of_decide_eq_false h
          refine Ev.of (Ev.name (by rfl)) ?_
          simp [trn, this, h2]
    case x3 =>
      simp only [List.map_map, List.length_map, List.length_nil, Nat.mul_zero, Nat.add_zero]
      have : (l.map (List.length ∘ fun c => [trn c])).sum = l.length := by
        clear hlen
        induction l with
        | nil => rfl
        | cons a r ih => simp only [List.map_cons, List.sum_cons, ih, List.length_cons, Function.comp]; simp; omega
      rw [this, sizeLine_eq]; omega
    case x4 =>
      show Dat.str _ = Dat.str _
      have := jn_nil_ones (turn l)
      unfold turn at this ⊢
      rw [List.map_map] at this
      exact congrArg (fun x => Dat.str (S x)) this
end

section
variable {w : World} {mg mb : Str → Option Value} {G : Heap}
def wsD (ws : List (Nat × List Nat)) : List Dat := ws.map fun p => Dat.str (S p.2)
def dsD (ws : List (Nat × List Nat)) : List Dat := ws.map fun p => Dat.int p.1
theorem dsD_length (ws : List (Nat × List Nat)) : (dsD ws).length = ws.length := by simp [dsD]
theorem dsD_app (ws : List (Nat × List Nat)) (st : List Nat) : dsD (app ws st) = dsD ws := by
  rcases List.eq_nil_or_concat ws with rfl | ⟨l, p, rfl⟩
  · rfl
  · rw [List.concat_eq_append]; unfold dsD app; simp
def Rread (ds : List Dat) (d : Dat) : Prop := ∃ l : List Nat, ds = [.str (S l)] ∧ l.length ≤ 400000 ∧ d = .tuple [.list (wsD (rd l)), .list (dsD (rd l))]
def Iread (l : List Nat) (k : Nat) (O : List (Addr × List Dat)) (ρ : List (Str × Slot)) : Prop :=
  ∃ (ad ae : Addr) (place : Nat) (fr : Bool) (ws : List (Nat × List Nat)), k = (l.drop place).length ∧ O = [(ae, dsD ws), (ad, wsD ws)] ∧ (fr = false → ws ≠ []) ∧ rdL (l.drop place) fr ws = rd l ∧
    wsum ws + (l.drop place).length ≤ l.length ∧ ws.length + (l.drop place).length ≤ l.length ∧
    ρ = [(Str.ofString "text", .dat (.str (S l))), (Str.ofString "turned", .dat (.str (S (turn l)))), (Str.ofString "words", .val (.ref ad)), (Str.ofString "dresses", .val (.ref ae)), (Str.ofString "place", .dat (.int place)), (Str.ofString "fresh", .dat (.bool fr))]
theorem wsD_length (ws : List (Nat × List Nat)) : (wsD ws).length = ws.length := by simp [wsD]
theorem wsD_last {ws : List (Nat × List Nat)} {p : Nat × List Nat} (h : ws.getLast? = some p) : (wsD ws)[ws.length - 1]? = some (.str (S p.2)) := by
  unfold wsD
  rw [List.getElem?_map, ← List.getLast?_eq_getElem?, h]; rfl
theorem wsD_app {ws : List (Nat × List Nat)} {p : Nat × List Nat} (st : List Nat) (h : ws.getLast? = some p) : (wsD ws).dropLast ++ [.str (S (p.2 ++ st))] = wsD (app ws st) := by
  rw [app_eq st h]; unfold wsD
  rw [List.map_append, List.map_dropLast]; rfl
theorem app_nil (ws : List (Nat × List Nat)) : app ws [] = ws := by
  unfold app
  cases h : ws.getLast? with
  | none => rfl
  | some p =>
    have : ws ≠ [] := by rintro rfl; simp at h
    rw [List.getLast?_eq_some_getLast this] at h
    have h' := Option.some.inj h
    have := List.dropLast_concat_getLast this
    rw [h'] at this
    simpa using this
set_option maxHeartbeats 1600000 in
theorem c_read (KI : (KK w).In G) (N : Names mg) : Con PR w mg mb G 2 104 Rread := by
  have hm := N.len
  refine Con.of_def [Str.ofString "text"] (KI _ _ (by rfl)) (by rfl) ?_ (by rfl) (by rfl) (by rfl) (by rfl) (fun vs hv => ?_) (by decide) (by rfl) (fun ds d ⟨l, e, _⟩ => by rw [e]; rfl) (by decide) (by rfl) (by rfl) (by rfl) ?_
  · exact codeRec_of KI (by rfl)
  · match vs, hv with
    | [v], _ => rfl
  · rintro A L outer V s hd hu ds d ⟨l, rfl, hlen, rfl⟩
    dsimp only [parm, List.map, List.zip_cons_cons, List.zip_nil_right]
    refine' Ex.consX (ExS.assign (.inl (by rfl)) (Ev.callF (Ev.global (by rfl) N.turned) (KI _ _ (by rfl)) (by rfl) ?x1 (OpN.con (c_turned KI) ⟨l, rfl, ?x2, rfl⟩ ?x3 ?x4)) (thenN ?_))
    case x1 => walk_at "evl"
    case x2 => omega
    case x3 => show A.depth + 1 + 1 < _; exact dep_lt hd (by decide)
    case x4 => show A.units + 3 + 40 * 1 + 100 < _; exact uni_lt (a := A.units) (d := 40 * 1) hu (by decide)
    refine Ex.consX (ExS.assignOwn (.inl (by rfl)) EvL.nilE fun ad => thenN ?_)
    refine Ex.consX (ExS.assignOwn (.inl (by rfl)) EvL.nilE fun ae => thenN ?_)
    (refine' Ex.consX (ExS.assign (.inl (by rfl)) ?asg8 (thenN ?rest8)); (case' asg8 => walk_at "ev"))
    (refine' Ex.consX (ExS.assign (.inl (by rfl)) ?asg9 (thenN ?rest9)); (case' asg9 => walk_at "ev"))
    skip
    refine Ex.weak (ρ' := [(Str.ofString "text", .dat (.str (S l))), (Str.ofString "turned", .dat (.str (S (turn l)))), (Str.ofString "words", .val (.ref ad)), (Str.ofString "dresses", .val (.ref ae)), (Str.ofString "place", .dat (.int (0 : Nat))), (Str.ofString "fresh", .dat (.bool true))]) ?_ (by (repeat (first | exact Sub.nilS _ | refine Sub.consS (by rfl) ?_)))
    refine Ex.consX (ExS.whileX (Iread l) l.length ⟨ad, ae, 0, true, [], by simp, rfl, (fun h => nomatch h), rfl, by simp [wsum], by simp, rfl⟩ ?_)
    rintro k O ρ ⟨ad, ae, place, fr, ws, rfl, rfl, hne, hrd, hs1, hs2, rfl⟩
    refine ⟨decide ((place : Int) < l.length), by rw [← S_length l]; walk_at "tr", fun hf => thenN ?_, fun ht => ?_⟩
    · have hil : l.length ≤ place := by have := of_decide_eq_false hf; omega
      rw [List.drop_of_length_le hil, rdL_nil] at hrd
      refine Ex.consX (ExS.retOwn2 (EvS.name (by rfl)) (EvS.name (by rfl)) (List.mem_cons_of_mem _ (List.mem_singleton.mpr rfl)) List.mem_cons_self ?_)
      show Dat.tuple _ = Dat.tuple _
      rw [hrd]
    · have hil : place < l.length := by have := of_decide_eq_true ht; omega
      obtain ⟨c, r, hcr⟩ : ∃ c r, l.drop place = c :: r := ⟨_, _, List.drop_eq_getElem_cons hil⟩
      have hc : l[place]? = some c := by
        have := congrArg (·[0]?) hcr
        simpa using this
      have hr : l.drop (place + 1) = r := by
        have := congrArg (List.drop 1) hcr
        simpa [List.drop_drop] using this
      have hrl : r.length = l.length - (place + 1) := by rw [← hr, List.length_drop]
      have hll : (l.drop place).length = r.length + 1 := by rw [hcr]; rfl
      rw [hll] at hs1 hs2
      rw [hcr] at hrd
      refine' Ex.consX (ExS.assign (.inl (by rfl)) (Ev.itemStr (cc := c) ?x1 ?x2 ?h0 ?hc ?sz) (thenN ?_))
      case x1 => walk_at "ev"
      case x2 => walk_at "ev"
      case h0 => omega
      case hc => simpa using hc
      case sz => walk_at "sz"
      skip
      generalize hws1 : beg fr c ws = ws1
      have hne1 : ws1 ≠ [] := by rw [← hws1]; exact beg_ne hne
      have hl1 : ws1.length ≤ ws.length + 1 := by rw [← hws1]; exact beg_length _ _ _
      have hsum1 : wsum ws1 = wsum ws := by rw [← hws1]; exact wsum_beg _ _ _
      obtain ⟨p, hp⟩ : ∃ p, ws1.getLast? = some p := ⟨_, List.getLast?_eq_some_getLast hne1⟩
      have hpl := wsum_last hp
      refine' Ex.consM [(ae, dsD ws1), (ad, wsD ws1)] [(Str.ofString "sign", .dat (.str (S [c]))), (Str.ofString "text", .dat (.str (S l))), (Str.ofString "turned", .dat (.str (S (turn l)))), (Str.ofString "words", .val (.ref ad)), (Str.ofString "dresses", .val (.ref ae)), (Str.ofString "place", .dat (.int place)), (Str.ofString "fresh", .dat (.bool fr))]
        (ExS.ifX (v := fr) (Tr.boolE (Ev.name (by rfl))) (fun hfr => ?h1) (fun hfr => ?h2)) ?_
      case h1 =>
        refine Ex.consX (ExS.append (i := 1) (EvS.name (by rfl)) (by rfl) Ev.strC (by rw [wsD_length, sizeLine_eq]; omega) (thenN ?_))
        refine' Ex.consX (ExS.append (i := 0) (ds := dsD ws) (d := .int ((if c = 34 then 1 else 0 : Nat) : Int)) (EvS.name (by rfl)) (by rfl) (Ev.ite (v := decide (c = 34)) (Tr.of ?z1 ?z2) (fun h => ?z3) (fun h => ?z4)) ?z5 (thenN ?z6))
        case z1 => walk_at "tr"
        case z2 => rw [show Str.ofString "\"" = S [34] from by decide, S_beq]; by_cases h : c = 34 <;> simp [h]
        case z3 =>
          refine Ev.of Ev.intC ?_
          rw [if_pos (of_decide_eq_true h)]; rfl
        case z4 =>
          refine Ev.of Ev.intC ?_
          rw [if_neg (of_decide_eq_false h)]; rfl
        case z5 => rw [dsD_length, sizeLine_eq]; omega
        case z6 =>
          have e : (([(ae, dsD ws), (ad, wsD ws)] : List (Addr × List Dat)).set 1 (ad, wsD ws ++ [.str (S [])])).set 0 (ae, dsD ws ++ [.int ((if c = 34 then 1 else 0 : Nat) : Int)]) = [(ae, dsD ws1), (ad, wsD ws1)] := by
            rw [← hws1]; subst hfr; simp [beg, wsD, dsD]
          rw [show Str.ofString "" = S [] from rfl, e]
          exact nilN (by (repeat (first | exact Sub.nilS _ | refine Sub.consS (by rfl) ?_)))
      case h2 =>
        have e : ws = ws1 := by rw [← hws1]; subst hfr; rfl
        rw [e]
        exact nilN (by (repeat (first | exact Sub.nilS _ | refine Sub.consS (by rfl) ?_)))
      refine' Ex.consM [(ae, dsD ws1), (ad, wsD ws1)] [(Str.ofString "sign", .dat (.str (S [c]))), (Str.ofString "text", .dat (.str (S l))), (Str.ofString "turned", .dat (.str (S (turn l)))), (Str.ofString "words", .val (.ref ad)), (Str.ofString "dresses", .val (.ref ae)), (Str.ofString "place", .dat (.int place)), (Str.ofString "fresh", .dat (.bool (decide (c = 32))))]
        (ExS.assign (d := .bool (decide (c = 32))) (.inl (by rfl)) (Ev.of ?x1 ?x2) (nextN ?x3)) ?_
      case x1 => walk_at "ev"
      case x2 =>
        rw [show Str.ofString " " = S [32] from rfl, S_beq]
        by_cases h : c = 32 <;> simp [h]
      case x3 => (repeat (first | exact Sub.nilS _ | refine Sub.consS (by rfl) ?_))
      have e34 : Str.ofString "\"" = S [34] := by decide
      have e39 : Str.ofString "'" = S [39] := by decide
      generalize hst : (if c = 39 ∨ c = 34 then scanQ c r else [c]) = st
      generalize hpl' : (if c = 39 ∨ c = 34 then place + (scanQ c r).length + (scanQ c r).count c + 2 else place + 1) = pl
      refine' Ex.consM [(ae, dsD ws1), (ad, wsD ws1)] [(Str.ofString "strand", .dat (.str (S st))), (Str.ofString "sign", .dat (.str (S [c]))), (Str.ofString "text", .dat (.str (S l))), (Str.ofString "turned", .dat (.str (S (turn l)))), (Str.ofString "words", .val (.ref ad)), (Str.ofString "dresses", .val (.ref ae)), (Str.ofString "place", .dat (.int pl)), (Str.ofString "fresh", .dat (.bool (decide (c = 32))))]
        (ExS.ifX (v := decide (c = 39 ∨ c = 34)) (Tr.of (Tr.cmp ?y1 ?y2 (Op2.inStrs (ys := [Str.ofString "'", Str.ofString "\""]))) ?y3) (fun hm => ?h1) (fun hm => ?h2)) ?_
      case y1 => walk_at "ev"
      case y2 => walk_at "ev"
      case y3 =>
        simp only [e34, e39, List.any_cons, List.any_nil, S_beq]
        by_cases h : c = 39 <;> by_cases h' : c = 34 <;> simp [h, h'] <;> omega
      case h1 =>
        have hm' : c = 39 ∨ c = 34 := of_decide_eq_true hm
        rw [if_pos hm'] at hst hpl'
        have e257 : Str.ofString "257 " = S [50, 53, 55, 32] := by decide
        generalize hlt : (if c = 34 then l else turn l) = lt
        have hltl : lt.length = l.length := by rw [← hlt]; split <;> simp [turn_length]
        have hsl : sl lt (some (place : Int)) none = 34 :: (if c = 34 then r else turn r) := by
          rw [sl_from, ← hlt]
          rcases hm' with rfl | rfl
          · simp only [if_neg (show ¬ (39 : Nat) = 34 by decide)]
            unfold turn
            rw [← List.map_drop, hcr]; rfl
          · simp only [if_true]; exact hcr
        generalize hsc : (if c = 34 then scanQ 34 r else scan (turn r)) = sc
        have hscl : sc.length = st.length := by
          rw [← hsc, ← hst]
          rcases hm' with rfl | rfl
          · simp only [if_neg (show ¬ (39 : Nat) = 34 by decide)]
            rw [scan_eq, ← turn_length, turn_scan]
          · simp
        refine' Ex.consM [(ae, dsD ws1), (ad, wsD ws1)] [(Str.ofString "strand", .dat (.str (S sc))), (Str.ofString "sign", .dat (.str (S [c]))), (Str.ofString "text", .dat (.str (S l))), (Str.ofString "turned", .dat (.str (S (turn l)))), (Str.ofString "words", .val (.ref ad)), (Str.ofString "dresses", .val (.ref ae)), (Str.ofString "place", .dat (.int place)), (Str.ofString "fresh", .dat (.bool (decide (c = 32))))]
          (ExS.assign (d := .str (S sc)) (.inl (by rfl)) (Ev.callF (Ev.global (by rfl) N.parse257) (KI _ _ (by rfl)) (by rfl) (EvL.consE (Ev.bin Ev.strC (Ev.sliceStr (x := lt) (Ev.ite (v := decide (c = 34)) (Tr.of ?z1 ?z2) (fun h => ?z3) (fun h => ?z4)) (EvP.yes ?z5) EvP.no ?z6) (Op2.addStr ?z7)) EvL.nilE) (OpN.con (c_parse257 KI N) ⟨[50, 53, 55, 32] ++ sl lt (some (place : Int)) none, ?w1, ?w2, ?w3, ?w4⟩ ?w5 ?w6)) (nextN ?nx)) ?_
        case z1 => walk_at "tr"
        case z2 => rw [e34, S_beq]; by_cases h : c = 34 <;> simp [h]
        case z3 =>
          have : c = 34 := of_decide_eq_true h
          refine Ev.of (Ev.name (by rfl)) ?_
          rw [← hlt, if_pos this]
        case z4 =>
          have : ¬ c = 34 := of_decide_eq_false h
          refine Ev.of (Ev.name (by rfl)) ?_
          rw [← hlt, if_neg this]
        case z5 => walk_at "ev"
        case z6 => rw [hltl, sizeLine_eq]; omega
        case z7 =>
          have := sl_length_le lt (some (place : Int)) none
          rw [e257, S_length, S_length, sizeLine_eq]
          simp only [List.length_cons, List.length_nil]
          omega
        case w1 => rw [e257, S_append]
        case w2 =>
          have := sl_length_le lt (some (place : Int)) none
          simp only [List.length_append, List.length_cons, List.length_nil]
          omega
        case w3 => rfl
        case w4 =>
          have e3 : ([50, 53, 55, 32] ++ sl lt (some (place : Int)) none).drop 3 = 32 :: sl lt (some (place : Int)) none := rfl
          have e5 : ([50, 53, 55, 32] ++ sl lt (some (place : Int)) none).drop 5 = (sl lt (some (place : Int)) none).drop 1 := rfl
          unfold p257
          have e7 : ∀ z : List Nat, List.take 2 (32 :: 34 :: z) = [32, 34] := fun _ => rfl
          rw [e3, e5, hsl, if_pos (e7 _), ← hsc]
          rcases hm' with rfl | rfl
          · rfl
          · rw [← scan_eq]; rfl
        case w5 => show A.depth + 1 + 1 < _; exact dep_lt hd (by decide)
        case w6 => show A.units + 3 + 40 * 1 + 100 < _; exact uni_lt (a := A.units) (d := 40 * 1) hu (by decide)
        case nx => (repeat (first | exact Sub.nilS _ | refine Sub.consS (by rfl) ?_))
        have hscl2 : sc.length ≤ r.length := by
          rw [hscl, ← hst]; exact scanQ_len c r
        refine' Ex.consM [(ae, dsD ws1), (ad, wsD ws1)] [(Str.ofString "strand", .dat (.str (S st))), (Str.ofString "sign", .dat (.str (S [c]))), (Str.ofString "text", .dat (.str (S l))), (Str.ofString "turned", .dat (.str (S (turn l)))), (Str.ofString "words", .val (.ref ad)), (Str.ofString "dresses", .val (.ref ae)), (Str.ofString "place", .dat (.int place)), (Str.ofString "fresh", .dat (.bool (decide (c = 32))))]
          (ExS.assign (d := .str (S st)) (.inl (by rfl)) (Ev.ite (v := decide (c = 34)) (Tr.of ?z1 ?z2) (fun h => ?z3) (fun h => ?z4)) (nextN ?z5)) ?_
        case z1 => walk_at "tr"
        case z2 => rw [e34, S_beq]; by_cases h : c = 34 <;> simp [h]
        case z3 =>
          have : c = 34 := of_decide_eq_true h
          refine Ev.of (Ev.name (by rfl)) ?_
          rw [← hsc, ← hst, if_pos this, this]
        case z4 =>
          have hn : ¬ c = 34 := of_decide_eq_false h
          have h39 : c = 39 := by omega
          refine Ev.callF (Ev.global (by rfl) N.turned) (KI _ _ (by rfl)) (by rfl) (EvL.consE (Ev.name (by rfl)) EvL.nilE) (OpN.con (c_turned KI) ⟨sc, rfl, ?_, ?_⟩ ?_ ?_)
          · omega
          · rw [← hsc, if_neg hn, scan_eq, turn_scan, ← hst, h39]
          · show A.depth + 1 + 1 < _; exact dep_lt hd (by decide)
          · show A.units + 3 + 40 * 1 + 100 < _; exact uni_lt (a := A.units) (d := 40 * 1) hu (by decide)
        case z5 => (repeat (first | exact Sub.nilS _ | refine Sub.consS (by rfl) ?_))
        refine' Ex.consX (ExS.assign (d := .int pl) (.inl (by rfl)) (Ev.of (Ev.bin (Ev.bin (Ev.bin ?z1 ?z2 Op2.addInt) (Ev.methS ?z3 ?z4 F.slot_str_count F.type_str_count (Op2.countOne (x := st) (y := c))) Op2.addInt) Ev.intC Op2.addInt) ?z5) (thenN (nilN ?nx)))
        case z1 => walk_at "ev"
        case z2 => walk_at "ev"
        case z3 => exact Ev.name (by rfl)
        case z4 => exact Ev.name (by rfl)
        case z5 =>
          congr 1
          rw [S_length, ← hpl', ← hst]
          have : (scanQ c r).count c = List.count c (scanQ c r) := rfl
          omega
        case nx => (repeat (first | exact Sub.nilS _ | refine Sub.consS (by rfl) ?_))
      case h2 =>
        have hm' : ¬ (c = 39 ∨ c = 34) := of_decide_eq_false hm
        rw [if_neg hm'] at hst hpl'
        refine' Ex.consX (ExS.assign (d := .str (S st)) (.inl (by rfl)) (Ev.of (Ev.name (by rfl)) (by rw [← hst])) (thenN ?_))
        refine' Ex.consX (ExS.assign (d := .int pl) (.inl (by rfl)) (Ev.of ?z1 ?z2) (thenN (nilN ?nx)))
        case z1 => walk_at "ev"
        case z2 => rw [← hpl']; rfl
        case nx => (repeat (first | exact Sub.nilS _ | refine Sub.consS (by rfl) ?_))
      have hstl : st.length ≤ r.length + 1 := by
        rw [← hst]; split
        · have := scanQ_len c r; omega
        · simp
      have hplc : place < pl := by rw [← hpl']; split <;> omega
      generalize hst2 : (if c = 32 then [] else st) = st2
      have hst2l : st2.length ≤ st.length := by rw [← hst2]; split <;> simp
      refine' Ex.consX (ExS.setLast (i := 1) (EvS.name (by rfl)) (by rfl) ?z1 (Ev.bin (Ev.itemOwn (EvS.name (by rfl)) (List.mem_cons_of_mem _ (List.mem_singleton.mpr rfl)) ?z2 ?z3 (wsD_last hp) ?z4) (Ev.ite (d := .str (S st2)) (v := decide (c = 32)) (Tr.boolE (Ev.name (by rfl))) (fun h => ?z5) (fun h => ?z6)) (Op2.addStr ?z7)) ?z8 ?z9 (thenN (Ex.nilX ?z10)))
      case z1 => walk_at "ev"
      case z2 => walk_at "ev"
      case z3 =>
        have : 0 < ws1.length := List.length_pos_iff.mpr hne1
        rw [wsD_length, seqIndex_neg (by decide) (by omega)]
        congr 1; omega
      case z4 => rw [wsD_length, sizeLine_eq]; omega
      case z5 =>
        refine Ev.of Ev.strC ?_
        rw [← hst2, if_pos (of_decide_eq_true h)]; rfl
      case z6 =>
        refine Ev.of (Ev.name (by rfl)) ?_
        rw [← hst2, if_neg (of_decide_eq_false h)]
      case z7 => rw [S_length, S_length, sizeLine_eq]; omega
      case z8 => intro h; exact hne1 (List.length_eq_zero_iff.mp (by rw [← wsD_length, h]; rfl))
      case z9 => rw [wsD_length, sizeLine_eq]; omega
      case z10 =>
        have eO : ([(ae, dsD ws1), (ad, wsD ws1)] : List (Addr × List Dat)).set 1 (ad, (wsD ws1).dropLast ++ [.str (S p.2 ++ S st2)]) = [(ae, dsD (app ws1 st2)), (ad, wsD (app ws1 st2))] := by
          rw [S_append, wsD_app st2 hp, dsD_app]; rfl
        rw [eO]
        have hdl : (l.drop pl).length = l.length - pl := List.length_drop
        have hwa := wsum_app (ws := ws1) st2
        have hla := app_length ws1 st2
        have hrem : rdL (l.drop pl) (decide (c = 32)) (app ws1 st2) = rd l := by
          rw [← hrd, ← hst2]
          by_cases hm : c = 39 ∨ c = 34
          · rw [if_pos hm] at hst hpl'
            rw [rdL_mark r fr ws hm, hws1, hst]
            have hc32 : ¬ c = 32 := by omega
            have e1 : l.drop pl = r.drop (st.length + st.count c + 1) := by
              rw [← hr, List.drop_drop, ← hpl', hst]; congr 1; omega
            rw [e1, if_neg hc32]; congr 1; simp [hc32]
          · rw [if_neg hm] at hst hpl'
            by_cases hc32 : c = 32
            · subst hc32
              rw [rdL_blank, hws1, if_pos rfl, app_nil, ← hpl', hr]; rfl
            · rw [rdL_sign r fr ws hm hc32, hws1, if_neg hc32, ← hst, ← hpl', hr]; congr 1; simp [hc32]
        have hcnt : st2.length + (l.drop pl).length ≤ r.length + 1 := by
          rw [hdl]
          by_cases hm : c = 39 ∨ c = 34
          · rw [if_pos hm] at hst hpl'
            rw [hst] at hpl'; omega
          · rw [if_neg hm] at hst hpl'
            rw [← hst] at hst2l; simp at hst2l; omega
        refine ⟨(l.drop pl).length, by rw [hdl, hll]; omega, _, ⟨ad, ae, pl, decide (c = 32), app ws1 st2, rfl, rfl, fun _ => app_ne _ hne1, hrem, ?_, ?_, rfl⟩, by (repeat (first | exact Sub.nilS _ | refine Sub.consS (by rfl) ?_))⟩
        · omega
        · rw [hla, hdl]; omega
end

section
variable {w : World} {mg mb : Str → Option Value} {G : Heap}
def oS : Option Nat → List Nat
  | none => []
  | some q => [q]
def Rwalked (ds : List Dat) (d : Dat) : Prop := ∃ l : List Nat, ds = [.str (S l)] ∧ l.length ≤ 400000 ∧ d = .tuple [.list (wsD (wk0 l).ws), .list (dsD (wk0 l).ws)]
-- what is kept while it is walked 
structure WkOk (i : Nat) (σ : Wk) : Prop where
  n : σ.ws.length ≤ i
  s : wsum σ.ws ≤ i
  ne : σ.fr = false → σ.ws ≠ []
  fi : σ.fr = true → σ.ins = none
theorem WkOk.step {i : Nat} {σ : Wk} (h : WkOk i σ) (c : Nat) : WkOk (i + 1) (wstp σ c) := by
  obtain ⟨h1, h2, h3, h4⟩ := h
  have hb := beg_length σ.fr c σ.ws
  have hs := wsum_beg σ.fr c σ.ws
  have hne : beg σ.fr c σ.ws ≠ [] := beg_ne h3
  have ha : ∀ u : List Nat, u.length ≤ 1 → WkOk (i + 1) ⟨app (beg σ.fr c σ.ws) u, none, none, false⟩ := fun u hu => by
    have e1 := app_length (beg σ.fr c σ.ws) u
    have e2 := wsum_app (ws := beg σ.fr c σ.ws) u
    exact ⟨by show (app _ u).length ≤ _; omega, by show wsum (app _ u) ≤ _; omega, fun _ => app_ne u hne, fun h => nomatch h⟩
  unfold wstp
  split
  · exact ⟨by show (beg _ _ _).length ≤ _; omega, by show wsum (beg _ _ _) ≤ _; omega, fun _ => hne, fun h => nomatch h⟩
  · split
    · obtain ⟨a, b, c, d⟩ := ha [c] (by simp); exact ⟨a, b, c, fun h => nomatch h⟩
    · split
      · obtain ⟨a, b, c, d⟩ := ha (if σ.cl = some c then [c] else []) (by split <;> simp); exact ⟨a, b, c, fun h => nomatch h⟩
      · split
        · exact ⟨by show (beg _ _ _).length ≤ _; omega, by show wsum (beg _ _ _) ≤ _; omega, (fun h => nomatch h), fun _ => rfl⟩
        · exact ha [c] (by simp)
theorem wk0_take (l : List Nat) (i : Nat) (c : Nat) (h : l[i]? = some c) : wk0 (l.take (i + 1)) = wstp (wk0 (l.take i)) c := by
  unfold wk0 wk
  rw [List.take_add_one, h, List.foldl_append]; rfl
theorem wk0_ok (l : List Nat) : ∀ i, i ≤ l.length → WkOk i (wk0 (l.take i))
  | 0, _ => ⟨by simp [wk0, wk], by simp [wk0, wk, wsum], (fun h => nomatch h), fun _ => rfl⟩
  | i + 1, h => by
    have hc : l[i]? = some l[i] := List.getElem?_eq_getElem (by omega)
    rw [wk0_take l i _ hc]
    exact (wk0_ok l i (by omega)).step _
def Iwalked (l : List Nat) (ad ae : Addr) (σ : Wk) (O : List (Addr × List Dat)) (ρ : List (Str × Slot)) : Prop :=
  O = [(ae, dsD σ.ws), (ad, wsD σ.ws)] ∧ ρ = [(Str.ofString "words", .val (.ref ad)), (Str.ofString "dresses", .val (.ref ae)), (Str.ofString "inside", .dat (.str (S (oS σ.ins)))), (Str.ofString "closed", .dat (.str (S (oS σ.cl)))), (Str.ofString "fresh", .dat (.bool σ.fr))]
theorem oS_eq (c : Nat) (o : Option Nat) : (S [c] == S (oS o)) = decide (o = some c) := by
  rw [S_beq]
  cases o with
  | none => rfl
  | some q => by_cases h : q = c <;> simp [oS, h, Ne.symm]
theorem oS_ne (o : Option Nat) : (S (oS o) != S []) = decide (o ≠ none) := by
  cases o with
  | none => rfl
  | some q => rfl
theorem oS_nil (o : Option Nat) : (S (oS o) == S []) = decide (o = none) := by
  cases o with
  | none => rfl
  | some q => rfl
def nxtR (P : List (Addr × List Dat) → List (Str × Slot) → Prop) : Ot → Prop
  | .next O ρ => ∃ ρ₁, P O ρ₁ ∧ Sub ρ₁ ρ
  | _ => False
set_option maxHeartbeats 3200000 in
theorem c_walked (KI : (KK w).In G) (N : Names mg) : Con PR w mg mb G 1 111 Rwalked := by
  refine Con.of_def [Str.ofString "text"] (KI _ _ (by rfl)) (by rfl) ?_ (by rfl) (by rfl) (by rfl) (by rfl) (fun vs hv => ?_) (by decide) (by rfl) (fun ds d ⟨l, e, _⟩ => by rw [e]; rfl) (by decide) (by rfl) (by rfl) (by rfl) ?_
  · exact codeRec_of KI (by rfl)
  · match vs, hv with
    | [v], _ => rfl
  · rintro A L outer V s hd hu ds d ⟨l, rfl, hlen, rfl⟩
    dsimp only [parm, List.map, List.zip_cons_cons, List.zip_nil_right]
    refine Ex.consX (ExS.assignOwn (.inl (by rfl)) EvL.nilE fun ad => thenN ?_)
    refine Ex.consX (ExS.assignOwn (.inl (by rfl)) EvL.nilE fun ae => thenN ?_)
    (refine' Ex.consX (ExS.assign (.inl (by rfl)) ?asg10 (thenN ?rest10)); (case' asg10 => walk_at "ev"))
    (refine' Ex.consX (ExS.assign (.inl (by rfl)) ?asg11 (thenN ?rest11)); (case' asg11 => walk_at "ev"))
    (refine' Ex.consX (ExS.assign (.inl (by rfl)) ?asg12 (thenN ?rest12)); (case' asg12 => walk_at "ev"))
    skip
    refine' Ex.consX (ExS.forX (ds := l.map fun c => Dat.str (S [c])) (It.str (x := l) ?x1) (fun i O ρ => Iwalked l ad ae (wk0 (l.take i)) O ρ) ?x3 ?x4 ?x5 ?x6)
    case x1 => walk_at "ev"
    case x3 => exact ⟨_, ⟨rfl, rfl⟩, by (repeat (first | exact Sub.nilS _ | refine Sub.consS (by rfl) ?_))⟩
    case x4 => rintro i O' ρ' ⟨rfl, _⟩; rfl
    case x5 =>
      rintro V' K D i O' ρ' d hI hd'
      rw [List.getElem?_map] at hd'
      obtain ⟨c, hc, rfl⟩ := Option.map_eq_some_iff.mp hd'
      have hil : i < l.length := (List.getElem?_eq_some_iff.mp hc).1
      have W := wk0_ok l i (by omega)
      have hstep := wk0_take l i c hc
      generalize hσ : wk0 (l.take i) = σ at hI W hstep
      obtain ⟨ws, ins, cl, fr⟩ := σ
      obtain ⟨rfl, rfl⟩ := hI
      obtain ⟨W1, W2, W3, W4⟩ := W
      dsimp only at W1 W2 W3 W4 ⊢
      refine ⟨_, As.name (.inl (by rfl)), ?_⟩
      generalize hws1 : beg fr c ws = ws1
      have hne1 : ws1 ≠ [] := by rw [← hws1]; exact beg_ne W3
      have hl1 : ws1.length ≤ ws.length + 1 := by rw [← hws1]; exact beg_length _ _ _
      have hsum1 : wsum ws1 = wsum ws := by rw [← hws1]; exact wsum_beg _ _ _
      obtain ⟨p, hp⟩ : ∃ p, ws1.getLast? = some p := ⟨_, List.getLast?_eq_some_getLast hne1⟩
      have hpl := wsum_last hp
      refine' Ex.consM [(ae, dsD ws1), (ad, wsD ws1)] [(Str.ofString "sign", .dat (.str (S [c]))), (Str.ofString "words", .val (.ref ad)), (Str.ofString "dresses", .val (.ref ae)), (Str.ofString "inside", .dat (.str (S (oS ins)))), (Str.ofString "closed", .dat (.str (S (oS cl)))), (Str.ofString "fresh", .dat (.bool fr))]
        (ExS.ifX (v := fr) (Tr.boolE (Ev.name (by rfl))) (fun hfr => ?h1) (fun hfr => ?h2)) ?_
      case h1 =>
        refine Ex.consX (ExS.append (i := 1) (EvS.name (by rfl)) (by rfl) Ev.strC (by rw [wsD_length, sizeLine_eq]; omega) (thenN ?_))
        refine' Ex.consX (ExS.append (i := 0) (ds := dsD ws) (d := .int ((if c = 34 then 1 else 0 : Nat) : Int)) (EvS.name (by rfl)) (by rfl) (Ev.ite (v := decide (c = 34)) (Tr.of ?z1 ?z2) (fun h => ?z3) (fun h => ?z4)) ?z5 (thenN ?z6))
        case z1 => walk_at "tr"
        case z2 => rw [show Str.ofString "\"" = S [34] from by decide, S_beq]; by_cases h : c = 34 <;> simp [h]
        case z3 =>
          refine Ev.of Ev.intC ?_
          rw [if_pos (of_decide_eq_true h)]; rfl
        case z4 =>
          refine Ev.of Ev.intC ?_
          rw [if_neg (of_decide_eq_false h)]; rfl
        case z5 => rw [dsD_length, sizeLine_eq]; omega
        case z6 =>
          have e : (([(ae, dsD ws), (ad, wsD ws)] : List (Addr × List Dat)).set 1 (ad, wsD ws ++ [.str (S [])])).set 0 (ae, dsD ws ++ [.int ((if c = 34 then 1 else 0 : Nat) : Int)]) = [(ae, dsD ws1), (ad, wsD ws1)] := by
            rw [← hws1]; subst hfr; simp [beg, wsD, dsD]
          rw [show Str.ofString "" = S [] from rfl, e]
          exact nilN (by (repeat (first | exact Sub.nilS _ | refine Sub.consS (by rfl) ?_)))
      case h2 =>
        have e : ws = ws1 := by rw [← hws1]; subst hfr; rfl
        rw [e]
        exact nilN (by (repeat (first | exact Sub.nilS _ | refine Sub.consS (by rfl) ?_)))
      have e34 : Str.ofString "\"" = S [34] := by decide
      have e39 : Str.ofString "'" = S [39] := by decide
      have e32 : Str.ofString " " = S [32] := by decide
      have e0 : Str.ofString "" = S [] := by rfl
      generalize hf2 : (decide (ins = none) && decide (c = 32)) = fr2
      refine' Ex.consM [(ae, dsD ws1), (ad, wsD ws1)] [(Str.ofString "sign", .dat (.str (S [c]))), (Str.ofString "words", .val (.ref ad)), (Str.ofString "dresses", .val (.ref ae)), (Str.ofString "inside", .dat (.str (S (oS ins)))), (Str.ofString "closed", .dat (.str (S (oS cl)))), (Str.ofString "fresh", .dat (.bool fr2))]
        (ExS.assign (d := .bool fr2) (.inl (by rfl)) (Ev.of (Ev.andB (a := decide (ins = none)) (b := decide (c = 32)) (Ev.of ?x1 ?x2) (fun _ => Ev.of ?x3 ?x4)) (by rw [hf2])) (nextN (by (repeat (first | exact Sub.nilS _ | refine Sub.consS (by rfl) ?_))))) ?_
      case x1 => walk_at "ev"
      case x2 => rw [e0, oS_nil]
      case x3 => walk_at "ev"
      case x4 => rw [e32, S_beq]; by_cases h : c = 32 <;> simp [h]
      -- a word goes on
      have setw : ∀ (f : Fm) (ρ : List (Str × Slot)) (e : Expr) (u : List Nat) (rest : List Stmt) (Φ : Ot → Prop) (np1 np2 pp1 pp2 ps1 ps2 cp1 cp2 bp ap : Pos) (k1 k2 : Nat), ρ.lookup (Str.ofString "words") = some (.val (.ref ad)) → Ev f [(ae, dsD ws1), (ad, wsD ws1)] ρ e (.str (S u)) → u.length ≤ 1 →
          Ex f [(ae, dsD (app ws1 u)), (ad, wsD (app ws1 u))] ρ rest Φ →
          Ex f [(ae, dsD ws1), (ad, wsD ws1)] ρ (.Assign [.Subscript (.Name (Str.ofString "words") np1) (.UnaryOp .USub (.Constant (.int 1) k1 cp1) pp1) ps1] (.BinOp (.Subscript (.Name (Str.ofString "words") np2) (.UnaryOp .USub (.Constant (.int 1) k2 cp2) pp2) ps2) .Add e bp) ap :: rest) Φ := by
        intro f ρ e u rest Φ np1 np2 pp1 pp2 ps1 ps2 cp1 cp2 bp ap k1 k2 hw he hu hr
        refine' Ex.consX (ExS.setLast (i := 1) (EvS.name hw) (by rfl) (Ev.neg Ev.intC) (Ev.bin (Ev.itemOwn (EvS.name hw) (List.mem_cons_of_mem _ (List.mem_singleton.mpr rfl)) (Ev.neg Ev.intC) ?z3 (wsD_last hp) ?z4) he (Op2.addStr ?z7)) ?z8 ?z9 (thenN ?z10))
        case z3 =>
          have : 0 < ws1.length := List.length_pos_iff.mpr hne1
          rw [wsD_length, seqIndex_neg (by decide) (by omega)]
          congr 1; omega
        case z4 => rw [wsD_length, sizeLine_eq]; omega
        case z7 => rw [S_length, S_length, sizeLine_eq]; omega
        case z8 => intro h; exact hne1 (List.length_eq_zero_iff.mp (by rw [← wsD_length, h]; rfl))
        case z9 => rw [wsD_length, sizeLine_eq]; omega
        case z10 =>
          have eO : ([(ae, dsD ws1), (ad, wsD ws1)] : List (Addr × List Dat)).set 1 (ad, (wsD ws1).dropLast ++ [.str (S p.2 ++ S u)]) = [(ae, dsD (app ws1 u)), (ad, wsD (app ws1 u))] := by
            rw [S_append, wsD_app u hp, dsD_app]; rfl
          rw [eO]
          exact hr
      refine Ex.mono (Φ := nxtR (Iwalked l ad ae (wstp ⟨ws, ins, cl, fr⟩ c))) ?_ (fun o ho => by
        cases o with
        | next O ρ => show ∃ ρ₁, Iwalked l ad ae (wk0 (l.take (i + 1))) O ρ₁ ∧ Sub ρ₁ ρ; rw [hstep]; exact ho
        | brk O ρ => exact ho.elim
        | cont O ρ => exact ho.elim
        | ret d => exact ho.elim)
      refine' Ex.consX (ExS.ifX (v := decide (ins = some c)) (Tr.of ?y1 ?y2) (fun h => ?g1) (fun h => ?g2))
      case y1 => walk_at "tr"
      case y2 => rw [oS_eq]
      case g1 =>
        have h' := of_decide_eq_true h
        refine' Ex.consX (ExS.assignSwap (x := Str.ofString "inside") (y := Str.ofString "closed") (d1 := .str (S [])) (d2 := .str (S [c])) (.inl (by rfl)) (.inl (by rfl)) (Ev.tupleD (EvL.consE (Ev.of Ev.strC ?z1) (EvL.consE (Ev.name (by rfl)) EvL.nilE))) (thenN (Ex.nilX (thenN (Ex.nilX ⟨_, ⟨?z2, rfl⟩, ?z3⟩)))))
        case z1 => rw [e0]
        case z2 => subst h'; simp only [wstp, if_true, hws1]
        case z3 =>
          subst h'
          have : fr2 = false := by rw [← hf2]; rfl
          subst this
          simp only [wstp, if_true]
          (repeat (first | exact Sub.nilS _ | refine Sub.consS (by rfl) ?_))
      case g2 =>
        have h1 := of_decide_eq_false h
        refine' Ex.consX (ExS.ifX (v := decide (ins ≠ none)) (Tr.of ?y1 ?y2) (fun h => ?g1) (fun h => ?g2))
        case y1 => walk_at "tr"
        case y2 => rw [e0, oS_ne]
        case g1 =>
          have h2 := of_decide_eq_true h
          have hf3 : fr2 = false := by rw [← hf2]; cases ins with | none => exact absurd rfl h2 | some q => rfl
          subst hf3
          refine setw _ _ _ [c] _ _ _ _ _ _ _ _ _ _ _ _ _ _ (by rfl) (Ev.name (by rfl)) (by simp) (Ex.nilX (thenN (Ex.nilX (thenN (Ex.nilX ⟨_, ⟨?_, rfl⟩, ?_⟩)))))
          · simp only [wstp, if_neg h1, if_pos h2, hws1]
          · simp only [wstp, if_neg h1, if_pos h2]
            (repeat (first | exact Sub.nilS _ | refine Sub.consS (by rfl) ?_))
        case g2 =>
          have h2 : ins = none := by simpa using h
          subst h2
          refine' Ex.consX (ExS.ifX (v := decide (c = 39 ∨ c = 34)) (Tr.of (Tr.cmp ?y1 ?y2 (Op2.inStrs (ys := [Str.ofString "'", Str.ofString "\""]))) ?y3) (fun h => ?g1) (fun h => ?g2))
          case y1 => walk_at "ev"
          case y2 => walk_at "ev"
          case y3 =>
            simp only [e34, e39, List.any_cons, List.any_nil, S_beq]
            by_cases h : c = 39 <;> by_cases h' : c = 34 <;> simp [h, h'] <;> omega
          case g1 =>
            have h3 := of_decide_eq_true h
            have hf3 : fr2 = false := by rw [← hf2]; have : ¬ c = 32 := by omega
                                         simp [this]
            subst hf3
            refine' setw _ _ _ (if cl = some c then [c] else []) _ _ _ _ _ _ _ _ _ _ _ _ _ _ (by rfl) (Ev.ite (v := decide (cl = some c)) (Tr.of ?q1 ?q2) (fun h => ?q3) (fun h => ?q4)) (by split <;> simp) ?q5
            case q1 => walk_at "tr"
            case q2 => rw [oS_eq]
            case q3 =>
              refine Ev.of (Ev.name (by rfl)) ?_
              rw [if_pos (of_decide_eq_true h)]
            case q4 =>
              refine Ev.of Ev.strC ?_
              rw [if_neg (of_decide_eq_false h), e0]
            refine' Ex.consX (ExS.assignSwap (x := Str.ofString "inside") (y := Str.ofString "closed") (d1 := .str (S [c])) (d2 := .str (S [])) (.inl (by rfl)) (.inl (by rfl)) (Ev.tupleD (EvL.consE (Ev.name (by rfl)) (EvL.consE (Ev.of Ev.strC ?z1) EvL.nilE))) (thenN (Ex.nilX (thenN (Ex.nilX (thenN (Ex.nilX (thenN (Ex.nilX ⟨_, ⟨?z2, rfl⟩, ?z3⟩)))))))))
            case z1 => rw [e0]
            case z2 => simp only [wstp, if_neg h1, if_pos h3, hws1, ne_eq, not_true_eq_false, if_false]
            case z3 =>
              simp only [wstp, if_neg h1, if_pos h3, ne_eq, not_true_eq_false, if_false]
              (repeat (first | exact Sub.nilS _ | refine Sub.consS (by rfl) ?_))
          case g2 =>
            have h3 := of_decide_eq_false h
            have hu : app ws1 (if c = 32 then [] else [c]) = if c = 32 then ws1 else app ws1 [c] := by split <;> simp [app_nil0]
            refine setw _ _ _ (if c = 32 then [] else [c]) _ _ _ _ _ _ _ _ _ _ _ _ _ _ (by rfl) (Ev.ite (v := fr2) (Tr.boolE (Ev.name (by rfl))) (fun h => ?_) (fun h => ?_)) (by split <;> simp) ?_
            · refine Ev.of Ev.strC ?_
              rw [← hf2] at h
              have : c = 32 := by simpa using h
              rw [if_pos this, e0]
            · refine Ev.of (Ev.name (by rfl)) ?_
              rw [← hf2] at h
              have : ¬ c = 32 := by simpa using h
              rw [if_neg this]
            refine' Ex.consX (ExS.assign (d := .str (S [])) (.inl (by rfl)) (Ev.of Ev.strC ?z1) (thenN (Ex.nilX (thenN (Ex.nilX (thenN (Ex.nilX (thenN (Ex.nilX ⟨_, ⟨?z2, rfl⟩, ?z3⟩)))))))))
            case z1 => rw [e0]
            case z2 =>
              rw [hu]
              by_cases h32 : c = 32
              · simp only [wstp, if_neg h1, if_neg h3, if_pos h32, hws1, ne_eq, not_true_eq_false, if_false]
              · simp only [wstp, if_neg h1, if_neg h3, if_neg h32, hws1, ne_eq, not_true_eq_false, if_false]
            case z3 =>
              have hfr2 : fr2 = decide (c = 32) := by rw [← hf2]; rfl
              subst hfr2
              by_cases h32 : c = 32
              · simp only [wstp, if_neg h1, if_neg h3, if_pos h32, ne_eq, not_true_eq_false, if_false]
                have : decide (c = 32) = true := decide_eq_true h32
                rw [this]
                (repeat (first | exact Sub.nilS _ | refine Sub.consS (by rfl) ?_))
              · simp only [wstp, if_neg h1, if_neg h3, if_neg h32, ne_eq, not_true_eq_false, if_false]
                have : decide (c = 32) = false := decide_eq_false h32
                rw [this]
                (repeat (first | exact Sub.nilS _ | refine Sub.consS (by rfl) ?_))
    case x6 =>
      rintro O' ρ' ⟨rfl, rfl⟩
      rw [List.length_map, List.take_length]
      refine Ex.consX (ExS.retOwn2 (EvS.name (by rfl)) (EvS.name (by rfl)) (List.mem_cons_of_mem _ (List.mem_singleton.mpr rfl)) List.mem_cons_self rfl)
end

section
variable {w : World} {mg mb : Str → Option Value} {G : Heap}
-- the shell's dress of a text 
def QZ : List Nat := [39, 34, 39, 34, 39]
def qt (l : List Nat) : List Nat := if l = [] then [39, 39] else if l.all safeN then l else 39 :: rep 39 QZ l ++ [39]
def Rquote (ds : List Dat) (d : Dat) : Prop := ∃ l : List Nat, ds = [.str (S l)] ∧ l.length ≤ 50000 ∧ d = .str (S (qt l))
theorem patF (KI : (KK w).In G) : PatIs G 44 36 35 :=
  ⟨KI _ _ (by rfl), ⟨_, _, _, _, _, _, KI _ _ (by rfl)⟩, ⟨_, _, _, KI _ _ (by rfl), by decide +kernel⟩⟩
set_option maxHeartbeats 800000 in
theorem c_quote (KI : (KK w).In G) (N : Names mg) : Con PR w mg mb G 1 51 Rquote := by
  refine Con.of_def [Str.ofString "s"] (KI _ _ (by rfl)) (by rfl) ?_ (by rfl) (by rfl) (by rfl) (by rfl) (fun vs hv => ?_) (by decide) (by rfl) (fun ds d ⟨l, e, _⟩ => by rw [e]; rfl) (by decide) (by rfl) (by rfl) (by rfl) ?_
  · exact codeRec_of KI (by rfl)
  · match vs, hv with
    | [v], _ => rfl
  · rintro A L outer V s hd hu ds d ⟨l, rfl, hlen, rfl⟩
    dsimp only [parm, List.map, List.zip_cons_cons, List.zip_nil_right]
    refine' Ex.consX (ExS.ifX (v := decide (l = [])) (Tr.of (Tr.notE (Tr.strE (Ev.name (by rfl)) ?x1)) ?x2) (fun h => ?h1) (fun h => ?h2))
    case x1 => rw [S_length, sizeLine_eq]; omega
    case x2 => rw [S_length]; cases l <;> simp; omega
    case h1 =>
      have : l = [] := of_decide_eq_true h
      refine Ex.consX (ExS.ret Ev.strC ?_)
      show Dat.str _ = Dat.str _
      rw [qt, if_pos this]; rfl
    case h2 =>
      have hne : ¬ l = [] := of_decide_eq_false h
      refine Ex.nilX (thenN ?_)
      refine' Ex.consX (ExS.ifX (v := l.all safeN) (Tr.findUnsafe (Ev.global (by rfl) N.find) (patF KI) (Ev.name (by rfl)) ?x1) (fun h => ?h1) (fun h => ?h2))
      case x1 => rw [sizeLine_eq]; omega
      case h1 =>
        refine Ex.consX (ExS.ret (Ev.name (by rfl)) ?_)
        show Dat.str _ = Dat.str _
        rw [qt, if_neg hne, if_pos h]
      case h2 =>
        have hl : (rep 39 QZ l).length ≤ l.length * 6 := rep_length 39 QZ l
        have e39 : Str.ofString "'" = S [39] := by decide
        have ez : Str.ofString "'\"'\"'" = S QZ := by decide
        refine Ex.nilX (thenN ?_)
        refine Ex.consX (ExS.ret (d := .str (S (qt l))) (Ev.of (Ev.bin (Ev.replC (a := Str.ofString "'") (y := 39) (z := QZ) (l := l) (by rfl) (by decide) (by omega) (by decide) ?_) Ev.strC (Op2.addStr ?_)) ?_) rfl)
        · rw [jn_cut, e39, S_length, sizeLine_eq]
          have : QZ.length = 5 := rfl
          simp; omega
        · rw [jn_cut, e39, S_append, S_length, S_length, sizeLine_eq]
          have : QZ.length = 5 := rfl
          simp; omega
        · rw [jn_cut, e39, S_append, S_append, qt, if_neg hne, if_neg (by rw [h]; decide)]
          rfl
end

section
variable {w : World} {mg mb : Str → Option Value} {G : Heap}
def Rjoin (ds : List Dat) (d : Dat) : Prop := ∃ ps : List (List Nat), ds = [.list (ps.map fun p => .str (S p))] ∧ ps.length ≤ sizeLine ∧ (∀ p ∈ ps, p.length ≤ 50000) ∧ ((ps.map qt).map List.length).sum + ps.length ≤ sizeLine ∧ d = .str (S (jn [32] (ps.map qt)))
theorem codeJ (T : TopF w mg G) : CodeIs G 42 38 :=
  ⟨⟨_, _, _, _, _, _, _, _, _, T.KI _ _ (by rfl), rfl, rfl, rfl, rfl, rfl, rfl, rfl⟩, by decide, T.t38⟩
set_option maxHeartbeats 800000 in
theorem c_join (T : TopF w mg G) : Con PR w mg mb G 5 43 Rjoin := by
  refine Con.of_def [Str.ofString "split_command"] (T.KI _ _ (by rfl)) (by rfl) ?_ (by rfl) (by rfl) (by rfl) (by rfl) (fun vs hv => ?_) (by decide) (by rfl) (fun ds d ⟨l, e, _⟩ => by rw [e]; rfl) (by decide) (by rfl) (by rfl) (by rfl) ?_
  · exact codeRec_of T.KI (by rfl)
  · match vs, hv with
    | [v], _ => rfl
  · rintro A L outer V s hd hu ds d ⟨ps, rfl, hlen, hpl, hj, rfl⟩
    dsimp only [parm, List.map, List.zip_cons_cons, List.zip_nil_right]
    refine Ex.consX (ExS.ret (Ev.joinGen (sep := [32]) (ps := ps) (gf := qt) (codeJ T) (by rfl) T.B (by rfl) (c_quote (erase_in T.KI) T.N) (fun p hp => ⟨p, rfl, hpl p hp, rfl⟩) (T.KI _ _ (by rfl)) (by rfl) (by rfl) T.N.quote (by rfl) (by rfl) (by decide) (by rfl) (by rfl) (by rfl) ?_ ?_ hlen ?_) rfl)
    · show A.depth + 1 + 2 < _; exact dep_lt hd (by decide)
    · show A.units + 3 + 8 + 40 + 100 < _; omega
    · simpa using hj
end

abbrev Step := Nat × Option (List Nat)
def SAFE : List Nat := [97, 98, 99, 100, 101, 102, 103, 104, 105, 106, 107, 108, 109, 110, 111, 112, 113, 114, 115, 116, 117, 118, 119, 120, 121, 122, 65, 66, 67, 68, 69, 70, 71, 72, 73, 74, 75, 76, 77, 78, 79, 80, 81, 82, 83, 84, 85, 86, 87, 88, 89, 90, 48, 49, 50, 51, 52, 53, 54, 55, 56, 57, 95, 64, 37, 43, 61, 58, 44, 46, 47, 45]
theorem eSAFE : Str.ofString "abcdefghijklmnopqrstuvwxyzABCDEFGHIJKLMNOPQRSTUVWXYZ0123456789_@%+=:,./-" = S SAFE := by decide +kernel
def okw (w : List Nat) : Bool := !(w == []) && w.all fun c => decide (c ∈ SAFE)
def hid (x : Int) : List Step := if x ≠ 0 then [(34, some []), (34, some [34])] else [(39, some []), (34, some []), (39, some [39]), (34, some []), (39, some [])]
def mk (x : Int) : Nat := if x ≠ 0 then 34 else 39
def sg (x : Int) (c : Nat) : List Step := if c = mk x then hid x else [(c, some [c])]
def stp (x : Int) (w : List Nat) : List Step := if x = 0 ∧ okw w = true then w.map fun c => (c, some [c]) else (mk x, some []) :: (w.flatMap (sg x) ++ [(mk x, some [])])
-- signs 
def okc (l : List Nat) : Prop := ∀ c ∈ l, c < 1114112
theorem strOk_S {l : List Nat} (h : okc l) : PyData.strOk (S l) = true := by
  unfold PyData.strOk S
  simp only [List.size_toArray, List.all_toArray', List.all_eq_true, decide_eq_true_eq]
  exact h
def wD (ws : List (List Nat)) : List Dat := ws.map fun p => Dat.str (S p)
def iD (xs : List Int) : List Dat := xs.map Dat.int
def lineP (ps : List (List Nat × Int)) : List Step := ps.flatMap fun p => (32, none) :: stp p.2 p.1
def rt (l : List Nat) : List Nat := 34 :: rep 34 [34, 34] l ++ [34]
def drs (x : Int) (l : List Nat) : List Nat := if x ≠ 0 then rt l else qt l
def tD (p : List Nat × Int) : Dat := .tuple [.str (S p.1), .int p.2]
def tstep (a : List (List Nat) × Bool) (p : Step) : List (List Nat) × Bool :=
  match p.2 with
  | none => (a.1, true)
  | some t => (if a.2 then a.1 ++ [t] else a.1.dropLast ++ [a.1.getLastD [] ++ t], false)
-- ## steps read as told 
def sndL (ws : List (Nat × List Nat)) : List (List Nat) := ws.map (·.2)
abbrev TS := List (List Nat) × Bool
def Gd : Wk → TS → List Step → Prop
  | _, _, [] => True
  | σ, τ, p :: r => sndL (wstp σ p.1).ws = (tstep τ p).1 ∧ Gd (wstp σ p.1) (tstep τ p) r
-- the steps are read and told alike 
structure Rn (σ : Wk) (τ : TS) (a : List Step) (σ' : Wk) (τ' : TS) : Prop where
  g : Gd σ τ a
  w : wk σ (a.map (·.1)) = σ'
  t : a.foldl tstep τ = τ'
theorem Rn.nil {σ : Wk} {τ : TS} : Rn σ τ [] σ τ := ⟨trivial, rfl, rfl⟩
theorem Gd.app {a b : List Step} : ∀ {σ : Wk} {τ : TS}, Gd σ τ a → Gd (wk σ (a.map (·.1))) (a.foldl tstep τ) b → Gd σ τ (a ++ b) := by
  induction a with
  | nil => intro σ τ _ h; exact h
  | cons p r ih => intro σ τ h1 h2; exact ⟨h1.1, ih h1.2 h2⟩
theorem Rn.app {σ σ' σ'' : Wk} {τ τ' τ'' : TS} {a b : List Step} (x : Rn σ τ a σ' τ') (y : Rn σ' τ' b σ'' τ'') : Rn σ τ (a ++ b) σ'' τ'' := by
  obtain ⟨g1, rfl, rfl⟩ := x
  refine ⟨g1.app y.g, ?_, ?_⟩
  · rw [List.map_append, wk_app]; exact y.w
  · rw [List.foldl_append]; exact y.t
-- a step whose walk and telling are known 
theorem Rn.one {σ σ' : Wk} {τ τ' : TS} {p : Step} (h1 : wstp σ p.1 = σ') (h2 : tstep τ p = τ') (h : sndL σ'.ws = τ'.1) : Rn σ τ [p] σ' τ' := by
  subst h1; subst h2; exact ⟨⟨h, trivial⟩, rfl, rfl⟩
theorem tstep_some (W : List (List Nat)) (u t : List Nat) (c : Nat) : tstep (W ++ [u], false) (c, some t) = (W ++ [u ++ t], false) := by
  simp [tstep]
theorem tstep_new (W : List (List Nat)) (t : List Nat) (c : Nat) : tstep (W, true) (c, some t) = (W ++ [t], false) := by
  simp [tstep]
theorem sndL_app (ws : List (Nat × List Nat)) (t : Nat) (u : List Nat) : sndL (ws ++ [(t, u)]) = sndL ws ++ [u] := by simp [sndL]
theorem mk_mark (x : Int) : mk x = 39 ∨ mk x = 34 := by unfold mk; split <;> simp
-- within a word in marks 
abbrev inW (ws : List (Nat × List Nat)) (t : Nat) (u : List Nat) (x : Int) : Wk := ⟨ws ++ [(t, u)], some (mk x), none, false⟩
theorem sg_run (ws : List (Nat × List Nat)) (t : Nat) (u : List Nat) (x : Int) (c : Nat) : Rn (inW ws t u x) (sndL ws ++ [u], false) (sg x c) (inW ws t (u ++ [c]) x) (sndL ws ++ [u ++ [c]], false) := by
  unfold sg
  split
  · rename_i hc
    subst hc
    unfold hid
    split
    · rename_i hx
      have hm : mk x = 34 := by unfold mk; rw [if_pos hx]
      unfold inW
      rw [hm]
      refine Rn.app (a := [_]) (σ' := ⟨ws ++ [(t, u)], none, some 34, false⟩) (τ' := (sndL ws ++ [u], false)) (Rn.one (wstp_close _ _ _) ?_ (sndL_app _ _ _)) (Rn.one ?_ ?_ (sndL_app _ _ _))
      · rw [tstep_some, List.append_nil]
      · rw [wstp_open _ _ _ (.inr rfl), if_pos rfl]
        simp only [beg, Bool.false_eq_true, if_false, app_concat]
      · rw [tstep_some]
    · rename_i hx
      have hm : mk x = 39 := by unfold mk; rw [if_neg hx]
      unfold inW
      rw [hm]
      refine Rn.app (a := [_]) (σ' := ⟨ws ++ [(t, u)], none, some 39, false⟩) (τ' := (sndL ws ++ [u], false)) (Rn.one (wstp_close _ _ _) ?_ ?_) (Rn.app (a := [_]) (σ' := ⟨ws ++ [(t, u)], some 34, none, false⟩) (τ' := (sndL ws ++ [u], false)) (Rn.one ?_ ?_ ?_) (Rn.app (a := [_]) (σ' := ⟨ws ++ [(t, u ++ [39])], some 34, none, false⟩) (τ' := (sndL ws ++ [u ++ [39]], false)) (Rn.one ?_ ?_ ?_) (Rn.app (a := [_]) (σ' := ⟨ws ++ [(t, u ++ [39])], none, some 34, false⟩) (τ' := (sndL ws ++ [u ++ [39]], false)) (Rn.one (wstp_close _ _ _) ?_ ?_) (Rn.one ?_ ?_ ?_))))
      · rw [tstep_some, List.append_nil]
      · exact sndL_app _ _ _
      · rw [wstp_open _ _ _ (.inr rfl), if_neg (by decide)]
        simp only [beg, Bool.false_eq_true, if_false, app_nil0]
      · rw [tstep_some, List.append_nil]
      · exact sndL_app _ _ _
      · rw [wstp_in _ _ (by decide), app_concat]
      · rw [tstep_some]
      · exact sndL_app _ _ _
      · rw [tstep_some, List.append_nil]
      · exact sndL_app _ _ _
      · rw [wstp_open _ _ _ (.inl rfl), if_neg (by decide)]
        simp only [beg, Bool.false_eq_true, if_false, app_nil0]
      · rw [tstep_some, List.append_nil]
      · exact sndL_app _ _ _
  · rename_i hc
    exact Rn.one (by unfold inW; rw [wstp_in _ _ hc, app_concat]) (tstep_some _ _ _ _) (sndL_app _ _ _)
theorem sgs_run (ws : List (Nat × List Nat)) (t : Nat) (x : Int) : ∀ (w u : List Nat), Rn (inW ws t u x) (sndL ws ++ [u], false) (w.flatMap (sg x)) (inW ws t (u ++ w) x) (sndL ws ++ [u ++ w], false)
  | [], u => by rw [List.append_nil]; exact Rn.nil
  | c :: w, u => by
    rw [List.flatMap_cons]
    refine Rn.app (sg_run ws t u x c) ?_
    have := sgs_run ws t x w (u ++ [c])
    rwa [List.append_assoc, List.singleton_append] at this
theorem bare_run (ws : List (Nat × List Nat)) (t : Nat) : ∀ (w u : List Nat), w.all safeN = true → Rn ⟨ws ++ [(t, u)], none, none, false⟩ (sndL ws ++ [u], false) (w.map fun c => (c, some [c])) ⟨ws ++ [(t, u ++ w)], none, none, false⟩ (sndL ws ++ [u ++ w], false)
  | [], u, _ => by rw [List.append_nil]; exact Rn.nil
  | c :: w, u, h => by
    rw [List.all_cons, Bool.and_eq_true] at h
    obtain ⟨h1, h2⟩ := safe_ne h.1
    have := bare_run ws t w (u ++ [c]) h.2
    rw [List.append_assoc, List.singleton_append] at this
    refine Rn.app (a := [_]) (Rn.one ?_ (tstep_some _ _ _ _) (sndL_app _ _ _)) this
    rw [wstp_sign _ _ _ h1 h2]
    simp only [beg, Bool.false_eq_true, if_false, app_concat]
theorem okw_iff (w : List Nat) : okw w = true ↔ w ≠ [] ∧ w.all safeN = true := by
  unfold okw
  have : (w.all fun c => decide (c ∈ SAFE)) = w.all safeN := by
    congr 1
    funext c
    by_cases h : c < 128
    · exact (safe_list c h).symm
    · rw [safeN_hi (by omega)]
      have : ∀ c ∈ SAFE, c < 128 := by decide +kernel
      exact decide_eq_false fun hc => h (this c hc)
  rw [this]
  simp
def tg (x : Int) : Nat := if x ≠ 0 then 1 else 0
theorem stp_run (ws : List (Nat × List Nat)) (x : Int) (w : List Nat) : ∃ cl, Rn ⟨ws, none, none, true⟩ (sndL ws, true) (stp x w) ⟨ws ++ [(tg x, w)], none, cl, false⟩ (sndL ws ++ [w], false) := by
  unfold stp
  split
  · rename_i h
    obtain ⟨hx, hw⟩ := h
    obtain ⟨hne, hs⟩ := (okw_iff w).mp hw
    cases w with
    | nil => exact absurd rfl hne
    | cons c r =>
      rw [List.all_cons, Bool.and_eq_true] at hs
      obtain ⟨h1, h2⟩ := safe_ne hs.1
      refine ⟨none, Rn.app (a := [_]) (σ' := ⟨ws ++ [(tg x, [c])], none, none, false⟩) (τ' := (sndL ws ++ [[c]], false)) (Rn.one ?_ (tstep_new _ _ _) (sndL_app _ _ _)) (bare_run ws (tg x) r [c] hs.2)⟩
      rw [wstp_sign _ _ _ h1 h2]
      have : ¬ c = 34 := fun e => h1 (.inr e)
      simp only [beg, if_true, app_concat, if_neg this, List.nil_append, tg, hx, ne_eq, not_true_eq_false, if_false]
  · refine ⟨some (mk x), Rn.app (a := [_]) (σ' := inW ws (tg x) [] x) (τ' := (sndL ws ++ [[]], false)) (Rn.one ?_ (tstep_new _ _ _) (sndL_app _ _ _)) (Rn.app (sgs_run ws (tg x) x w []) (Rn.one (wstp_close _ _ _) ?_ ?_))⟩
    · rw [wstp_open _ _ _ (mk_mark x), if_neg (by simp), app_nil0]
      unfold inW
      simp only [beg, if_true]
      have : (if mk x = 34 then 1 else 0) = tg x := by unfold mk tg; split <;> simp
      rw [this]
    · rw [tstep_some, List.append_nil, List.nil_append]
    · exact sndL_app _ _ _
theorem lineP_run : ∀ (ps : List (List Nat × Int)) (ws : List (Nat × List Nat)) (cl : Option Nat), ∃ cl', Rn ⟨ws, none, cl, false⟩ (sndL ws, false) (lineP ps) ⟨ws ++ ps.map (fun p => (tg p.2, p.1)), none, cl', false⟩ (sndL ws ++ ps.map (·.1), false)
  | [], ws, cl => ⟨cl, by simp only [List.map_nil, List.append_nil]; exact Rn.nil⟩
  | p :: ps, ws, cl => by
    obtain ⟨cl1, h1⟩ := stp_run ws p.2 p.1
    obtain ⟨cl2, h2⟩ := lineP_run ps (ws ++ [(tg p.2, p.1)]) cl1
    refine ⟨cl2, ?_⟩
    have e : lineP (p :: ps) = [(32, none)] ++ (stp p.2 p.1 ++ lineP ps) := rfl
    rw [e]
    refine Rn.app (Rn.one (wstp_blank _ _ _) rfl rfl) (Rn.app h1 ?_)
    rw [sndL_app, List.append_assoc, List.append_assoc, List.singleton_append, List.singleton_append] at h2
    rw [List.map_cons, List.map_cons]
    exact h2
theorem line_run (ps : List (List Nat × Int)) : ∃ cl fr, Rn ⟨[], none, none, true⟩ ([], true) ((lineP ps).drop 1) ⟨ps.map (fun p => (tg p.2, p.1)), none, cl, fr⟩ (ps.map (·.1), fr) := by
  cases ps with
  | nil => exact ⟨none, true, Rn.nil⟩
  | cons p ps =>
    obtain ⟨cl1, h1⟩ := stp_run [] p.2 p.1
    obtain ⟨cl2, h2⟩ := lineP_run ps [(tg p.2, p.1)] cl1
    exact ⟨cl2, false, Rn.app h1 h2⟩
-- a line is read as its row 
theorem read_line (ps : List (List Nat × Int)) : rd (((lineP ps).drop 1).map (·.1)) = ps.map fun p => (tg p.2, p.1) := by
  obtain ⟨cl, fr, h⟩ := line_run ps
  rw [rd_wk]
  unfold wk0
  rw [h.w]
-- ## steps and dresses 
theorem sg_text (x : Int) (w : List Nat) : (w.flatMap (sg x)).map (·.1) = rep (mk x) (if x ≠ 0 then [34, 34] else QZ) w := by
  unfold rep
  rw [List.map_flatMap]
  congr 1
  funext c
  unfold sg
  split
  · unfold hid; split <;> rfl
  · rfl
theorem stp_text (x : Int) (w : List Nat) : (stp x w).map (·.1) = drs x w := by
  unfold stp drs
  by_cases hx : x = 0
  · subst hx
    simp only [true_and, ne_eq, not_true_eq_false, if_false]
    unfold qt
    by_cases hw : w = []
    · subst hw; rfl
    · rw [if_neg hw]
      by_cases hs : w.all safeN = true
      · rw [if_pos ((okw_iff w).mpr ⟨hw, hs⟩), if_pos hs, List.map_map]
        exact (List.map_congr_left (g := id) fun a _ => rfl).trans (List.map_id w)
      · rw [if_neg (fun h => hs ((okw_iff w).mp h).2), if_neg hs, List.map_cons, List.map_append, sg_text]; rfl
  · rw [if_neg (fun h => hx h.1), if_pos hx, List.map_cons, List.map_append, sg_text, if_pos hx]
    unfold mk
    rw [if_pos hx]; rfl
theorem line_text : ∀ (ps : List (List Nat × Int)), jn [32] (ps.map fun p : List Nat × Int => drs p.2 p.1) = ((lineP ps).drop 1).map (·.1)
  | [] => rfl
  | [p] => by
    show drs p.2 p.1 = ((stp p.2 p.1 ++ []).map (fun p : Step => p.1))
    rw [List.append_nil, stp_text]
  | p :: q :: r => by
    have ih := line_text (q :: r)
    show drs p.2 p.1 ++ [32] ++ jn [32] ((q :: r).map fun p : List Nat × Int => drs p.2 p.1) = (stp p.2 p.1 ++ ((32, none) :: (stp q.2 q.1 ++ lineP r))).map (fun p : Step => p.1)
    rw [ih, List.map_append, stp_text, List.map_cons, List.append_assoc]
    rfl

section
variable {w : World} {mg mb : Str → Option Value} {G : Heap}
def Rbare (ds : List Dat) (d : Dat) : Prop := ∃ l : List Nat, ds = [.str (S l)] ∧ l.length ≤ 1000000 ∧ okc l ∧ d = .bool (okw l)
set_option maxHeartbeats 1600000 in
theorem c_bare (KI : (KK w).In G) : Con PR w mg mb G 1 121 Rbare := by
  refine Con.of_def [Str.ofString "word"] (KI _ _ (by rfl)) (by rfl) ?_ (by rfl) (by rfl) (by rfl) (by rfl) (fun vs hv => ?_) (by decide) (by rfl) (fun ds d ⟨l, e, _⟩ => by rw [e]; rfl) (by decide) (by rfl) (by rfl) (by rfl) ?_
  · exact codeRec_of KI (by rfl)
  · match vs, hv with
    | [v1], _ => rfl
  · rintro A L outer V s hd hu ds d ⟨l, rfl, hlen, hok, rfl⟩
    dsimp only [parm, List.map, List.zip_cons_cons, List.zip_nil_right]
    have hu2 : A.units + 3 + 64 < cLine := by omega
    refine Ex.consX (ExS.assign (d := .str (S SAFE)) (.inr ⟨rfl, by rfl, _, by rfl⟩) (Ev.of Ev.strC (by rw [eSAFE])) (thenN ?_))
    refine' Ex.consX (ExS.ret (Ev.of (Ev.andB (a := !(l == [])) (b := l.all fun c => decide (c ∈ SAFE)) (Ev.of (Ev.cmp (Ev.name (by rfl)) Ev.strC Op2.neStr) ?x4) (fun _ => Ev.cmp (Ev.comp (xs := l) (j := fun c => Dat.str (S [c])) (p := fun c => !decide (c ∈ SAFE)) (g := fun c => .str (S [c])) (ρc := [(Str.ofString "safe", .dat (.str (S SAFE)))]) (It.str (x := l) ?y1) (by rfl) ?y2 ?y3 ?y4) (Ev.listD EvL.nilE) (Op2.eqD ?y5 ?y6 hu2 ?y7))) rfl) rfl)
    case x4 =>
      rw [show Str.ofString "" = S [] from rfl]
      simp only [bne, S_beq]
    case y1 => exact Ev.name (by rfl)
    case y2 =>
      refine Cap.of (Sub.consS (by rfl) (Sub.nilS _)) ?_ ?_ ?_
      · intro y hy
        rw [List.mem_singleton.mp hy]
        exact ⟨L + 1, by rfl, by rfl, .inl (by rfl), .inl (by rfl)⟩
      · intro p hp
        rw [List.mem_singleton.mp hp]; rfl
      · exact List.pairwise_singleton _ _
    case y3 =>
      intro C s₁ V' K D Dd acc i c hc
      refine ⟨_, ?_, As.name (.inl (by rfl)), Ts.one (Tr.cmp (Ev.name (by rfl)) (Ev.name (by rfl)) (Op2.notInStr1)), fun _ => Ev.name (by rfl)⟩
      (repeat (first | exact Sub.nilS _ | refine Sub.consS (by rfl) ?_))
    case y4 => rw [sizeLine_eq]; omega
    case y5 =>
      simp only [kqdOk, List.all_eq_true]
      intro d hd
      unfold picked at hd
      obtain ⟨c, hc, rfl⟩ := List.mem_map.mp hd
      have hc' := hok c (List.mem_filter.mp hc).1
      exact strOk_S (fun y hy => by rw [List.mem_singleton.mp hy]; exact hc')
    case y6 => rfl
    case y7 =>
      rw [List.all_eq_true]
      unfold picked
      constructor
      · intro h
        rw [List.filter_eq_nil_iff.mpr fun c hc => by simp [of_decide_eq_true (h c hc)]]
        rfl
      · intro h c hc
        injection h with h
        have h' := List.filter_eq_nil_iff.mp (List.map_eq_nil_iff.mp h) c hc
        simpa using h'
end

def zz (q : Nat) : List Nat := if q = 39 then QZ else [34, 34]
def meantL : List Nat → List (List Nat × Int)
  | [] => []
  | q :: r => if q = 39 ∨ q = 34 then
      (if r = [] ∨ r.getLast? ≠ some q ∨ (strands (zz q) r.dropLast).any (fun p => decide (q ∈ p)) = true then []
      else if q = 39 ∧ okw (jn [q] (strands (zz q) r.dropLast)) = true then [] else [(jn [q] (strands (zz q) r.dropLast), if q = 34 then 1 else 0)])
    else if okw (q :: r) = true then [(q :: r, 0)] else []
theorem zz_ne (q : Nat) : zz q ≠ [] := by unfold zz; split <;> simp [QZ]
theorem mem_jn {z : List Nat} {c : Nat} {p : List Nat} (hc : c ∈ p) : ∀ {ps : List (List Nat)}, p ∈ ps → c ∈ jn z ps
  | [], h => nomatch h
  | [a], h => by rw [List.mem_singleton.mp h] at hc; exact hc
  | a :: b :: r, h => by
    show c ∈ a ++ z ++ jn z (b :: r)
    rcases List.mem_cons.mp h with rfl | h
    · exact List.mem_append.mpr (.inl (List.mem_append.mpr (.inl hc)))
    · exact List.mem_append.mpr (.inr (mem_jn hc h))
theorem of_mem_jn {z : List Nat} {c : Nat} : ∀ {ps : List (List Nat)}, c ∈ jn z ps → c ∈ z ∨ ∃ p ∈ ps, c ∈ p
  | [], h => nomatch h
  | [a], h => .inr ⟨a, List.mem_singleton.mpr rfl, h⟩
  | a :: b :: r, h => by
    have h : c ∈ a ++ z ++ jn z (b :: r) := h
    rcases List.mem_append.mp h with h | h
    · rcases List.mem_append.mp h with h | h
      · exact .inr ⟨a, List.mem_cons_self, h⟩
      · exact .inl h
    · rcases of_mem_jn h with h | ⟨p, hp, h⟩
      · exact .inl h
      · exact .inr ⟨p, List.mem_cons_of_mem _ hp, h⟩
theorem jn_sum_le (z : List Nat) : ∀ ps : List (List Nat), (ps.map List.length).sum ≤ (jn z ps).length
  | [] => by simp
  | [p] => by simp [jn]
  | p :: q :: r => by
    have := jn_sum_le z (q :: r)
    simp only [jn, List.map_cons, List.sum_cons, List.length_append] at this ⊢
    omega
theorem jn_one_le (z : List Nat) (q : Nat) (hz : z ≠ []) : ∀ ps : List (List Nat), (jn [q] ps).length ≤ (jn z ps).length
  | [] => Nat.le_refl _
  | [p] => Nat.le_refl _
  | p :: a :: r => by
    have h1 := jn_one_le z q hz (a :: r)
    have h2 : 0 < z.length := List.length_pos_iff.mpr hz
    show (p ++ [q] ++ jn [q] (a :: r)).length ≤ (p ++ z ++ jn z (a :: r)).length
    simp only [List.length_append, List.length_cons, List.length_nil]
    omega
theorem okc_strands {q : Nat} {l : List Nat} (h : okc l) : ∀ p ∈ strands (zz q) l, okc p := fun p hp c hc => h c (by
  rw [← strands_jn (zz q) l]; exact mem_jn hc hp)
theorem okc_word {q : Nat} {l : List Nat} (hq : q < 1114112) (h : okc l) : okc (jn [q] (strands (zz q) l)) := fun c hc => by
  rcases of_mem_jn hc with hc | ⟨p, hp, hc⟩
  · rw [List.mem_singleton.mp hc]; exact hq
  · exact okc_strands h p hp c hc
section
variable {w : World} {mg mb : Str → Option Value} {G : Heap}
def Rmeant (ds : List Dat) (d : Dat) : Prop := ∃ l : List Nat, ds = [.str (S l)] ∧ l.length ≤ 5000 ∧ okc l ∧ d = .list ((meantL l).map tD)
set_option maxHeartbeats 3200000 in
theorem c_meant (KI : (KK w).In G) (N : Names mg) : Con PR w mg mb G 2 126 Rmeant := by
  have hln := N.len
  refine Con.of_def [Str.ofString "part"] (KI _ _ (by rfl)) (by rfl) ?_ (by rfl) (by rfl) (by rfl) (by rfl) (fun vs hv => ?_) (by decide) (by rfl) (fun ds d ⟨l, e, _⟩ => by rw [e]; rfl) (by decide) (by rfl) (by rfl) (by rfl) ?_
  · exact codeRec_of KI (by rfl)
  · match vs, hv with
    | [v1], _ => rfl
  · rintro A L outer V s hd hu ds d ⟨l, rfl, hlen, hok, rfl⟩
    dsimp only [parm, List.map, List.zip_cons_cons, List.zip_nil_right]
    have hu2 : A.units + 3 + 64 < cLine := by omega
    have e34 : Str.ofString "\"" = S [34] := by decide
    have e39 : Str.ofString "'" = S [39] := by decide
    have e3434 : Str.ofString "\"\"" = S [34, 34] := by decide
    have ez : Str.ofString "'\"'\"'" = S QZ := by decide
    refine' Ex.consM [] [(Str.ofString "mark", .dat (.str (S (l.take 1)))), (Str.ofString "part", .dat (.str (S l)))] (ExS.assign (d := .str (S (l.take 1))) (.inr ⟨rfl, by rfl, _, by rfl⟩) (Ev.of ?x1 ?x2) (nextN ?x3)) ?_
    case x1 => walk_at "ev"
    case x2 => exact congrArg (fun x => Dat.str (S x)) (sl_upto l 1)
    case x3 => (repeat (first | exact Sub.nilS _ | refine Sub.consS (by rfl) ?_))
    refine' Ex.consX (ExS.ifX (v := decide (¬ (l.take 1 = [39] ∨ l.take 1 = [34]))) (Tr.of (Tr.cmp ?y1 ?y2 (Op2.notInStrs (ys := [Str.ofString "'", Str.ofString "\""]))) ?y3) (fun h => ?g1) (fun h => ?g2))
    case y1 => walk_at "ev"
    case y2 => walk_at "ev"
    case y3 =>
      simp only [e34, e39, List.any_cons, List.any_nil, S_beq]
      have c1 : (([39] : List Nat) == l.take 1) = decide (l.take 1 = [39]) := by rw [Bool.eq_iff_iff, beq_iff_eq, decide_eq_true_iff]; exact eq_comm
      have c2 : (([34] : List Nat) == l.take 1) = decide (l.take 1 = [34]) := by rw [Bool.eq_iff_iff, beq_iff_eq, decide_eq_true_iff]; exact eq_comm
      rw [c1, c2]
      by_cases h : l.take 1 = [39] <;> by_cases h' : l.take 1 = [34] <;> simp [h, h']
    case g1 =>
      have h' := of_decide_eq_true h
      have hm : meantL l = if okw l = true then [(l, 0)] else [] := by
        match l, h' with
        | [], _ => rfl
        | q :: r, h' =>
          have hq : ¬ (q = 39 ∨ q = 34) := by simpa using h'
          simp only [meantL, if_neg hq]
      refine' Ex.consX (ExS.ret (Ev.ite (d := .list ((meantL l).map tD)) (v := okw l) (Tr.boolE (Ev.callF (Ev.global (by rfl) N.bare) (KI _ _ (by rfl)) (by rfl) (EvL.consE (Ev.name (by rfl)) EvL.nilE) (OpN.con (c_bare KI) ⟨l, rfl, by omega, hok, rfl⟩ ?w1 ?w2))) (fun h => ?z1) (fun h => ?z2)) rfl)
      case w1 => show A.depth + 1 + 1 < _; exact dep_lt hd (by decide)
      case w2 => show A.units + 3 + 40 * 1 + 100 < _; exact uni_lt (a := A.units) (d := 40 * 1) hu (by decide)
      case z1 =>
        rw [hm, if_pos h]
        exact Ev.of (Ev.listD (EvL.consE (Ev.tupleD (EvL.consE (Ev.name (by rfl)) (EvL.consE Ev.intC EvL.nilE))) EvL.nilE)) rfl
      case z2 =>
        rw [hm, if_neg (by rw [h]; decide)]
        exact Ev.listD EvL.nilE
    case g2 =>
      have h' : l.take 1 = [39] ∨ l.take 1 = [34] := Decidable.not_not.mp (of_decide_eq_false h)
      refine Ex.nilX (thenN ?_)
      obtain ⟨q, r, rfl⟩ : ∃ q r, l = q :: r := by
        cases l with
        | nil => rcases h' with h' | h' <;> cases h'
        | cons q r => exact ⟨q, r, rfl⟩
      have hq : q = 39 ∨ q = 34 := by simpa using h'
      have hq2 : q < 1114112 := by omega
      have ht1 : (q :: r).take 1 = [q] := rfl
      rw [ht1]
      have hrl : r.length + 1 ≤ 5000 := hlen
      have hmid : sl (q :: r) (some 1) (some (-1)) = r.dropLast := by
        simp only [sl, Option.elim]
        have c1 : clipAt (q :: r).length 1 = 1 := by
          have := clipAt_cast (q :: r).length 1
          rw [if_neg (by decide)] at this
          simp only [List.length_cons] at this ⊢
          omega
        have c2 : clipAt (q :: r).length (-1) = r.length := by
          have := clipAt_cast (q :: r).length (-1)
          rw [if_pos (by decide)] at this
          simp only [List.length_cons] at this ⊢
          omega
        rw [c1, c2, List.drop_succ_cons, List.drop_zero, List.dropLast_eq_take]
      have hokm : okc r.dropLast := fun c hc => hok c (List.mem_cons_of_mem _ (List.dropLast_subset _ hc))
      have hml : r.dropLast.length ≤ 5000 := by rw [List.length_dropLast]; omega
      generalize hst : strands (zz q) r.dropLast = st
      have hstok : ∀ p ∈ st, okc p := by rw [← hst]; exact okc_strands hokm
      have hwok : okc (jn [q] st) := by rw [← hst]; exact okc_word hq2 hokm
      have hstl : st.length ≤ 5001 := by have := strands_len (zz q) r.dropLast (zz_ne q); rw [hst] at this; omega
      have hjz : jn (zz q) st = r.dropLast := by rw [← hst]; exact strands_jn _ _
      have hsum : (st.map List.length).sum ≤ 5000 := by have := jn_sum_le (zz q) st; rw [hjz] at this; omega
      have hwl : (jn [q] st).length ≤ 5000 := by have := jn_one_le (zz q) q (zz_ne q) st; rw [hjz] at this; omega
      refine' Ex.consM [] [(Str.ofString "strands", .dat (.list (st.map fun p => Dat.str (S p)))), (Str.ofString "mark", .dat (.str (S [q]))), (Str.ofString "part", .dat (.str (S (q :: r))))] (ExS.assign (d := .list (st.map fun p => Dat.str (S p))) (.inl (by rfl)) (Ev.of (Ev.methS (x := S r.dropLast) (Ev.of ?x1 ?x2) (Ev.ite (d := .str (S (zz q))) (v := decide (q = 39)) (Tr.of ?x3 ?x4) (fun h => ?x5) (fun h => ?x6)) F.slot_str_split F.type_str_split (Op2.splitZ (zz_ne q) ?x7)) ?x8) (nextN ?x9)) ?_
      case x1 => exact Ev.sliceStr (lo := some 1) (hi := some (-1)) (Ev.name (by rfl)) (EvP.yes Ev.intC) (EvP.yes (Ev.neg Ev.intC)) (by rw [sizeLine_eq]; simp only [List.length_cons]; omega)
      case x2 => exact congrArg (fun x => Dat.str (S x)) hmid
      case x3 => walk_at "tr"
      case x4 => rw [e39, S_beq]; by_cases h : q = 39 <;> simp [h]
      case x5 => exact Ev.of Ev.strC (by rw [ez, zz, if_pos (of_decide_eq_true h)])
      case x6 => exact Ev.of Ev.strC (by rw [e3434, zz, if_neg (of_decide_eq_false h)])
      case x7 => rw [sizeLine_eq]; omega
      case x8 => rw [hst]
      case x9 => (repeat (first | exact Sub.nilS _ | refine Sub.consS (by rfl) ?_))
      refine' Ex.consM [] [(Str.ofString "word", .dat (.str (S (jn [q] st)))), (Str.ofString "strands", .dat (.list (st.map fun p => Dat.str (S p)))), (Str.ofString "mark", .dat (.str (S [q]))), (Str.ofString "part", .dat (.str (S (q :: r))))] (ExS.assign (d := .str (S (jn [q] st))) (.inl (by rfl)) (Ev.methS (x := S [q]) (Ev.name (by rfl)) (Ev.name (by rfl)) F.slot_str_join F.type_str_join (Op2.joinL st rfl ?x1)) (nextN ?x9)) ?_
      case x1 =>
        rw [sizeLine_eq]
        have : (st.map fun x => x.length).sum ≤ 5000 := hsum
        simp only [List.length_cons, List.length_nil]
        omega
      case x9 => (repeat (first | exact Sub.nilS _ | refine Sub.consS (by rfl) ?_))
      have hcond : (decide (r = []) || (decide (r.getLast? ≠ some q) || st.any fun p => decide (q ∈ p))) = decide (r = [] ∨ r.getLast? ≠ some q ∨ st.any (fun p => decide (q ∈ p)) = true) := by
        rw [Bool.eq_iff_iff]; simp
      refine' Ex.consX (ExS.ifX (v := decide (r = [] ∨ r.getLast? ≠ some q ∨ st.any (fun p => decide (q ∈ p)) = true)) (Tr.of (Tr.orE (v := decide (r = [])) (w := decide (r.getLast? ≠ some q) || st.any fun p => decide (q ∈ p)) (Tr.of ?y1 ?y2) (fun h1 => Tr.of (Tr.orE (v := decide (r.getLast? ≠ some q)) (w := st.any fun p => decide (q ∈ p)) (Tr.of (Tr.cmp (Ev.itemStrNeg (cc := r.getLastD 0) (Ev.name (by rfl)) (Ev.neg Ev.intC) (by decide) ?y3 ?y4 ?y5) (Ev.name (by rfl)) Op2.neStr) ?y6) (fun h2 => Tr.of (Tr.orE (v := st.any fun p => decide (q ∈ p)) (w := false) (Tr.of (Tr.cmp (Ev.comp (xs := st) (j := fun p => Dat.str (S p)) (p := fun p => decide (q ∈ p)) (g := fun p => .str (S p)) (ρc := [(Str.ofString "mark", .dat (.str (S [q])))]) (It.list (Ev.name (by rfl))) (by rfl) ?c1 ?c2 ?c3) (Ev.listD EvL.nilE) (Op2.neD (b := !st.any fun p => decide (q ∈ p)) ?c4 ?c5 hu2 ?c6)) ?c7) (fun _ => Tr.orNil)) (Bool.or_false _))) rfl)) hcond) (fun h => ?g3) (fun h => ?g4))
      case y1 => walk_at "tr"
      case y2 =>
        rw [S_length]
        cases r with
        | nil => rfl
        | cons a b => simp only [List.length_cons, reduceCtorEq, decide_false]; exact decide_eq_false (by omega)
      case y3 => simp only [List.length_cons]; omega
      case y4 =>
        have h1' := of_decide_eq_false h1
        cases r with
        | nil => exact absurd rfl h1'
        | cons a b =>
          have e1 : ((-1 : Int) + (q :: a :: b).length).toNat = (a :: b).length - 1 + 1 := by simp only [List.length_cons]; omega
          rw [e1, List.getElem?_cons_succ, ← List.getLast?_eq_getElem?, List.getLast?_eq_some_getLast (by simp), List.getLastD_cons]
          simp [List.getLast_eq_getLastD]
      case y5 => rw [sizeLine_eq]; simp only [List.length_cons]; omega
      case y6 =>
        have h1' := of_decide_eq_false h1
        cases r with
        | nil => exact absurd rfl h1'
        | cons a b =>
          have e2 : (a :: b).getLast? = some ((a :: b).getLastD 0) := by rw [List.getLast?_eq_some_getLast (by simp), List.getLastD_cons, List.getLast_eq_getLastD]
          rw [bne, S_beq, e2]
          generalize (a :: b).getLastD 0 = y
          by_cases h : y = q <;> simp [h]
      case c1 =>
        refine Cap.of (Sub.consS (by rfl) (Sub.nilS _)) ?_ ?_ ?_
        · intro y hy
          rw [List.mem_singleton.mp hy]
          exact ⟨L + 1, by rfl, by rfl, .inl (by rfl), .inl (by rfl)⟩
        · intro p hp
          rw [List.mem_singleton.mp hp]; rfl
        · exact List.pairwise_singleton _ _
      case c2 =>
        intro C s₁ V' K D Dd acc i c hc
        refine ⟨_, ?_, As.name (.inl (by rfl)), Ts.one (Tr.cmp (Ev.name (by rfl)) (Ev.name (by rfl)) (Op2.inStr1)), fun _ => Ev.name (by rfl)⟩
        (repeat (first | exact Sub.nilS _ | refine Sub.consS (by rfl) ?_))
      case c3 => rw [sizeLine_eq]; omega
      case c4 =>
        simp only [kqdOk, List.all_eq_true]
        intro d hd
        unfold picked at hd
        obtain ⟨c, hc, rfl⟩ := List.mem_map.mp hd
        exact strOk_S (hstok c (List.mem_filter.mp hc).1)
      case c5 => rfl
      case c6 =>
        unfold picked
        rw [Bool.not_eq_true', List.any_eq_false]
        constructor
        · intro h
          rw [List.filter_eq_nil_iff.mpr h]
          rfl
        · intro h
          injection h with h
          exact List.filter_eq_nil_iff.mp (List.map_eq_nil_iff.mp h)
      case c7 => rw [Bool.not_not]
      case g3 =>
        have h' := of_decide_eq_true h
        refine Ex.consX (ExS.ret (Ev.listD EvL.nilE) ?_)
        show Dat.list _ = Dat.list _
        simp only [meantL, if_pos hq, hst, if_pos h', List.map_nil]
      case g4 =>
        have h' := of_decide_eq_false h
        have hm : meantL (q :: r) = if q = 39 ∧ okw (jn [q] st) = true then [] else [(jn [q] st, if q = 34 then 1 else 0)] := by
          simp only [meantL, if_pos hq, hst, if_neg h']
        refine Ex.nilX (thenN ?_)
        refine' Ex.consX (ExS.ret (Ev.ite (d := .list ((meantL (q :: r)).map tD)) (v := decide (q = 39 ∧ okw (jn [q] st) = true)) (Tr.of (Tr.andE (v := decide (q = 39)) (w := okw (jn [q] st)) (Tr.of ?y1 ?y2) (fun _ => Tr.of (Tr.andE (v := okw (jn [q] st)) (w := true) (Tr.boolE (Ev.callF (Ev.global (by rfl) N.bare) (KI _ _ (by rfl)) (by rfl) (EvL.consE (Ev.name (by rfl)) EvL.nilE) (OpN.con (c_bare KI) ⟨jn [q] st, rfl, by omega, hwok, rfl⟩ ?w1 ?w2))) (fun _ => Tr.andNil)) (Bool.and_true _))) ?y3) (fun h => ?z1) (fun h => ?z2)) rfl)
        case y1 => walk_at "tr"
        case y2 => rw [e39, S_beq]; by_cases h : q = 39 <;> simp [h]
        case y3 => rw [Bool.eq_iff_iff]; simp
        case w1 => show A.depth + 1 + 1 < _; exact dep_lt hd (by decide)
        case w2 => show A.units + 3 + 40 * 1 + 100 < _; exact uni_lt (a := A.units) (d := 40 * 1) hu (by decide)
        case z1 =>
          rw [hm, if_pos (of_decide_eq_true h)]
          exact Ev.listD EvL.nilE
        case z2 =>
          rw [hm, if_neg (of_decide_eq_false h)]
          refine' Ev.of (Ev.listD (EvL.consE (Ev.tupleD (EvL.consE (Ev.name (by rfl)) (EvL.consE (Ev.ite (d := .int (if q = 34 then 1 else 0)) (v := decide (q = 34)) (Tr.of ?t1 ?t2) (fun h => ?t3) (fun h => ?t4)) EvL.nilE))) EvL.nilE)) rfl
          case t1 => walk_at "tr"
          case t2 => rw [e34, S_beq]; by_cases h : q = 34 <;> simp [h]
          case t3 => exact Ev.of Ev.intC (by rw [if_pos (of_decide_eq_true h)])
          case t4 => exact Ev.of Ev.intC (by rw [if_neg (of_decide_eq_false h)])
end

abbrev Wd := List Nat × Int
def wayD (m : List Wd) : Dat := .list (m.map tD)
def ext1 (T : List (List (List Wd))) (s : Nat) (m : Wd) : List (List Wd) := (T.getD s []).map (· ++ [m])
def extW (P : List (List Nat)) (T : List (List (List Wd))) (e s : Nat) : List (List Wd) := (meantL (jn [32] ((P.take e).drop s))).flatMap (ext1 T s)
def rowP (P : List (List Nat)) (T : List (List (List Wd))) (e s : Nat) : List (List Wd) := (List.range s).flatMap (extW P T e)
def waysT (P : List (List Nat)) : Nat → List (List (List Wd))
  | 0 => [[[]]]
  | i + 1 => waysT P i ++ [rowP P (waysT P i) (i + 1) (i + 1)]
theorem waysT_len (P : List (List Nat)) : ∀ i, (waysT P i).length = i + 1
  | 0 => rfl
  | i + 1 => by rw [waysT, List.length_append, waysT_len P i]; rfl
theorem rowP_succ (P : List (List Nat)) (T : List (List (List Wd))) (e s : Nat) : rowP P T e (s + 1) = rowP P T e s ++ extW P T e s := by
  unfold rowP
  rw [List.range_succ, List.flatMap_append]
  simp
theorem rowP_le (P : List (List Nat)) (T : List (List (List Wd))) (e : Nat) : ∀ {s s' : Nat}, s ≤ s' → (rowP P T e s).length ≤ (rowP P T e s').length := by
  intro s s' h
  induction h with
  | refl => exact Nat.le_refl _
  | step _ ih => rw [rowP_succ, List.length_append]; omega
theorem getD_app_lt {α : Type} (l : List α) (a d : α) {j : Nat} (h : j < l.length) : (l ++ [a]).getD j d = l.getD j d := by
  simp [List.getD_eq_getElem?_getD, List.getElem?_append_left h]
theorem getD_app_eq {α : Type} (l : List α) (a d : α) : (l ++ [a]).getD l.length d = a := by
  simp [List.getD_eq_getElem?_getD]
theorem getD_ge {α : Type} (l : List α) (d : α) {j : Nat} (h : l.length ≤ j) : l.getD j d = d := by
  simp [List.getD_eq_getElem?_getD, List.getElem?_eq_none h]
theorem ways_wlen (P : List (List Nat)) : ∀ i j, ∀ m ∈ (waysT P i).getD j [], m.length ≤ j
  | 0, j, m, hm => by
    cases j with
    | zero =>
      have : m ∈ [([] : List Wd)] := hm
      rw [List.mem_singleton.mp this]; exact Nat.le_refl _
    | succ j => rw [getD_ge _ _ (by rw [waysT_len]; omega)] at hm; cases hm
  | i + 1, j, m, hm => by
    rcases Nat.lt_trichotomy j (i + 1) with h | h | h
    · rw [waysT, getD_app_lt _ _ _ (by rw [waysT_len]; exact h)] at hm
      exact ways_wlen P i j m hm
    · subst h
      have e := getD_app_eq (waysT P i) (rowP P (waysT P i) (i + 1) (i + 1)) []
      rw [waysT_len] at e
      rw [waysT, e] at hm
      obtain ⟨s, hs, hm⟩ := List.mem_flatMap.mp hm
      obtain ⟨x, _, hm⟩ := List.mem_flatMap.mp hm
      obtain ⟨m', hm', rfl⟩ := List.mem_map.mp (show m ∈ ((waysT P i).getD s []).map (· ++ [x]) from hm)
      have := ways_wlen P i s m' hm'
      have := List.mem_range.mp hs
      simp; omega
    · rw [getD_ge _ _ (by rw [waysT_len]; omega)] at hm; cases hm
def Fd (T : List (List (List Wd))) (e : Nat) (X : List (List Wd)) (j : Nat) : List Dat := if j = e then X.map wayD else (T.getD j []).map wayD
def waysOf (l : List Nat) : List (List Wd) := if l = [] then [[]] else (waysT (cut 32 l) (cut 32 l).length).getD (cut 32 l).length []
theorem jn_len_le (z : List Nat) : ∀ ps : List (List Nat), (jn z ps).length ≤ (ps.map List.length).sum + ps.length * z.length
  | [] => Nat.zero_le _
  | [p] => by simp [jn]
  | p :: q :: r => by
    have := jn_len_le z (q :: r)
    show (p ++ z ++ jn z (q :: r)).length ≤ _
    simp only [List.length_append, List.map_cons, List.sum_cons, List.length_cons, Nat.succ_mul] at this ⊢
    omega
theorem sum_take_drop (P : List (List Nat)) (e s : Nat) : (((P.take e).drop s).map List.length).sum ≤ (P.map List.length).sum := by
  have h1 : ∀ (l : List (List Nat)) n, ((l.drop n).map List.length).sum ≤ (l.map List.length).sum := fun l n => by
    conv => rhs; rw [← List.take_append_drop n l, List.map_append, List.sum_append]
    omega
  have h2 : ∀ (l : List (List Nat)) n, ((l.take n).map List.length).sum ≤ (l.map List.length).sum := fun l n => by
    conv => rhs; rw [← List.take_append_drop n l, List.map_append, List.sum_append]
    omega
  exact Nat.le_trans (h1 _ _) (h2 _ _)
theorem jn_cut32 (l : List Nat) : jn [32] (cut 32 l) = l := by
  rw [jn_cut]
  unfold rep
  induction l with
  | nil => rfl
  | cons c r ih =>
    rw [List.flatMap_cons, ih]
    by_cases h : c = 32
    · subst h; rfl
    · rw [if_neg h]; rfl
theorem part_len (l : List Nat) (e s : Nat) : (jn [32] (((cut 32 l).take e).drop s)).length ≤ 2 * l.length + 1 ∧ (((cut 32 l).take e).drop s).length ≤ l.length + 1 := by
  have h1 := jn_len_le [32] (((cut 32 l).take e).drop s)
  have h2 := sum_take_drop (cut 32 l) e s
  have h3 := jn_sum_le [32] (cut 32 l)
  rw [jn_cut32] at h3
  have h4 := cut_len 32 l
  have h5 : (((cut 32 l).take e).drop s).length ≤ (cut 32 l).length := by rw [List.length_drop, List.length_take]; omega
  simp only [List.length_cons, List.length_nil] at h1
  omega
theorem okc_part {l : List Nat} (h : okc l) (e s : Nat) : okc (jn [32] (((cut 32 l).take e).drop s)) := fun c hc => by
  rcases of_mem_jn hc with hc | ⟨p, hp, hc⟩
  · rw [List.mem_singleton.mp hc]; decide
  · refine h c ?_
    rw [← jn_cut32 l]
    exact mem_jn hc (List.mem_of_mem_take (List.mem_of_mem_drop hp))
section
variable {w : World} {mg mb : Str → Option Value} {G : Heap}
def Rways (ds : List Dat) (d : Dat) : Prop := ∃ l : List Nat, ds = [.str (S l)] ∧ l.length ≤ 1000 ∧ okc l ∧ (∀ i, i < (cut 32 l).length → (rowP (cut 32 l) (waysT (cut 32 l) i) (i + 1) (i + 1)).length ≤ 1000) ∧ d = .list ((waysOf l).map wayD)
set_option maxHeartbeats 3200000 in
theorem c_ways (KI : (KK w).In G) (N : Names mg) : Con PR w mg mb G 3 131 Rways := by
  have hln := N.len
  refine Con.of_def [Str.ofString "text"] (KI _ _ (by rfl)) (by rfl) ?_ (by rfl) (by rfl) (by rfl) (by rfl) (fun vs hv => ?_) (by decide) (by rfl) (fun ds d ⟨l, e, _⟩ => by rw [e]; rfl) (by decide) (by rfl) (by rfl) (by rfl) ?_
  · exact codeRec_of KI (by rfl)
  · match vs, hv with
    | [v1], _ => rfl
  · rintro A L outer V s hd hu ds d ⟨l, rfl, hlen, hok, hrow, rfl⟩
    dsimp only [parm, List.map, List.zip_cons_cons, List.zip_nil_right]
    have hu2 : A.units + 3 + 64 < cLine := by omega
    have hPl := cut_len 32 l
    have hPne := cut_ne 32 l
    have hpart := part_len l
    have hokp := @okc_part l hok
    have hsumP : ((cut 32 l).map List.length).sum ≤ l.length := by have := jn_sum_le [32] (cut 32 l); rwa [jn_cut32] at this
    have hres : waysOf l = if l = [] then [[]] else (waysT (cut 32 l) (cut 32 l).length).getD (cut 32 l).length [] := rfl
    generalize hP : cut 32 l = P at *
    have hn0 : 0 < P.length := List.length_pos_iff.mpr hPne
    refine' Ex.consM [] [(Str.ofString "parts", .dat (.list (P.map fun p => Dat.str (S p)))), (Str.ofString "text", .dat (.str (S l)))] (ExS.assign (d := .list (P.map fun p => Dat.str (S p))) (.inl (by rfl)) (Ev.of (Ev.methS (x := S l) (Ev.name (by rfl)) (d := .str (S [32])) (Ev.of Ev.strC (by rw [show Str.ofString " " = S [32] from by decide])) F.slot_str_split F.type_str_split (Op2.splitOne ?x7)) ?x8) (nextN ?x9)) ?_
    case x7 => rw [sizeLine_eq]; omega
    case x8 => rw [hP]
    case x9 => (repeat (first | exact Sub.nilS _ | refine Sub.consS (by rfl) ?_))
    refine Ex.waysX (ds := P.map fun p => Dat.str (S p)) (.inl (by rfl)) (It.list (Ev.name (by rfl))) (by rfl) (fun C => by rfl) (by rw [List.length_map, sizeLine_eq]; omega) ?_
    intro Aw a0 as nn has hAw
    have hasl : as.length = P.length := by rw [has, List.length_map]
    generalize hAds : a0 :: as = Ads at *
    have hAl : Ads.length = P.length + 1 := by rw [← hAds, List.length_cons, hasl]
    have hrefs : (Value.ref a0 :: as.map Value.ref : List Value) = Ads.map Value.ref := by rw [← hAds]; rfl
    rw [hrefs]
    have hO : ((a0, [Dat.list []]) :: as.map (fun a => (a, ([] : List Dat)))) ++ [] = OO Ads (Fd (waysT P 0) 1 []) := by
      rw [List.append_nil, ← hAds]
      apply List.ext_getElem?
      intro j
      cases j with
      | zero => rfl
      | succ j =>
        cases ha : as[j]? with
        | none =>
          have : as.length ≤ j := by rw [List.getElem?_eq_none_iff] at ha; exact ha
          rw [List.getElem?_eq_none (by simp; exact this), List.getElem?_eq_none (by unfold OO; simp; exact this)]
        | some b =>
          rw [OO_get (a := b) (by simpa using ha), List.getElem?_cons_succ, List.getElem?_map, ha]
          have : Fd (waysT P 0) 1 [] (j + 1) = [] := by
            unfold Fd
            split
            · rfl
            · rw [getD_ge _ _ (by rw [waysT_len]; omega)]; rfl
          rw [this]; rfl
    rw [hO]
    have hAt : ∀ k, k < P.length + 1 → ∃ a, Ads[k]? = some a := fun k hk => ⟨_, List.getElem?_eq_getElem (by rw [hAl]; exact hk)⟩
    have hidx : ∀ k : Nat, k < P.length + 1 → seqIndex? (k : Int) (Ads.map Value.ref).length = some k := fun k hk => by
      rw [seqIndex_of (by omega) (by rw [List.length_map, hAl]; omega)]; rfl
    have hget : ∀ k a, Ads[k]? = some a → (Ads.map Value.ref)[k]? = some (Value.ref a) := fun k a h => by rw [List.getElem?_map, h]; rfl
    have hvl : (Ads.map Value.ref).length ≤ sizeLine := by rw [List.length_map, hAl, sizeLine_eq]; omega
    refine Ex.weak (ρ' := [(Str.ofString "ways", .val (.ref Aw)), (Str.ofString "parts", .dat (.list (P.map fun p => Dat.str (S p)))), (Str.ofString "text", .dat (.str (S l)))]) ?_ (by (repeat (first | exact Sub.nilS _ | refine Sub.consS (by rfl) ?_)))
    refine' Ex.consX (ExS.forXK (It.range2 (a := 1) (b := ((Ads.map Value.ref).length : Int)) (n := P.length) (Ev.builtin (by rfl) N.range boot_range) Ev.intC (Ev.lenKept (A := Aw) (vs := Ads.map Value.ref) (n := nn) (Ev.builtin (by rfl) hln boot_len) (EvS.name (by rfl)) List.mem_cons_self hvl) ?x1 (by decide) ?x2 (by decide) ?x3) (fun i O ρ => O = OO Ads (Fd (waysT P i) (i + 1) []) ∧ ρ = [(Str.ofString "ways", .val (.ref Aw)), (Str.ofString "parts", .dat (.list (P.map fun p => Dat.str (S p)))), (Str.ofString "text", .dat (.str (S l)))]) ⟨_, ⟨rfl, rfl⟩, Sub.refl _⟩ ?x4 ?x5 ?x6)
    case x1 => rw [List.length_map, hAl]; omega
    case x2 => rw [List.length_map, hAl]; omega
    case x3 => rw [List.length_map, hAl]; omega
    case x4 => rintro i O' ρ' ⟨rfl, _⟩; rw [OO_fst, OO_fst]
    case x5 =>
      rintro V1 K1 D1 i O' ρ' d hK1 ⟨rfl, rfl⟩ hd'
      have hAK1 : (Aw, lstO (Ads.map Value.ref) nn) ∈ K1 := hK1 _ List.mem_cons_self
      rw [List.getElem?_map] at hd'
      obtain ⟨i', hi', rfl⟩ := Option.map_eq_some_iff.mp hd'
      have hil : i < P.length := by have := (List.getElem?_eq_some_iff.mp hi').1; simpa using this
      rw [List.getElem?_range hil] at hi'
      cases hi'
      have he1 : (1 : Int) + (i : Nat) = ((i + 1 : Nat) : Int) := by omega
      rw [he1]
      refine ⟨_, As.name (.inl (by rfl)), ?_⟩
      have hlT := waysT_len P i
      have hrowi := hrow i hil
      have hwl := ways_wlen P i
      have hTn : waysT P (i + 1) = waysT P i ++ [rowP P (waysT P i) (i + 1) (i + 1)] := rfl
      generalize hT : waysT P i = T at *
      have hFnext : OO Ads (Fd T (i + 1) (rowP P T (i + 1) (i + 1))) = OO Ads (Fd (waysT P (i + 1)) (i + 1 + 1) []) := by
        refine OO_congr fun j hj => ?_
        unfold Fd
        rw [hTn]
        rcases Nat.lt_trichotomy j (i + 1) with h | h | h
        · rw [if_neg (by omega), if_neg (by omega), getD_app_lt _ _ _ (by rw [hlT]; exact h)]
        · subst h
          have e := getD_app_eq T (rowP P T (i + 1) (i + 1)) []
          rw [hlT] at e
          rw [if_pos rfl, if_neg (by omega), e]
        · rw [if_neg (by omega)]
          have e1 : T.getD j [] = [] := getD_ge _ _ (by rw [hlT]; omega)
          have e2 : (T ++ [rowP P T (i + 1) (i + 1)]).getD j [] = [] := getD_ge _ _ (by rw [List.length_append, hlT]; simp; omega)
          rw [e1, e2]
          split <;> rfl
      obtain ⟨ae, hae⟩ := hAt (i + 1) (by omega)
      refine' Ex.consX (ExS.forXK (It.rangeC (n := i + 1) (Ev.builtin (by rfl) N.range boot_range) (Ev.name (by rfl)) (by omega)) (fun t O ρ => O = OO Ads (Fd T (i + 1) (rowP P T (i + 1) t)) ∧ ρ = [(Str.ofString "end", .dat (.int ((i + 1 : Nat) : Int))), (Str.ofString "ways", .val (.ref Aw)), (Str.ofString "parts", .dat (.list (P.map fun p => Dat.str (S p)))), (Str.ofString "text", .dat (.str (S l)))]) ⟨_, ⟨rfl, rfl⟩, by (repeat (first | exact Sub.nilS _ | refine Sub.consS (by rfl) ?_))⟩ ?y4 ?y5 ?y6)
      case y4 => rintro i O' ρ' ⟨rfl, _⟩; rw [OO_fst, OO_fst]
      case y6 =>
        rintro O' ρ' ⟨rfl, rfl⟩
        rw [List.length_map, List.length_range]
        refine thenN (Ex.nilX ⟨_, ⟨hFnext, rfl⟩, by (repeat (first | exact Sub.nilS _ | refine Sub.consS (by rfl) ?_))⟩)
      case y5 =>
        rintro V2 K2 D2 t O' ρ' d hK2 ⟨rfl, rfl⟩ hd'
        have hAK2 : (Aw, lstO (Ads.map Value.ref) nn) ∈ K2 := hK2 _ hAK1
        rw [List.getElem?_map] at hd'
        obtain ⟨t', ht', rfl⟩ := Option.map_eq_some_iff.mp hd'
        have htl : t < i + 1 := by have := (List.getElem?_eq_some_iff.mp ht').1; simpa using this
        rw [List.getElem?_range htl] at ht'
        cases ht'
        refine ⟨_, As.name (.inl (by rfl)), ?_⟩
        obtain ⟨hp1, hp2⟩ := hpart (i + 1) t
        have hp3 := hokp (i + 1) t
        have hsl : sl P (some (t : Int)) (some ((i + 1 : Nat) : Int)) = (P.take (i + 1)).drop t := by
          rw [sl_run P t (i + 1) (by omega), List.drop_take]
        have hsumq : ((((P.take (i + 1)).drop t).map fun x => x.length).sum) ≤ l.length := Nat.le_trans (sum_take_drop P (i + 1) t) hsumP
        have hrs := rowP_succ P T (i + 1) t
        have hrl := rowP_le P T (i + 1) (s := t + 1) (s' := i + 1) htl
        unfold extW at hrs
        generalize hq : (P.take (i + 1)).drop t = q at *
        generalize hM : meantL (jn [32] q) = M at *
        obtain ⟨at', hat⟩ := hAt t (by omega)
        refine' Ex.consX (ExS.forXK (ds := M.map tD) (It.list (Ev.of (Ev.callF (Ev.global (by rfl) N.meant) (KI _ _ (by rfl)) (by rfl) (EvL.consE (Ev.methS (x := S [32]) (Ev.of Ev.strC (by rw [show Str.ofString " " = S [32] from by decide])) (Ev.of (Ev.sliceList (Ev.name (by rfl)) (EvP.yes (Ev.name (by rfl))) (EvP.yes (Ev.name (by rfl))) ?z1) ?z2) F.slot_str_join F.type_str_join (Op2.joinL q rfl ?z3)) EvL.nilE) (OpN.con (c_meant KI N) ⟨jn [32] q, rfl, by omega, hp3, rfl⟩ ?w1 ?w2)) ?z4))
          (fun k O ρ => O = OO Ads (Fd T (i + 1) (rowP P T (i + 1) t ++ (M.take k).flatMap (ext1 T t))) ∧ ρ = [(Str.ofString "start", .dat (.int (t : Nat))), (Str.ofString "end", .dat (.int ((i + 1 : Nat) : Int))), (Str.ofString "ways", .val (.ref Aw)), (Str.ofString "parts", .dat (.list (P.map fun p => Dat.str (S p)))), (Str.ofString "text", .dat (.str (S l)))]) ⟨_, ⟨?z5, rfl⟩, by (repeat (first | exact Sub.nilS _ | refine Sub.consS (by rfl) ?_))⟩ ?v4 ?v5 ?v6)
        case z1 => rw [List.length_map, sizeLine_eq]; omega
        case z2 =>
          have : sl (P.map fun p => Dat.str (S p)) (some (t : Int)) (some ((i + 1 : Nat) : Int)) = q.map fun p => Dat.str (S p) := by
            rw [← hsl]; unfold sl; simp
          rw [this]
        case z3 =>
          rw [sizeLine_eq]
          simp only [List.length_cons, List.length_nil]
          omega
        case w1 => show A.depth + 1 + 2 < _; exact dep_lt hd (by decide)
        case w2 => show A.units + 3 + 40 * 2 + 100 < _; exact uni_lt (a := A.units) (d := 40 * 2) hu (by decide)
        case z4 => rw [hM]
        case z5 => rw [List.take_zero, List.flatMap_nil, List.append_nil]
        case v4 => rintro i O' ρ' ⟨rfl, _⟩; rw [OO_fst, OO_fst]
        case v6 =>
          rintro O' ρ' ⟨rfl, rfl⟩
          rw [List.length_map, List.take_length, ← hrs]
          exact thenN (Ex.nilX ⟨_, ⟨rfl, rfl⟩, by (repeat (first | exact Sub.nilS _ | refine Sub.consS (by rfl) ?_))⟩)
        case v5 =>
          rintro V3 K3 D3 k O' ρ' d hK3 ⟨rfl, rfl⟩ hd'
          have hAK3 : (Aw, lstO (Ads.map Value.ref) nn) ∈ K3 := hK3 _ hAK2
          rw [List.getElem?_map] at hd'
          obtain ⟨m, hm, rfl⟩ := Option.map_eq_some_iff.mp hd'
          refine ⟨_, As.name (.inr ⟨rfl, by rfl, _, by rfl⟩), ?_⟩
          have hMt : M.take (k + 1) = M.take k ++ [m] := by rw [List.take_add_one, hm]; rfl
          have hlast : (rowP P T (i + 1) t ++ (M.take (k + 1)).flatMap (ext1 T t)).length ≤ 1000 := by
            refine Nat.le_trans ?_ (Nat.le_trans hrl hrowi)
            rw [hrs, List.length_append, List.length_append]
            have : ((M.take (k + 1)).flatMap (ext1 T t)).length ≤ (M.flatMap (ext1 T t)).length := by
              conv => rhs; rw [← List.take_append_drop (k + 1) M, List.flatMap_append, List.length_append]
              omega
            omega
          rw [hMt, List.flatMap_append, ← List.append_assoc] at hlast
          simp only [List.flatMap_cons, List.flatMap_nil, List.append_nil, List.length_append, ext1, List.length_map] at hlast
          refine' Ex.consX (ExS.extend (i := i + 1) (ad := ae) (ds' := ((T.getD t []).map (· ++ [m])).map wayD) (EvS.itemKept (EvS.name (by rfl)) hAK3 (Ev.name (by rfl)) (hidx (i + 1) (by omega)) (hget _ _ hae) hvl) (OO_get hae) (Ev.of (Ev.compOwn (xs := T.getD t []) (j := wayD) (g := fun p => wayD (p ++ [m])) (ρc := [(Str.ofString "meant", .dat (tD m))]) (EvS.itemKept (EvS.name (by rfl)) hAK3 (Ev.name (by rfl)) (hidx t (by omega)) (hget _ _ hat) hvl) ?u1 (by rfl) ?u2 ?u3 ?u4) ?u5) ?u6 (thenN (Ex.nilX ⟨_, ⟨?u7, rfl⟩, by (repeat (first | exact Sub.nilS _ | refine Sub.consS (by rfl) ?_))⟩)))
          case u1 =>
            have := OO_mem (F := Fd T (i + 1) (rowP P T (i + 1) t ++ (M.take k).flatMap (ext1 T t))) hat
            unfold Fd at this
            rw [if_neg (by omega)] at this
            exact this
          case u2 =>
            refine Cap.of (Sub.consS (by rfl) (Sub.nilS _)) ?_ ?_ ?_
            · intro y hy
              rw [List.mem_singleton.mp hy]
              exact ⟨L + 1, by rfl, by rfl, .inl (by rfl), .inl (by rfl)⟩
            · intro p hp
              rw [List.mem_singleton.mp hp]; rfl
            · exact List.pairwise_singleton _ _
          case u3 =>
            intro C s₁ V' K D Dd acc p hp
            have hpl := hwl t p hp
            refine ⟨_, by (repeat (first | exact Sub.nilS _ | refine Sub.consS (by rfl) ?_)), As.name (.inl (by rfl)), Ev.of (Ev.bin (Ev.name (by rfl)) (Ev.listD (EvL.consE (Ev.name (by rfl)) EvL.nilE)) (Op2.addList (xs := p.map tD) (ys := [tD m]) ?_)) ?_⟩
            · rw [List.length_map, sizeLine_eq]; simp; omega
            · simp [wayD]
          case u4 =>
            rw [sizeLine_eq]; omega
          case u5 => rw [List.map_map]; rfl
          case u6 =>
            unfold Fd
            rw [if_pos rfl, List.length_map, List.length_map, List.length_map, sizeLine_eq]
            rw [List.length_append]
            omega
          case u7 =>
            rw [OO_set hae]
            refine OO_congr fun j hj => ?_
            unfold Fd
            by_cases h : j = i + 1
            · subst h
              rw [if_pos rfl, if_pos rfl, if_pos rfl, hMt, List.flatMap_append, ← List.map_append, ← List.append_assoc]
              simp [ext1]
            · rw [if_neg h, if_neg h, if_neg h]
    case x6 =>
      rintro O' ρ' ⟨rfl, rfl⟩
      rw [List.length_map, List.length_range]
      have hF : OO Ads (Fd (waysT P P.length) (P.length + 1) []) = OO Ads (fun j => ((waysT P P.length).getD j []).map wayD) := by
        refine OO_congr fun j hj => ?_
        unfold Fd
        rw [if_neg (by rw [hAl] at hj; omega)]
      rw [hF]
      obtain ⟨an, han⟩ := hAt P.length (by omega)
      by_cases hl0 : l = []
      · refine' Ex.consX (ExS.ret (Ev.ite (d := .list ((waysOf l).map wayD)) (v := false) (Tr.of (Tr.cmp (Ev.name (by rfl)) Ev.strC Op2.neStr) ?t1) (fun h => nomatch h) (fun _ => ?t2)) rfl)
        case t1 =>
          rw [show Str.ofString "" = S [] from rfl, bne, S_beq, hl0]; rfl
        case t2 =>
          rw [hres, if_pos hl0]
          exact Ev.of (Ev.listD (EvL.consE (Ev.listD EvL.nilE) EvL.nilE)) rfl
      · refine' Ex.consX (ExS.retOwn (EvS.iteT (Tr.of (Tr.cmp (Ev.name (by rfl)) Ev.strC Op2.neStr) ?t1) (EvS.itemKept (j := P.length) (EvS.name (by rfl)) List.mem_cons_self (Ev.neg Ev.intC) ?t2 (hget _ _ han) hvl)) (OO_mem han) ?t3)
        case t1 =>
          rw [show Str.ofString "" = S [] from rfl, bne, S_beq]; simp [hl0]
        case t2 =>
          rw [List.length_map, hAl, seqIndex_neg (by decide) (by omega)]; congr 1; omega
        case t3 =>
          show Dat.list _ = Dat.list _
          rw [hres, if_neg hl0]
end

-- ## the plain law of row 02 
def dr (p : Wd) : List Nat := drs p.2 p.1
def bit (p : Wd) : Prop := p.2 = 0 ∨ p.2 = 1
theorem qt_rep {w : List Nat} (h : okw w = false) : qt w = 39 :: rep 39 QZ w ++ [39] := by
  unfold qt
  split
  · rename_i hw; subst hw; rfl
  · rename_i hw
    rw [if_neg]
    intro hs
    rw [(okw_iff w).mpr ⟨hw, hs⟩] at h; cases h
theorem qt_bare {w : List Nat} (h : okw w = true) : qt w = w := by
  obtain ⟨h1, h2⟩ := (okw_iff w).mp h
  unfold qt; rw [if_neg h1, if_pos h2]
theorem cut_free2 (c : Nat) : ∀ l, ∀ p ∈ cut c l, c ∉ p
  | [], p, hp => by
    have : p ∈ [([] : List Nat)] := hp
    rw [List.mem_singleton.mp this]; simp
  | x :: r, p, hp => by
    have ih := cut_free2 c r
    unfold cut at hp
    split at hp
    · rcases List.mem_cons.mp hp with rfl | hp
      · simp
      · exact ih p hp
    · rename_i hx
      split at hp
      · rename_i q qs e
        rw [e] at ih
        rcases List.mem_cons.mp hp with rfl | hp
        · intro h
          rcases List.mem_cons.mp h with h | h
          · exact hx h.symm
          · exact ih q List.mem_cons_self h
        · exact ih p (List.mem_cons_of_mem _ hp)
      · rename_i e
        exact absurd e (cut_ne c r)
theorem jn_cut_one (q : Nat) (w : List Nat) : jn [q] (cut q w) = w := by
  rw [jn_cut]
  unfold rep
  induction w with
  | nil => rfl
  | cons c r ih =>
    rw [List.flatMap_cons, ih]
    by_cases h : c = q
    · subst h; simp
    · rw [if_neg h]; rfl
theorem meantL_cons (q : Nat) (r : List Nat) : meantL (q :: r) = if q = 39 ∨ q = 34 then
      (if r = [] ∨ r.getLast? ≠ some q ∨ (strands (zz q) r.dropLast).any (fun p => decide (q ∈ p)) = true then []
      else if q = 39 ∧ okw (jn [q] (strands (zz q) r.dropLast)) = true then [] else [(jn [q] (strands (zz q) r.dropLast), if q = 34 then 1 else 0)])
    else if okw (q :: r) = true then [(q :: r, 0)] else [] := rfl
-- the signs that hide a mark 
theorem zz_cons (q : Nat) (hq : q = 39 ∨ q = 34) : ∃ z', zz q = q :: z' ∧ ∀ c ∈ q :: z', c < 256 := by
  rcases hq with rfl | rfl
  · exact ⟨[34, 39, 34, 39], rfl, by decide⟩
  · exact ⟨[34], rfl, by decide⟩
-- the marked form of a word 
def mform (q : Nat) (w : List Nat) : List Nat := q :: (rep q (zz q) w ++ [q])
theorem meant_marked {q : Nat} (hq : q = 39 ∨ q = 34) (w : List Nat) (hb : q = 39 → okw w = false) : meantL (mform q w) = [(w, if q = 34 then 1 else 0)] := by
  obtain ⟨z', hz, hz2⟩ := zz_cons q hq
  have hst : strands (zz q) (rep q (zz q) w) = cut q w := by
    rw [← jn_cut, hz]
    exact strands_of (cut_ne q w) (cut_free2 q w) hz2
  unfold mform
  rw [meantL_cons, if_pos hq]
  have h1 : (rep q (zz q) w ++ [q]).dropLast = rep q (zz q) w := List.dropLast_concat
  have h2 : (rep q (zz q) w ++ [q]).getLast? = some q := by simp
  rw [h1, hst, jn_cut_one]
  rw [if_neg, if_neg]
  · rintro ⟨h, h'⟩
    rw [hb h] at h'; cases h'
  · rintro (h | h | h)
    · simp at h
    · exact h h2
    · obtain ⟨p, hp, hqp⟩ := List.any_eq_true.mp h
      exact cut_free2 q w p hp (of_decide_eq_true hqp)
theorem meant_dr {p : Wd} (hp : bit p) : meantL (dr p) = [p] := by
  obtain ⟨w, x⟩ := p
  rcases hp with hx | hx
  · have hx : x = 0 := hx
    subst hx
    show meantL (drs 0 w) = _
    have e : drs 0 w = qt w := by unfold drs; rw [if_neg (by decide)]
    rw [e]
    cases hb : okw w with
    | true =>
      rw [qt_bare hb]
      obtain ⟨h1, h2⟩ := (okw_iff w).mp hb
      cases w with
      | nil => exact absurd rfl h1
      | cons c r =>
        rw [List.all_cons, Bool.and_eq_true] at h2
        rw [meantL_cons, if_neg (safe_ne h2.1).1, if_pos hb]
    | false =>
      have := meant_marked (q := 39) (.inl rfl) w (fun _ => hb)
      rw [qt_rep hb]
      exact this
  · have hx : x = 1 := hx
    subst hx
    show meantL (drs 1 w) = _
    have e : drs 1 w = rt w := by unfold drs; rw [if_pos (by decide)]
    rw [e]
    exact meant_marked (q := 34) (.inr rfl) w (fun h => by cases h)
theorem meant_of {l : List Nat} {m : Wd} (h : m ∈ meantL l) : bit m ∧ dr m = l ∧ (meantL l).length ≤ 1 := by
  match l, h with
  | [], h => cases h
  | q :: r, h =>
    rw [meantL_cons] at h ⊢
    by_cases hq : q = 39 ∨ q = 34
    · rw [if_pos hq] at h ⊢
      split at h
      · cases h
      · rename_i hc
        rw [if_neg hc]
        split at h
        · cases h
        · rename_i hb
          rw [if_neg hb]
          rw [List.mem_singleton] at h
          refine ⟨?_, ?_, by simp⟩
          · rw [h]
            show (if q = 34 then (1 : Int) else 0) = 0 ∨ _ = (1 : Int)
            split
            · exact .inr rfl
            · exact .inl rfl
          · have hlast : r.getLast? = some q := Decidable.not_not.mp fun h' => hc (.inr (.inl h'))
            have hne : r ≠ [] := fun h' => hc (.inl h')
            have hr : r = r.dropLast ++ [q] := by
              have h3 := List.dropLast_concat_getLast hne
              rw [List.getLast?_eq_some_getLast hne] at hlast
              rw [Option.some.inj hlast] at h3
              exact h3.symm
            have hfree : ∀ p ∈ strands (zz q) r.dropLast, q ∉ p := fun p hp hqp => hc (.inr (.inr (List.any_eq_true.mpr ⟨p, hp, decide_eq_true hqp⟩)))
            have hrep : rep q (zz q) (jn [q] (strands (zz q) r.dropLast)) = r.dropLast := by
              rw [← jn_cut, cut_jn q _ (strands_ne _ _) hfree, strands_jn]
            rw [h]
            generalize jn [q] (strands (zz q) r.dropLast) = w at hrep hb ⊢
            show drs (if q = 34 then 1 else 0) w = q :: r
            rw [hr, ← hrep]
            rcases hq with rfl | rfl
            · have hb' : okw w = false := by
                cases e : okw w with
                | false => rfl
                | true => exact absurd ⟨rfl, e⟩ hb
              show drs 0 w = _
              unfold drs
              rw [if_neg (by decide), qt_rep hb']; rfl
            · show drs 1 w = _
              unfold drs
              rw [if_pos (by decide)]; rfl
    · rw [if_neg hq] at h ⊢
      split at h
      · rename_i hb
        rw [if_pos hb]
        rw [List.mem_singleton] at h
        refine ⟨by rw [h]; exact .inl rfl, ?_, by simp⟩
        rw [h]
        show drs 0 (q :: r) = _
        unfold drs
        rw [if_neg (by decide), qt_bare hb]
      · cases h
theorem meant_iff {l : List Nat} {m : Wd} : m ∈ meantL l ↔ bit m ∧ dr m = l := by
  constructor
  · intro h; obtain ⟨a, b, _⟩ := meant_of h; exact ⟨a, b⟩
  · rintro ⟨a, rfl⟩; rw [meant_dr a]; exact List.mem_singleton.mpr rfl
-- ### cuts 
theorem jn_app (z : List Nat) : ∀ (a b : List (List Nat)), a ≠ [] → b ≠ [] → jn z (a ++ b) = jn z a ++ z ++ jn z b
  | [], _, h, _ => absurd rfl h
  | [p], [], _, h => absurd rfl h
  | [p], q :: r, _, _ => rfl
  | p :: p2 :: ps, b, _, hb => by
    have ih := jn_app z (p2 :: ps) b (by simp) hb
    show p ++ z ++ jn z (p2 :: ps ++ b) = p ++ z ++ jn z (p2 :: ps) ++ z ++ jn z b
    rw [ih]
    simp only [List.append_assoc]
theorem cut_split (c : Nat) : ∀ a b : List Nat, cut c (a ++ c :: b) = cut c a ++ cut c b
  | [], b => by
    show cut c (c :: b) = [[]] ++ cut c b
    rw [cut, if_pos rfl]; rfl
  | x :: a, b => by
    have ih := cut_split c a b
    rw [List.cons_append, cut, cut]
    by_cases h : x = c
    · rw [if_pos h, if_pos h, ih]; rfl
    · rw [if_neg h, if_neg h, ih]
      cases e : cut c a with
      | nil => exact absurd e (cut_ne c a)
      | cons p ps => rfl
-- ### the ways 
def RW (P : List (List Nat)) (i : Nat) : List (List Wd) := (waysT P i).getD i []
theorem ways_get (P : List (List Nat)) : ∀ i j, j ≤ i → (waysT P i).getD j [] = RW P j
  | 0, j, h => by rw [Nat.le_zero.mp h]; rfl
  | i + 1, j, h => by
    rcases Nat.lt_or_ge j (i + 1) with h' | h'
    · rw [waysT, getD_app_lt _ _ _ (by rw [waysT_len]; exact h')]
      exact ways_get P i j (by omega)
    · rw [Nat.le_antisymm h h']; rfl
theorem RW_succ (P : List (List Nat)) (i : Nat) : RW P (i + 1) = rowP P (waysT P i) (i + 1) (i + 1) := by
  have e := getD_app_eq (waysT P i) (rowP P (waysT P i) (i + 1) (i + 1)) []
  rw [waysT_len] at e
  exact e
theorem mem_row {P : List (List Nat)} {i : Nat} {m : List Wd} : m ∈ RW P (i + 1) ↔ ∃ s, s ≤ i ∧ ∃ m' ∈ RW P s, ∃ x, x ∈ meantL (jn [32] ((P.take (i + 1)).drop s)) ∧ m = m' ++ [x] := by
  rw [RW_succ]
  unfold rowP extW ext1
  simp only [List.mem_flatMap, List.mem_range, List.mem_map]
  constructor
  · rintro ⟨s, hs, x, hx, m', hm', rfl⟩
    rw [ways_get P i s (by omega)] at hm'
    exact ⟨s, by omega, m', hm', x, hx, rfl⟩
  · rintro ⟨s, hs, m', hm', x, hx, rfl⟩
    exact ⟨s, by omega, x, hx, m', by rw [ways_get P i s hs]; exact hm', rfl⟩
theorem way_iff {P : List (List Nat)} (hfree : ∀ p ∈ P, 32 ∉ p) : ∀ (j : Nat), j ≤ P.length → ∀ m : List Wd, m ∈ RW P j ↔ jn [32] (m.map dr) = jn [32] (P.take j) ∧ (∀ x ∈ m, bit x) ∧ (m = [] ↔ j = 0) := by
  intro j
  induction j using Nat.strongRecOn with
  | ind j ih =>
    intro hj m
    cases j with
    | zero =>
      have e : RW P 0 = [[]] := rfl
      rw [e, List.mem_singleton]
      constructor
      · rintro rfl; exact ⟨rfl, (fun _ h => nomatch h), by simp⟩
      · rintro ⟨_, _, h⟩; exact h.mpr rfl
    | succ i =>
      have hPt : P.take (i + 1) ≠ [] := by
        intro h
        have := congrArg List.length h
        rw [List.length_take, List.length_nil] at this; omega
      have hft : ∀ p ∈ P.take (i + 1), 32 ∉ p := fun p hp => hfree p (List.mem_of_mem_take hp)
      have hlen : (P.take (i + 1)).length = i + 1 := by rw [List.length_take]; omega
      rw [mem_row]
      constructor
      · rintro ⟨s, hs, m', hm', x, hx, rfl⟩
        obtain ⟨h1, h2, h3⟩ := (ih s (by omega) (by omega) m').mp hm'
        obtain ⟨hb, hd⟩ := meant_iff.mp hx
        refine ⟨?_, ?_, by simp⟩
        · rw [List.map_append, List.map_singleton]
          by_cases hs0 : s = 0
          · subst hs0
            rw [h3.mpr rfl, List.map_nil, List.nil_append]
            exact hd
          · have hm0 : m'.map dr ≠ [] := fun h => hs0 (h3.mp (List.map_eq_nil_iff.mp h))
            rw [jn_app _ _ _ hm0 (by simp), h1]
            show jn [32] (P.take s) ++ [32] ++ dr x = _
            have hsplit : P.take (i + 1) = P.take s ++ (P.take (i + 1)).drop s := by
              have := List.take_append_drop s (P.take (i + 1))
              rw [List.take_take, Nat.min_eq_left (by omega)] at this
              exact this.symm
            have hA : P.take s ≠ [] := by
              intro h
              have := congrArg List.length h
              rw [List.length_take, List.length_nil] at this; omega
            have hB : (P.take (i + 1)).drop s ≠ [] := by
              intro h
              have := congrArg List.length h
              rw [List.length_drop, hlen, List.length_nil] at this; omega
            conv => rhs; rw [hsplit]
            rw [jn_app _ _ _ hA hB, hd]
        · intro y hy
          rcases List.mem_append.mp hy with hy | hy
          · exact h2 y hy
          · rw [List.mem_singleton.mp hy]; exact hb
      · rintro ⟨h1, h2, h3⟩
        have hm : m ≠ [] := fun h => by have := h3.mp h; omega
        obtain ⟨m', x, rfl⟩ : ∃ m' x, m = m' ++ [x] := ⟨m.dropLast, m.getLast hm, (List.dropLast_concat_getLast hm).symm⟩
        have hb := h2 x (List.mem_append.mpr (.inr (List.mem_singleton.mpr rfl)))
        have h2' : ∀ y ∈ m', bit y := fun y hy => h2 y (List.mem_append.mpr (.inl hy))
        rw [List.map_append, List.map_singleton] at h1
        by_cases hm' : m' = []
        · subst hm'
          refine ⟨0, by omega, [], List.mem_singleton.mpr rfl, x, meant_iff.mpr ⟨hb, ?_⟩, rfl⟩
          exact h1
        · have hm0 : m'.map dr ≠ [] := fun h => hm' (List.map_eq_nil_iff.mp h)
          rw [jn_app _ _ _ hm0 (by simp)] at h1
          have h1 : jn [32] (m'.map dr) ++ [32] ++ dr x = jn [32] (P.take (i + 1)) := h1
          rw [List.append_assoc, List.singleton_append] at h1
          have hc := congrArg (cut 32) h1
          rw [cut_split, cut_jn 32 _ hPt hft] at hc
          generalize ha : jn [32] (m'.map dr) = a at h1 hc
          have hla : 0 < (cut 32 a).length := List.length_pos_iff.mpr (cut_ne 32 a)
          have hlx : 0 < (cut 32 (dr x)).length := List.length_pos_iff.mpr (cut_ne 32 (dr x))
          have hl := congrArg List.length hc
          rw [List.length_append, hlen] at hl
          have hA : P.take (cut 32 a).length = cut 32 a := by
            have : (P.take (i + 1)).take (cut 32 a).length = cut 32 a := by rw [← hc, List.take_left' rfl]
            rw [List.take_take, Nat.min_eq_left (by omega)] at this
            exact this
          have hB : (P.take (i + 1)).drop (cut 32 a).length = cut 32 (dr x) := by rw [← hc, List.drop_left' rfl]
          refine ⟨(cut 32 a).length, by omega, m', ?_, x, meant_iff.mpr ⟨hb, ?_⟩, rfl⟩
          · refine (ih _ (by omega) (by omega) m').mpr ⟨?_, h2', ?_⟩
            · rw [hA, jn_cut32, ha]
            · constructor
              · intro h; exact absurd h hm'
              · intro h; omega
          · rw [hB, jn_cut32]
theorem take_inj {P : List (List Nat)} (hfree : ∀ p ∈ P, 32 ∉ p) {s s' : Nat} (hs : s ≤ P.length) (hs' : s' ≤ P.length) (h0 : s ≠ 0) (h0' : s' ≠ 0) (h : jn [32] (P.take s) = jn [32] (P.take s')) : s = s' := by
  have ne : ∀ k, k ≤ P.length → k ≠ 0 → P.take k ≠ [] := fun k hk h0 h => by
    have := congrArg List.length h
    rw [List.length_take, List.length_nil] at this; omega
  have fr : ∀ k, ∀ p ∈ P.take k, 32 ∉ p := fun k p hp => hfree p (List.mem_of_mem_take hp)
  have := congrArg (cut 32) h
  rw [cut_jn 32 _ (ne s hs h0) (fr s), cut_jn 32 _ (ne s' hs' h0') (fr s')] at this
  have := congrArg List.length this
  rw [List.length_take, List.length_take] at this
  omega
theorem way_nodup {P : List (List Nat)} (hfree : ∀ p ∈ P, 32 ∉ p) : ∀ j, j ≤ P.length → (RW P j).Nodup := by
  intro j
  induction j using Nat.strongRecOn with
  | ind j ih =>
    intro hj
    cases j with
    | zero => exact List.pairwise_singleton _ _
    | succ i =>
      rw [RW_succ]
      unfold rowP List.Nodup
      rw [List.pairwise_flatMap]
      refine ⟨fun s hs => ?_, ?_⟩
      · have hs := List.mem_range.mp hs
        unfold extW
        rw [List.pairwise_flatMap]
        refine ⟨fun x hx => ?_, ?_⟩
        · unfold ext1
          rw [ways_get P i s (by omega), List.pairwise_map]
          exact (ih s (by omega) (by omega)).imp fun h e => h (List.append_cancel_right e)
        · cases e : meantL (jn [32] ((P.take (i + 1)).drop s)) with
          | nil => exact List.Pairwise.nil
          | cons x r =>
            have := (meant_of (l := jn [32] ((P.take (i + 1)).drop s)) (m := x) (by rw [e]; exact List.mem_cons_self)).2.2
            rw [e] at this
            cases r with
            | nil => exact List.pairwise_singleton _ _
            | cons y r => simp at this
      · refine List.Pairwise.imp_of_mem (R := fun a b => a < b) ?_ List.pairwise_lt_range
        intro s s' hs hs' hlt
        have hs := List.mem_range.mp hs
        have hs' := List.mem_range.mp hs'
        intro m hm m2 hm2
        unfold extW ext1 at hm hm2
        obtain ⟨x, hx, hm⟩ := List.mem_flatMap.mp hm
        obtain ⟨m', hm', rfl⟩ := List.mem_map.mp hm
        obtain ⟨x2, hx2, hm2⟩ := List.mem_flatMap.mp hm2
        obtain ⟨m2', hm2', rfl⟩ := List.mem_map.mp hm2
        intro e
        obtain ⟨e1, e2⟩ := List.append_inj' e rfl
        subst e1
        rw [ways_get P i s (by omega)] at hm'
        rw [ways_get P i s' (by omega)] at hm2'
        obtain ⟨a1, _, a3⟩ := (way_iff hfree s (by omega) m').mp hm'
        obtain ⟨b1, _, b3⟩ := (way_iff hfree s' (by omega) m').mp hm2'
        by_cases h0 : s = 0
        · have := b3.mp (a3.mpr h0); omega
        · by_cases h0' : s' = 0
          · exact h0 (a3.mp (b3.mpr h0'))
          · have := take_inj hfree (by omega) (by omega) h0 h0' (a1.symm.trans b1)
            omega
-- what is read of a line in dresses 
theorem read_dr (m : List Wd) : rd (jn [32] (m.map dr)) = m.map fun p => (tg p.2, p.1) := by
  have := read_line m
  rw [← line_text] at this
  exact this
theorem tg_bit {p : Wd} (h : bit p) : ((tg p.2 : Nat) : Int) = p.2 := by
  unfold tg
  rcases h with h | h <;> rw [h] <;> rfl
-- the words and dresses as they are paired 
def prs (ws : List (Nat × List Nat)) : List Wd := ws.map fun p => (p.2, (p.1 : Int))
theorem of_read {m : List Wd} (hb : ∀ x ∈ m, bit x) {l : List Nat} (h : jn [32] (m.map dr) = l) : m = prs (rd l) := by
  rw [← h, read_dr]
  unfold prs
  rw [List.map_map]
  conv => lhs; rw [← List.map_id m]
  refine List.map_congr_left fun p hp => ?_
  show p = (p.1, ((tg p.2 : Nat) : Int))
  rw [tg_bit (hb p hp)]
theorem row_one {l : List Nat} (j : Nat) (hj : j ≤ (cut 32 l).length) : (RW (cut 32 l) j).length ≤ 1 := by
  have hfree := cut_free2 32 l
  have hn := way_nodup hfree j hj
  have hall : ∀ m ∈ RW (cut 32 l) j, m = prs (rd (jn [32] ((cut 32 l).take j))) := fun m hm => by
    obtain ⟨h1, h2, _⟩ := (way_iff hfree j hj m).mp hm
    exact of_read h2 h1
  cases e : RW (cut 32 l) j with
  | nil => simp
  | cons a r =>
    cases r with
    | nil => simp
    | cons b r =>
      rw [e] at hn hall
      have h1 := hall a List.mem_cons_self
      have h2 := hall b (List.mem_cons_of_mem _ List.mem_cons_self)
      exact absurd (h1.trans h2.symm) (by
        intro h
        exact (List.nodup_cons.mp hn).1 (h ▸ List.mem_cons_self))
theorem rows_small {l : List Nat} : ∀ i, i < (cut 32 l).length → (rowP (cut 32 l) (waysT (cut 32 l) i) (i + 1) (i + 1)).length ≤ 1000 := fun i hi => by
  rw [← RW_succ]
  exact Nat.le_trans (row_one (i + 1) hi) (by decide)
-- the normal form 
def norm (ws : List (Nat × List Nat)) : List Nat := jn [32] ((prs ws).map dr)
def Bits (ws : List (Nat × List Nat)) : Prop := ∀ p ∈ ws, p.1 ≤ 1
theorem prs_bit {ws : List (Nat × List Nat)} (h : Bits ws) : ∀ x ∈ prs ws, bit x := fun x hx => by
  obtain ⟨p, hp, rfl⟩ := List.mem_map.mp hx
  have := h p hp
  show ((p.1 : Nat) : Int) = 0 ∨ ((p.1 : Nat) : Int) = 1
  omega
theorem read_norm {ws : List (Nat × List Nat)} (h : Bits ws) : rd (norm ws) = ws := by
  unfold norm
  rw [read_dr]
  unfold prs
  rw [List.map_map]
  conv => rhs; rw [← List.map_id ws]
  refine List.map_congr_left fun p hp => ?_
  show (tg (p.1 : Int), p.2) = p
  have := h p hp
  have e : tg (p.1 : Int) = p.1 := by
    unfold tg
    split
    · rename_i h0; have : (p.1 : Int) ≠ 0 := h0; omega
    · rename_i h0; have : (p.1 : Int) = 0 := by simpa using h0
      omega
  rw [e]
theorem ways_eq {l : List Nat} (hb : Bits (rd l)) : waysOf l = if norm (rd l) = l then [prs (rd l)] else [] := by
  unfold waysOf
  by_cases hl : l = []
  · subst hl
    rw [if_pos rfl, if_pos (by rfl)]; rfl
  · rw [if_neg hl]
    have hfree := cut_free2 32 l
    have hn0 : 0 < (cut 32 l).length := List.length_pos_iff.mpr (cut_ne 32 l)
    have hT : (waysT (cut 32 l) (cut 32 l).length).getD (cut 32 l).length [] = RW (cut 32 l) (cut 32 l).length := rfl
    rw [hT]
    have hone := row_one (l := l) (cut 32 l).length (Nat.le_refl _)
    have hall : ∀ m ∈ RW (cut 32 l) (cut 32 l).length, m = prs (rd l) ∧ norm (rd l) = l := fun m hm => by
      obtain ⟨h1, h2, _⟩ := (way_iff hfree _ (Nat.le_refl _) m).mp hm
      rw [List.take_length, jn_cut32] at h1
      have := of_read h2 h1
      refine ⟨this, ?_⟩
      unfold norm
      rw [← this]; exact h1
    by_cases hN : norm (rd l) = l
    · rw [if_pos hN]
      have hm : prs (rd l) ∈ RW (cut 32 l) (cut 32 l).length := by
        refine (way_iff hfree _ (Nat.le_refl _) _).mpr ⟨?_, prs_bit hb, ?_⟩
        · rw [List.take_length, jn_cut32]; exact hN
        · constructor
          · intro h
            exfalso
            unfold norm at hN
            rw [h] at hN
            exact hl hN.symm
          · intro h; omega
      cases e : RW (cut 32 l) (cut 32 l).length with
      | nil => rw [e] at hm; cases hm
      | cons a r =>
        rw [e] at hone hm
        cases r with
        | nil => rw [List.mem_singleton.mp hm]
        | cons b r => simp at hone
    · rw [if_neg hN]
      cases e : RW (cut 32 l) (cut 32 l).length with
      | nil => rfl
      | cons a r => exact absurd (hall a (by rw [e]; exact List.mem_cons_self)).2 hN
-- ### what is read 
theorem app_mem {ws : List (Nat × List Nat)} {u : List Nat} {p : Nat × List Nat} (h : p ∈ app ws u) : ∃ q, (q ∈ ws ∧ p.1 = q.1 ∧ ∀ c ∈ p.2, c ∈ q.2 ∨ c ∈ u) := by
  rcases List.eq_nil_or_concat ws with rfl | ⟨l, q, rfl⟩
  · cases h
  · rw [List.concat_eq_append] at h ⊢
    rw [app_concat] at h
    rcases List.mem_append.mp h with h | h
    · exact ⟨p, List.mem_append.mpr (.inl h), rfl, fun c hc => .inl hc⟩
    · rw [List.mem_singleton.mp h]
      exact ⟨q, List.mem_append.mpr (.inr (List.mem_singleton.mpr rfl)), rfl, fun c hc => List.mem_append.mp hc⟩
def RdOk (l : List Nat) (ws : List (Nat × List Nat)) : Prop := ∀ p ∈ ws, p.1 ≤ 1 ∧ ∀ c ∈ p.2, c ∈ l
theorem RdOk.beg {l : List Nat} {ws : List (Nat × List Nat)} (h : RdOk l ws) (fr : Bool) (c : Nat) : RdOk l (beg fr c ws) := by
  unfold Mine.beg
  split
  · intro p hp
    rcases List.mem_append.mp hp with hp | hp
    · exact h p hp
    · rw [List.mem_singleton.mp hp]
      exact ⟨by show (if c = 34 then 1 else 0) ≤ 1; split <;> omega, fun c hc => nomatch hc⟩
  · exact h
theorem RdOk.app {l : List Nat} {ws : List (Nat × List Nat)} (h : RdOk l ws) {u : List Nat} (hu : ∀ c ∈ u, c ∈ l) : RdOk l (app ws u) := fun p hp => by
  obtain ⟨q, h1, h2, h3⟩ := app_mem hp
  obtain ⟨a, b⟩ := h q h1
  exact ⟨by omega, fun c hc => (h3 c hc).elim (b c) (hu c)⟩
theorem RdOk.step {l : List Nat} {σ : Wk} (h : RdOk l σ.ws) {c : Nat} (hc : c ∈ l) : RdOk l (wstp σ c).ws := by
  have hb := h.beg σ.fr c
  have h1 : ∀ c' ∈ [c], c' ∈ l := fun c' h' => by rw [List.mem_singleton.mp h']; exact hc
  unfold wstp
  split
  · exact hb
  · split
    · exact hb.app h1
    · split
      · refine hb.app ?_
        split
        · exact h1
        · exact fun c' h' => nomatch h'
      · split
        · exact hb
        · exact hb.app h1
theorem rd_ok (l : List Nat) : RdOk l (rd l) := by
  rw [rd_wk]
  suffices H : ∀ (r : List Nat) (σ : Wk), (∀ c ∈ r, c ∈ l) → RdOk l σ.ws → RdOk l (wk σ r).ws from H l _ (fun c h => h) (fun p hp => nomatch hp)
  intro r
  induction r with
  | nil => exact fun σ _ h => h
  | cons c r ih => exact fun σ hr h => ih _ (fun c' h' => hr c' (List.mem_cons_of_mem _ h')) (h.step (hr c List.mem_cons_self))
theorem rd_bits (l : List Nat) : Bits (rd l) := fun p hp => (rd_ok l p hp).1
theorem rd_size (l : List Nat) : (rd l).length ≤ l.length ∧ wsum (rd l) ≤ l.length := by
  have := wk0_ok l l.length (Nat.le_refl _)
  rw [List.take_length] at this
  rw [rd_wk]
  exact ⟨this.n, this.s⟩
-- all words in the shell's dress 
def zer (ws : List (Nat × List Nat)) : List (Nat × List Nat) := ws.map fun p => (0, p.2)
theorem norm_zer (ws : List (Nat × List Nat)) : norm (zer ws) = jn [32] (ws.map fun p => qt p.2) := by
  unfold norm prs zer
  rw [List.map_map, List.map_map]
  congr 1
theorem zer_bits (ws : List (Nat × List Nat)) : Bits (zer ws) := fun p hp => by
  obtain ⟨q, _, rfl⟩ := List.mem_map.mp hp
  exact Nat.zero_le _

section
variable {w : World} {mg mb : Str → Option Value} {G : Heap}
def rmsg : Str := Str.ofString "reduce() of empty iterable with no initial value"
theorem boot_stop : bootBuiltins (Str.ofString "StopIteration") = some (.type "StopIteration") := by rfl
theorem boot_type : bootBuiltins (Str.ofString "TypeError") = some (.type "TypeError") := by rfl
-- reduce over a list without a start 
theorem c_reduce2 (KI : (KK w).In G) (N : Names mg) {lvl : Nat} {A : Around} {outer : List Env} {V : List Addr} {s : Shared} {fa : Addr} {vq : Value} {ds : List Dat} {d0 : Dat} {g : Nat → Dat} {R : List Dat → Dat → Prop} {Q E : Value → Shared → Prop} (pre : Pre mg mb G (lvl + 1) A outer V s)
    (FN : FnAt PR w mg mb G lvl s V fa R) (hq : Has V s.heap vq (.list (d0 :: ds))) (h0 : g 0 = d0) (hR : ∀ j d, ds[j]? = some d → R [g j, d] (g (j + 1))) (k : ∀ v s', Mv G (outer.filterMap (·.frame)) s s' → Has V s'.heap v (g ds.length) → Q v s') :
    wpAny (model PR w) A (call (.ref 92) [.ref fa, vq]) Q E s := by
  refine enter_def (binds := [(Str.ofString "function", .ref fa), (Str.ofString "sequence", vq), (Str.ofString "initial", .ref 84)]) (ρ := [(Str.ofString "function", .val (.ref fa)), (Str.ofString "sequence", .dat (.list (d0 :: ds))), (Str.ofString "initial", .val (.ref 84))]) (K := []) pre (by omega) (KI _ _ (by rfl)) (by rfl) (codeRec_of KI (by rfl)) (by rfl) (by rfl) (by rfl) (by rfl) (kp_binds (KI.keeps pre.bel.stays) fun S => by rfl) (by decide) (ps := [Str.ofString "function", Str.ofString "sequence", Str.ofString "initial"]) rfl (by rfl) (by decide) ?_ (fun p hp => nomatch hp) (by rfl) (by rfl) (by rfl) ?_ k
  · intro x sl hx
    simp only [List.lookup_cons, List.lookup_nil] at hx
    split at hx
    · rename_i h; cases hx; have := eq_of_beq h; subst this; exact ⟨_, List.mem_cons_self, rfl⟩
    · split at hx
      · rename_i h; cases hx; have := eq_of_beq h; subst this; exact ⟨_, List.mem_cons_of_mem _ List.mem_cons_self, hq⟩
      · split at hx
        · rename_i h; cases hx; have := eq_of_beq h; subst this; exact ⟨_, List.mem_cons_of_mem _ (List.mem_cons_of_mem _ List.mem_cons_self), rfl⟩
        · cases hx
  · intro L
    refine Ex.iterNext (d0 := d0) (ds := ds) (.inl (by rfl)) (.inl (by rfl)) (by decide) (by decide) (Ev.builtin (by rfl) N.iter boot_iter) (Ev.name (by rfl)) (fun V K D I => Tr.isSame (b := 84) (EvS.name (by rfl)) (Ev.global (by rfl) N.missing)) (fun V K D I => Ev.builtin (by rfl) N.next boot_next) (by rfl) (by rfl) (by rfl) (by rfl) fun I V' K' D' H => ?_
    refine ExH.forHeld (i := 1) (H _ _) (by rfl) (by simp) (fun j ρ => 1 ≤ j ∧ ρ = [(Str.ofString "function", .val (.ref fa)), (Str.ofString "value", .dat (g (j - 1)))]) ⟨_, ⟨Nat.le_refl _, rfl⟩, by subst h0; (repeat (first | exact Sub.nilS _ | refine Sub.consS (by rfl) ?_))⟩ ?_ ?_
    · rintro K'' j ρ' d ⟨hj, rfl⟩ hd
      obtain ⟨i, rfl⟩ : ∃ i, j = i + 1 := ⟨j - 1, by omega⟩
      have hd' : ds[i]? = some d := by simpa using hd
      refine ⟨_, As.name (.inl (by rfl)), ?_⟩
      refine Ex.consX (ExS.assign (d := g (i + 1)) (.inl (by rfl)) (Ev.callFn (EvS.name (by rfl)) FN (fun a ha => ?_) (EvL.consE (Ev.name (by rfl)) (EvL.consE (Ev.name (by rfl)) EvL.nilE)) (hR i d hd') ?_ ?_) (thenN (Ex.nilX ⟨_, _, rfl, ⟨by omega, rfl⟩, ?_⟩)))
      · exact (H (Str.ofString "") default).new a (by simpa using ha)
      · have := pre.dep; show A.depth + 1 + lvl < _; omega
      · have := pre.uni; show A.units + _ + 40 * lvl + 100 < _; omega
      · (repeat (first | exact Sub.nilS _ | refine Sub.consS (by rfl) ?_))
    · rintro ρ' ⟨_, rfl⟩
      exact Ex.consX (ExS.ret (Ev.name (by rfl)) rfl)
-- reduce over an empty list without a start 
theorem r_reduce2 (KI : (KK w).In G) (N : Names mg) {lvl : Nat} {A : Around} {outer : List Env} {V : List Addr} {s : Shared} {fa : Addr} {vq : Value} {Q E : Value → Shared → Prop} (pre : Pre mg mb G (lvl + 1) A outer V s) (hst : A.frames = some outer)
    (hq : Has V s.heap vq (.list [])) (k : ∀ e s' u, Fly G outer s e (.type "TypeError") [.str rmsg u] s' → E (.ref e) s') :
    wpAny (model PR w) A (call (.ref 92) [.ref fa, vq]) Q E s := by
  refine enter_defE (binds := [(Str.ofString "function", .ref fa), (Str.ofString "sequence", vq), (Str.ofString "initial", .ref 84)]) (ρ := [(Str.ofString "function", .val (.ref fa)), (Str.ofString "sequence", .dat (.list [])), (Str.ofString "initial", .val (.ref 84))]) (K := []) pre (by omega) (KI _ _ (by rfl)) (by rfl) (codeRec_of KI (by rfl)) (by rfl) (by rfl) (by rfl) (by rfl) (kp_binds (KI.keeps pre.bel.stays) fun S => by rfl) (by decide) (ps := [Str.ofString "function", Str.ofString "sequence", Str.ofString "initial"]) rfl (by rfl) (by decide) ?_ (fun p hp => nomatch hp) (by rfl) (by rfl) (by rfl) ?_
  · intro x sl hx
    simp only [List.lookup_cons, List.lookup_nil] at hx
    split at hx
    · rename_i h; cases hx; have := eq_of_beq h; subst this; exact ⟨_, List.mem_cons_self, rfl⟩
    · split at hx
      · rename_i h; cases hx; have := eq_of_beq h; subst this; exact ⟨_, List.mem_cons_of_mem _ List.mem_cons_self, hq⟩
      · split at hx
        · rename_i h; cases hx; have := eq_of_beq h; subst this; exact ⟨_, List.mem_cons_of_mem _ (List.mem_cons_of_mem _ List.mem_cons_self), rfl⟩
        · cases hx
  · intro L s₁ Q' st
    refine reduce_raises (ip := default) (outer := outer) st (Around.frames_deeper hst) rfl rfl rfl ?_ (.inl (by rfl)) (by decide) (by decide) (Ev.builtin (by rfl) N.iter boot_iter) (Ev.name (by rfl)) (fun V K D I => Tr.isSame (b := 84) (EvS.name (by rfl)) (Ev.global (by rfl) N.missing)) (fun V K D I => Ev.builtin (by rfl) N.next boot_next)
      (by rfl) N.stop boot_stop (by decide) (by decide) (by rfl) N.type boot_type (by decide) (by decide) (by rfl) (by rfl) (by rfl) (by rfl) k
    exact pre.frD
end

theorem zip_wD (ws : List (List Nat)) (xs : List Int) : ((wD ws).zip (iD xs)).map (fun p => Dat.tuple [p.1, p.2]) = (ws.zip xs).map fun p => Dat.tuple [.str (S p.1), .int p.2] := by
  unfold wD iD
  rw [List.zip_map, List.map_map]; rfl
theorem jn_take_le (z : List Nat) (L : List (List Nat)) (i : Nat) : (jn z (L.take i)).length ≤ (jn z L).length := by
  by_cases h1 : L.take i = []
  · rw [h1]; simp [jn]
  by_cases h2 : L.drop i = []
  · have := List.take_append_drop i L
    rw [h2, List.append_nil] at this
    rw [this]; exact Nat.le_refl _
  · have := jn_app z (L.take i) (L.drop i) h1 h2
    rw [List.take_append_drop] at this
    rw [this, List.length_append, List.length_append]; omega
theorem jn_le_sum : ∀ L : List (List Nat), (jn [32] L).length ≤ (L.map List.length).sum + L.length
  | [] => by simp [jn]
  | [p] => by simp [jn]
  | p :: q :: r => by
    have := jn_le_sum (q :: r)
    simp only [jn, List.map_cons, List.sum_cons, List.length_append, List.length_cons, List.length_nil] at this ⊢
    omega
section
variable {w : World} {mg mb : Str → Option Value} {G : Heap}
theorem code115 (T : TopF w mg G) : CodeIs G 115 113 :=
  ⟨⟨_, _, _, _, _, _, _, _, _, T.KI _ _ (by rfl), rfl, rfl, rfl, rfl, rfl, rfl, rfl⟩, by decide, T.t113⟩
def Rwritten (ds : List Dat) (d : Dat) : Prop := ∃ (ws : List (List Nat)) (xs : List Int), ds = [.list (wD ws), .list (iD xs)] ∧ (∀ p ∈ ws, p.length ≤ 10000) ∧ (ws.zip xs).length ≤ 10000 ∧ ((ws.zip xs).map fun p => (drs p.2 p.1).length).sum + (ws.zip xs).length ≤ 16000000 ∧ d = .str (S (jn [32] ((ws.zip xs).map fun p => drs p.2 p.1)))
abbrev sD (L : List (List Nat)) : List Dat := L.map fun p => Dat.str (S p)
set_option maxHeartbeats 3200000 in
theorem c_written (T : TopF w mg G) : ConF PR w mg mb G 3 116 Rwritten := by
  have KI := T.KI
  have N := T.N
  have hz := N.zip
  refine ConF.of_def [Str.ofString "words", Str.ofString "dresses"] (KI _ _ (by rfl)) (by rfl) ?_ (by rfl) (by rfl) (by rfl) (by rfl) (fun vs hv => ?_) (by decide) (by rfl) (fun ds d ⟨l, x, e, _⟩ => by rw [e]; rfl) (by decide) (by rfl) (by rfl) (by rfl) ?_
  · exact codeRec_of KI (by rfl)
  · match vs, hv with
    | [v1, v2], _ => rfl
  · rintro A L outer V s hst hd hu ds d ⟨ws, xs, rfl, hws, hlen, hsum, rfl⟩
    dsimp only [parm, List.map, List.zip_cons_cons, List.zip_nil_right]
    have e34 : Str.ofString "\"" = S [34] := by decide
    have e3434 : Str.ofString "\"\"" = S [34, 34] := by decide
    obtain ⟨LL, hLL⟩ : ∃ LL : List (List Nat), (ws.zip xs).map (fun p => drs p.2 p.1) = LL := ⟨_, rfl⟩
    have hLs : (LL.map List.length).sum + LL.length ≤ 16000000 := by
      rw [← hLL, List.map_map, List.length_map]; exact hsum
    have hjl : (jn [32] LL).length ≤ 16000000 := Nat.le_trans (jn_le_sum LL) hLs
    refine' Ex.consM [] [(Str.ofString "worn", .dat (.list ((ws.zip xs).map fun p : List Nat × Int => Dat.str (S (drs p.2 p.1)))))] (ExS.assignCompA (xs := ws.zip xs) (j := tD) (g := fun p : List Nat × Int => Dat.str (S (drs p.2 p.1))) (ρc := []) (by rfl) ?x2 (by rfl) Cap.nil ?turn ?sz1 (nextN (by (repeat (first | exact Sub.nilS _ | refine Sub.consS (by rfl) ?_))))) ?_
    case x2 =>
      have : (ws.zip xs).map tD = ((wD ws).zip (iD xs)).map fun p => Dat.tuple [p.1, p.2] := by rw [zip_wD]; rfl
      rw [this]
      exact It.zipC (Ev.builtin (by rfl) hz boot_zip) (Ev.name (by rfl)) (Ev.name (by rfl))
    case turn =>
      intro C s₁ V' K D Dd acc p hp
      have hpl := hws p.1 (List.of_mem_zip hp).1
      refine' ⟨_, Sub.nilS _, As.tuple2 (.inl (by rfl)) (.inl (by rfl)), Ev.ite (v := p.2 != 0) (Tr.intE (Ev.name (by rfl))) (fun h => ?y1) (fun h => ?y2)⟩
      case y1 =>
        have hx : p.2 ≠ 0 := by simpa using h
        have hr : (rep 34 [34, 34] p.1).length ≤ p.1.length * 3 := rep_length 34 [34, 34] p.1
        have hc := cut_len 34 p.1
        have hj : ((cut 34 p.1).map List.length).sum + (cut 34 p.1).length * 2 ≤ sizeLine := by
          have h1 : ((cut 34 p.1).map List.length).sum ≤ p.1.length := by
            clear hpl hr hc hp
            induction p.1 with
            | nil => simp [cut]
            | cons a r ih =>
              unfold cut
              split
              · simp only [List.map_cons, List.sum_cons, List.length_nil, List.length_cons]; omega
              · split
                · rename_i q qs e
                  rw [e] at ih
                  simp only [List.map_cons, List.sum_cons, List.length_cons] at ih ⊢; omega
                · simp
          rw [sizeLine_eq]; omega
        refine Ev.of (Ev.bin (Ev.bin Ev.strC (Ev.methS (x := S [34, 34]) (Ev.of Ev.strC (by rw [e3434])) (Ev.methS (x := S p.1) (Ev.name (by rfl)) (Ev.of Ev.strC (by rw [e34])) F.slot_str_split F.type_str_split (Op2.splitOne (x := p.1) (y := 34) ?_)) F.slot_str_join F.type_str_join (Op2.joinL (cut 34 p.1) rfl ?_)) (Op2.addStr ?_)) Ev.strC (Op2.addStr ?_)) ?_
        · rw [sizeLine_eq]; omega
        · exact hj
        · rw [jn_cut, e34, S_length, S_length, sizeLine_eq]; simp only [List.length_cons, List.length_nil]; omega
        · rw [jn_cut, e34, S_append, S_length, S_length, sizeLine_eq]; simp only [List.length_append, List.length_cons, List.length_nil]; omega
        · rw [jn_cut, e34, S_append, S_append]; show Dat.str _ = Dat.str (S (drs p.2 p.1)); unfold drs; rw [if_pos hx]; rfl
      case y2 =>
        have hx : ¬ p.2 ≠ 0 := by simpa using h
        refine Ev.of (Ev.callF (Ev.global (by rfl) N.quote) (KI _ _ (by rfl)) (by rfl) (EvL.consE (Ev.name (by rfl)) EvL.nilE) (OpN.con (c_quote KI N) ⟨p.1, rfl, by omega, rfl⟩ ?_ ?_)) (by show Dat.str _ = Dat.str (S (drs p.2 p.1)); unfold drs; rw [if_neg hx])
        · show A.depth + 1 + 1 < _; exact dep_lt hd (by decide)
        · show A.units + 3 + 40 * 1 + 100 < _; exact uni_lt (a := A.units) (d := 40 * 1) hu (by decide)
    case sz1 => rw [sizeLine_eq]; omega
    have hg : ((ws.zip xs).map fun p : List Nat × Int => Dat.str (S (drs p.2 p.1))) = sD LL := by rw [← hLL]; unfold sD; rw [List.map_map]; rfl
    rw [hg, hLL]
    cases LL with
    | nil =>
      refine Ex.consX (ExS.tryBuilt (outer := outer) (as := rmsg) (r := Str.ofString "") (EvX.callLam2 (Ev.global (by rfl) N.reduce) (KI _ _ (by rfl)) (by rfl) (code115 T) (by rfl) T.B (by rfl) (by rfl) (Ev.name (by rfl)) ?_) ?_ rfl rfl (by rfl) N.type boot_type (by rfl) (by rfl) N.str boot_str ?_ ?_)
      · intro s fa v2 Q E st hv k
        refine r_reduce2 KI N (lvl := 1) (Pre.of st ?_ ?_) ?_ hv k
        · show A.depth + 1 + 2 < _; exact dep_lt hd (by decide)
        · show A.units + 3 + 40 * 2 + 100 < _; exact uni_lt (a := A.units) (d := 40 * 2) hu (by decide)
        · exact Around.frames_deeper hst
      · exact Around.frames_deeper hst
      · show A.units + 3 + 10 < _; omega
      · rfl
    | cons p0 pr =>
      refine Ex.consX (ExS.tryOk (d := .str (S (jn [32] (p0 :: pr)))) (Ev.callLam2 (ds := sD (p0 :: pr)) (Ev.global (by rfl) N.reduce) (KI _ _ (by rfl)) (by rfl) (code115 T) (by rfl) T.B (by rfl) (by rfl) (Ev.name (by rfl)) ?_) rfl)
      intro s₁ s₂ fa v2 qual pm cdv ct Q E st1 hfa hcd m st2 hv k
      have FN := (lam_fnAt (ps := [Str.ofString "line", Str.ofString "word"]) (lvl := 1) (R := fun ds d => ∃ (j : Nat) (p : List Nat), pr[j]? = some p ∧ ds = [.str (S (jn [32] ((p0 :: pr).take (j + 1)))), .str (S p)] ∧ d = .str (S (jn [32] ((p0 :: pr).take (j + 1 + 1))))) (ρc := []) st1 hfa hcd CapL.nil (by decide) ?_ (by decide) (by rfl) (by decide) (by rfl) (by rfl) (by rfl) ?_ ?_).mv m (fun a ha => .inl ha)
      · refine c_reduce2 KI N (lvl := 1) (ds := sD pr) (d0 := .str (S p0)) (g := fun j => .str (S (jn [32] ((p0 :: pr).take (j + 1))))) (Pre.of st2 ?_ ?_) FN hv rfl ?_ fun v s' m' hv' => k v s' m' ?_
        · show A.depth + 1 + 2 < _; exact dep_lt hd (by decide)
        · show A.units + 3 + 40 * 2 + 100 < _; exact uni_lt (a := A.units) (d := 40 * 2) hu (by decide)
        · intro j d hd
          unfold sD at hd
          rw [List.getElem?_map] at hd
          cases hp : pr[j]? with
          | none => rw [hp] at hd; cases hd
          | some p =>
            rw [hp] at hd; cases hd
            exact ⟨j, p, hp, rfl, rfl⟩
        · have : (p0 :: pr).take ((sD pr).length + 1) = p0 :: pr := by
            rw [List.take_of_length_le]; simp [sD]
          rw [this] at hv'
          exact hv'
      · intro q pm cdv ct vs hv
        match vs, hv with
        | [a, b], _ => rfl
      · rintro ds d ⟨j, p, _, rfl, _⟩; rfl
      · rintro A' outer' V' s' q L' fa' cdv' ds d hd' hu' ⟨j, p, hp, rfl, rfl⟩
        dsimp only [parm, List.map, List.zip_cons_cons, List.zip_nil_right, List.cons_append, List.nil_append]
        have ht : (p0 :: pr).take (j + 1 + 1) = (p0 :: pr).take (j + 1) ++ [p] := by
          rw [List.take_add_one, List.getElem?_cons_succ, hp]; rfl
        have hjn : jn [32] ((p0 :: pr).take (j + 1 + 1)) = jn [32] ((p0 :: pr).take (j + 1)) ++ [32] ++ p := by
          rw [ht, jn_app [32] _ _ (by simp) (by simp)]; rfl
        have hl1 := jn_take_le [32] (p0 :: pr) (j + 1 + 1)
        have e32 : Str.ofString " " = S [32] := by decide
        have hl2 := hl1
        rw [hjn, List.length_append, List.length_append, List.length_singleton] at hl2
        refine' Ev.of (Ev.bin (Ev.bin (Ev.name (by rfl)) Ev.strC (Op2.addStr ?y1)) (Ev.name (by rfl)) (Op2.addStr ?y2)) ?y3
        case y1 => rw [e32, S_length, S_length, List.length_singleton, sizeLine_eq]; omega
        case y2 => rw [e32, S_append, S_length, S_length, List.length_append, List.length_singleton, sizeLine_eq]; omega
        case y3 => rw [e32, S_append, S_append, hjn]
end

def bases2 : List Int := [12, 2, 13, 2, 3, 14, 14, 14]
def cells2 (xs : List Int) : List Int := bases2.zipIdx.map fun p => p.1 + (pk (xs.take 60) (some (p.2 : Nat)) none (some 8)).sum
def PCS : List (List Nat) := [[39], [34], [32], [97], [39, 39], [34, 34], [39, 34, 39, 34, 39], [34, 39, 34], [32, 39], [34, 32], [39, 32, 34], [36], [39, 105, 116, 39, 34, 39, 34, 39, 115, 39], [34, 97, 34, 34, 98, 34], []]
def pieceOf (c : Int) : List Nat := if c.fmod 16 = 15 then [((c.fdiv 16).fmod 1114112).toNat] else PCS.getD (c.fmod 16).toNat []
def txt2 (cs : List Int) : List Nat := jn [] (cs.map pieceOf)
theorem piece_ok (c : Int) : (pieceOf c).length ≤ 10 ∧ okc (pieceOf c) := by
  unfold pieceOf
  split
  · refine ⟨by simp, fun d hd => ?_⟩
    rw [List.mem_singleton.mp hd]
    have h0 := Int.fmod_nonneg_of_pos (c.fdiv 16) (show (0 : Int) < 1114112 by decide)
    have h1 := Int.fmod_lt_of_pos (c.fdiv 16) (show (0 : Int) < 1114112 by decide)
    omega
  · have key : ∀ i < 16, (PCS.getD i []).length ≤ 10 ∧ ∀ d ∈ PCS.getD i [], d < 1114112 := by decide
    have h0 := Int.fmod_nonneg_of_pos c (show (0 : Int) < 16 by decide)
    have h1 := Int.fmod_lt_of_pos c (show (0 : Int) < 16 by decide)
    exact key _ (by omega)
theorem txt2_ok (cs : List Int) (h : cs.length = 8) : (txt2 cs).length ≤ 80 ∧ okc (txt2 cs) := by
  constructor
  · have h1 := jn_len_le [] (cs.map pieceOf)
    have h2 : ∀ l : List Int, ((l.map pieceOf).map List.length).sum ≤ l.length * 10 := by
      intro l
      induction l with
      | nil => simp
      | cons a r ih =>
        have := (piece_ok a).1
        simp only [List.map_cons, List.sum_cons, List.length_cons]; omega
    have h3 := h2 cs
    unfold txt2
    simp only [List.length_nil, Nat.mul_zero, Nat.add_zero] at h1
    omega
  · intro c hc
    rcases of_mem_jn hc with hc | ⟨p, hp, hc⟩
    · cases hc
    · obtain ⟨q, _, rfl⟩ := List.mem_map.mp hp
      exact (piece_ok q).2 c hc
theorem cells2_len (xs : List Int) : (cells2 xs).length = 8 := by simp [cells2, bases2]
-- ## words in their dresses, as data 
theorem wsD_wD2 (W : List (Nat × List Nat)) : wsD W = wD (W.map (·.2)) := by unfold wsD wD; rw [List.map_map]; rfl
theorem dsD_iD (W : List (Nat × List Nat)) : dsD W = iD (W.map fun p => (p.1 : Int)) := by unfold dsD iD; rw [List.map_map]; rfl
theorem zip_prs (W : List (Nat × List Nat)) : (W.map (·.2)).zip (W.map fun p => (p.1 : Int)) = prs W := by
  unfold prs; rw [List.zip_map']
theorem drs_len (x : Int) (l : List Nat) : (drs x l).length ≤ 6 * l.length + 2 := by
  unfold drs rt qt
  have h1 := rep_length 34 [34, 34] l
  have h2 := rep_length 39 QZ l
  have e1 : ([34, 34] : List Nat).length = 2 := rfl
  have e2 : QZ.length = 5 := rfl
  rw [e1] at h1
  rw [e2] at h2
  split
  · simp only [List.length_cons, List.length_append, List.length_nil]; omega
  · split
    · simp
    · split
      · omega
      · simp only [List.length_cons, List.length_append, List.length_nil]; omega
theorem wsum_map (W : List (Nat × List Nat)) : (W.map fun p => p.2.length).sum = wsum W := by
  first | rfl | (unfold wsum; rfl) | (induction W with | nil => rfl | cons a r ih => simp [wsum] at *; omega)
theorem drs_sum (g : Nat × List Nat → Int) (W : List (Nat × List Nat)) : (W.map fun p => (drs (g p) p.2).length).sum ≤ 6 * wsum W + 2 * W.length := by
  rw [← wsum_map]
  induction W with
  | nil => simp
  | cons a r ih =>
    have := drs_len (g a) a.2
    simp only [List.map_cons, List.sum_cons, List.length_cons]; omega
theorem word_le (W : List (Nat × List Nat)) : ∀ p ∈ W, p.2.length ≤ wsum W := by
  rw [← wsum_map]
  induction W with
  | nil => intro p h; cases h
  | cons a r ih =>
    intro p hp
    simp only [List.map_cons, List.sum_cons]
    rcases List.mem_cons.mp hp with rfl | hp
    · omega
    · have := ih p hp; omega
theorem norm_eq (W : List (Nat × List Nat)) : jn [32] (((W.map (·.2)).zip (W.map fun p => (p.1 : Int))).map fun p => drs p.2 p.1) = norm W := by
  rw [zip_prs]; rfl
theorem norm_len (W : List (Nat × List Nat)) : (norm W).length ≤ 6 * wsum W + 3 * W.length := by
  unfold norm
  have h := jn_le_sum ((prs W).map dr)
  have h2 := drs_sum (fun p => (p.1 : Int)) W
  have h3 : (((prs W).map dr).map List.length) = W.map fun p => (drs (p.1 : Int) p.2).length := by unfold prs; rw [List.map_map, List.map_map]; rfl
  rw [h3, List.length_map] at h
  have h4 : (prs W).length = W.length := by unfold prs; rw [List.length_map]
  omega
theorem written_of {W : List (Nat × List Nat)} (h1 : W.length ≤ 80) (h2 : wsum W ≤ 80) : Rwritten [.list (wsD W), .list (dsD W)] (.str (S (norm W))) := by
  refine ⟨W.map (·.2), W.map fun p => (p.1 : Int), by rw [wsD_wD2, dsD_iD], fun p hp => ?_, ?_, ?_, by rw [norm_eq]⟩
  · obtain ⟨q, hq, rfl⟩ := List.mem_map.mp hp
    have := word_le W q hq; omega
  · rw [zip_prs]; unfold prs; rw [List.length_map]; omega
  · rw [zip_prs]
    have h := drs_sum (fun p => (p.1 : Int)) W
    have e : ((prs W).map fun p => (drs p.2 p.1).length) = W.map fun p => (drs (p.1 : Int) p.2).length := by unfold prs; rw [List.map_map]; rfl
    rw [e]
    have h4 : (prs W).length = W.length := by unfold prs; rw [List.length_map]
    omega
theorem zer_wsD (W : List (Nat × List Nat)) : wsD (zer W) = wsD W := by unfold wsD zer; rw [List.map_map]; rfl
theorem zer_dsD (W : List (Nat × List Nat)) : (List.replicate W.length ([Dat.int 0] : List Dat)).flatten = dsD (zer W) := by
  unfold dsD zer
  rw [List.map_map]
  induction W with
  | nil => rfl
  | cons a r ih => rw [List.length_cons, List.replicate_succ, List.flatten_cons, ih]; rfl
theorem zer_size (W : List (Nat × List Nat)) : (zer W).length = W.length ∧ wsum (zer W) = wsum W := by
  refine ⟨by unfold zer; rw [List.length_map], ?_⟩
  rw [← wsum_map, ← wsum_map]; unfold zer; rw [List.map_map]; rfl
theorem kq_words {W : List (Nat × List Nat)} (h : ∀ p ∈ W, okc p.2) (n : Nat) : kqdOk (n + 2) (.tuple [.list (wsD W), .list (dsD W)]) = true := by
  simp only [kqdOk, List.all_cons, List.all_nil, Bool.and_true, Bool.and_eq_true, List.all_eq_true, wsD, dsD, List.mem_map]
  refine ⟨?_, ?_⟩
  · rintro d ⟨p, hp, rfl⟩
    simpa [kqdOk] using strOk_S (h p hp)
  · rintro d ⟨p, hp, rfl⟩
    simp [kqdOk]
theorem zip_tD (W : List (Nat × List Nat)) : ((wsD W).zip (dsD W)).map (fun p => Dat.tuple [p.1, p.2]) = (prs W).map tD := by
  unfold wsD dsD prs
  rw [List.zip_map', List.map_map, List.map_map]; rfl

section
variable {w : World} {mg mb : Str → Option Value} {G : Heap}
def Rlaw2 (ds : List Dat) (d : Dat) : Prop := ∃ xs : List Int, ds = [.list (iD xs)] ∧ xs.length ≤ 63 ∧ d = .bool true
theorem ways_iteD {l : List Nat} : (Dat.list ((waysOf l).map wayD)) = if norm (rd l) = l then .list [.list ((prs (rd l)).map tD)] else .list [] := by
  rw [ways_eq (rd_bits l)]
  split <;> rfl
theorem kq_ways {l : List Nat} (h : ∀ p ∈ rd l, okc p.2) : kqdOk 8 (.list ((waysOf l).map wayD)) = true := by
  rw [ways_iteD]
  split
  · simp only [kqdOk, List.all_cons, List.all_nil, Bool.and_true, List.all_eq_true, List.mem_map]
    rintro d ⟨p, hp, rfl⟩
    obtain ⟨q, hq, rfl⟩ := List.mem_map.mp hp
    simp only [tD, kqdOk, List.all_cons, List.all_nil, Bool.and_true, Bool.and_eq_true]
    exact strOk_S (h q hq)
  · simp [kqdOk]
set_option maxHeartbeats 16000000 in
theorem c_law (T : TopF w mg G) : ConF PR w mg mb G 8 136 Rlaw2 := by
  have KI := T.KI
  have N := T.N
  refine ConF.of_def [Str.ofString "script"] (KI _ _ (by rfl)) (by rfl) ?_ (by rfl) (by rfl) (by rfl) (by rfl) (fun vs hv => ?_) (by decide) (by rfl) (fun ds d ⟨l, e, _⟩ => by rw [e]; rfl) (by decide) (by rfl) (by rfl) (by rfl) ?_
  · exact codeRec_of KI (by rfl)
  · match vs, hv with
    | [v1], _ => rfl
  · rintro A L outer V s hst hd hu ds d ⟨xs, rfl, hlen, rfl⟩
    dsimp only [parm, List.map, List.zip_cons_cons, List.zip_nil_right]
    have hu2 : A.units + 3 + 64 < cLine := by omega
    have hn60 : (xs.take 60).length ≤ 60 := by rw [List.length_take]; omega
    refine' Ex.consM [] [(Str.ofString "numbers", .dat (.list (iD (xs.take 60))))] (ExS.assign (d := .list (iD (xs.take 60))) (.inr ⟨rfl, by rfl, _, by rfl⟩) (Ev.of (Ev.sliceList (lo := none) (hi := some 60) (Ev.name (by rfl)) EvP.no (EvP.yes Ev.intC) ?y1) ?y2) (nextN (by (repeat (first | exact Sub.nilS _ | refine Sub.consS (by rfl) ?_))))) ?_
    case y1 => rw [iD, List.length_map, sizeLine_eq]; omega
    case y2 =>
      have : sl (iD xs) none (some 60) = (iD xs).take 60 := sl_upto _ 60
      rw [this]; simp [iD]
    generalize hcs : cells2 xs = cs
    have hcl : cs.length = 8 := by rw [← hcs]; exact cells2_len xs
    have hcm : (bases2.zipIdx.map fun p : Int × Nat => Dat.int (p.1 + (pk (xs.take 60) (some (p.2 : Nat)) none (some 8)).sum)) = iD cs := by rw [← hcs]; unfold cells2 iD; rw [List.map_map]; rfl
    refine' Ex.consM [] [(Str.ofString "cells", .dat (.list (bases2.zipIdx.map fun p : Int × Nat => Dat.int (p.1 + (pk (xs.take 60) (some (p.2 : Nat)) none (some 8)).sum))))] (ExS.assignCompA (xs := bases2.zipIdx) (j := fun p => Dat.tuple [.int (p.2 : Nat), .int p.1]) (g := fun p => Dat.int (p.1 + (pk (xs.take 60) (some (p.2 : Nat)) none (some 8)).sum)) (ρc := [(Str.ofString "numbers", .dat (.list (iD (xs.take 60))))])
      (by rfl) (It.of (It.enumC (d1 := iD bases2) (Ev.builtin (by rfl) N.enumerate boot_enumerate) ?y1) ?y2) (by rfl) ?y3 ?y4 ?y5 (nextN (by (repeat (first | exact Sub.nilS _ | refine Sub.consS (by rfl) ?_))))) ?_
    case y1 => walk_at "ev"
    case y2 =>
      unfold iD
      rw [List.zipIdx_map, List.map_map]; rfl
    case y3 =>
      refine Cap.of (Sub.consS (by rfl) (Sub.nilS _)) ?_ ?_ ?_
      · intro y hy
        rw [List.mem_singleton.mp hy]
        exact ⟨_, by rfl, by rfl, .inl (by rfl), .inl (by rfl)⟩
      · intro p hp
        rw [List.mem_singleton.mp hp]; rfl
      · exact List.pairwise_singleton _ _
    case y4 =>
      intro C s₁ V' K D Dd acc p hp
      refine' ⟨_, ?w0, As.tuple2 (.inl (by rfl)) (.inl (by rfl)), Ev.bin (Ev.name (by rfl)) (Ev.callB (Ev.builtin (by rfl) N.sum boot_sum) (EvL.consE (Ev.of (Ev.sliceStep (lo := some (p.2 : Nat)) (hi := none) (st := some 8) (Ev.name (by rfl)) (EvP.yes (Ev.name (by rfl))) EvP.no (EvP.yes Ev.intC) (by decide) ?z1) ?z2) EvL.nilE) OpN.sum) Op2.addInt⟩
      case w0 => (repeat (first | exact Sub.nilS _ | refine Sub.consS (by rfl) ?_))
      case z1 => rw [iD, List.length_map, sizeLine_eq]; omega
      case z2 => unfold iD; rw [pk_map]
    case y5 => rw [sizeLine_eq]; decide
    rw [hcm]
    refine' Ex.consM [] [(Str.ofString "cells", .dat (.list (iD cs))), (Str.ofString "pieces", .dat (.list (sD PCS)))] (ExS.assign (d := .list (sD PCS)) (.inr ⟨rfl, by rfl, _, by rfl⟩) (Ev.of ?y1 ?y2) (nextN (by (repeat (first | exact Sub.nilS _ | refine Sub.consS (by rfl) ?_))))) ?_
    case y1 => exact Ev.listD (EvL.consE Ev.strC (EvL.consE Ev.strC (EvL.consE Ev.strC (EvL.consE Ev.strC (EvL.consE Ev.strC (EvL.consE Ev.strC (EvL.consE Ev.strC (EvL.consE Ev.strC (EvL.consE Ev.strC (EvL.consE Ev.strC (EvL.consE Ev.strC (EvL.consE Ev.strC (EvL.consE Ev.strC (EvL.consE Ev.strC (EvL.consE Ev.strC EvL.nilE)))))))))))))))
    case y2 => rfl
    obtain ⟨l, hl⟩ : ∃ l, txt2 cs = l := ⟨_, rfl⟩
    obtain ⟨hl80, hlok⟩ : l.length ≤ 80 ∧ okc l := hl ▸ txt2_ok cs hcl
    refine' Ex.consM [] [(Str.ofString "text", .dat (.str (S l)))] (ExS.assign (d := .str (S l)) (.inl (by rfl)) (Ev.of (Ev.methS (x := S []) (Ev.of Ev.strC (by rw [show Str.ofString "" = S [] from by decide])) (Ev.compA (xs := cs) (j := fun c => Dat.int c) (g := fun c => Dat.str (S (pieceOf c))) (ρc := [(Str.ofString "pieces", .dat (.list (sD PCS)))]) (It.list (Ev.name (by rfl))) (by rfl) ?y3 ?y4 ?y5) F.slot_str_join F.type_str_join (Op2.joinL (cs.map pieceOf) ?y6 ?y7)) ?y8) (nextN (by (repeat (first | exact Sub.nilS _ | refine Sub.consS (by rfl) ?_))))) ?_
    case y3 =>
      refine Cap.of (Sub.consS (by rfl) (Sub.nilS _)) ?_ ?_ ?_
      · intro y hy
        rw [List.mem_singleton.mp hy]
        exact ⟨_, by rfl, by rfl, .inl (by rfl), .inl (by rfl)⟩
      · intro p hp
        rw [List.mem_singleton.mp hp]; rfl
      · exact List.pairwise_singleton _ _
    case y4 =>
      intro C s₁ V' K D Dd acc c hc
      refine' ⟨_, ?w0, As.name (.inl (by rfl)), Ev.ite (v := decide (c.fmod 16 = 15)) (Tr.of (Tr.cmp (Ev.bin (Ev.name (by rfl)) Ev.intC (Op2.modInt (by decide))) Ev.intC Op2.eqInt) ?w1) (fun h => ?w2) (fun h => ?w3)⟩
      case w0 => (repeat (first | exact Sub.nilS _ | refine Sub.consS (by rfl) ?_))
      case w1 => first | rfl | simp
      case w2 =>
        have hx := of_decide_eq_true h
        have h0 := Int.fmod_nonneg_of_pos (c.fdiv 16) (show (0 : Int) < 1114112 by decide)
        have h1 := Int.fmod_lt_of_pos (c.fdiv 16) (show (0 : Int) < 1114112 by decide)
        refine Ev.of (Ev.callB (Ev.builtin (by rfl) N.chr boot_chr) (EvL.consE (Ev.bin (Ev.bin (Ev.name (by rfl)) Ev.intC (Op2.fdivInt (by decide) (PyProof.noPylong_of_log2 (by decide +kernel)))) Ev.intC (Op2.modInt (by decide))) EvL.nilE) (OpN.chr ?_ ?_)) ?_
        · omega
        · omega
        · show Dat.str _ = Dat.str (S (pieceOf c)); unfold pieceOf; rw [if_pos hx]
      case w3 =>
        have hx := of_decide_eq_false h
        have h0 := Int.fmod_nonneg_of_pos c (show (0 : Int) < 16 by decide)
        have h1 := Int.fmod_lt_of_pos c (show (0 : Int) < 16 by decide)
        have h2 : (c.fmod 16).toNat < PCS.length := by show _ < 15; omega
        refine Ev.itemList (j := (c.fmod 16).toNat) (ds := sD PCS) (d := .str (S (pieceOf c))) (Ev.name (by rfl)) (Ev.bin (Ev.name (by rfl)) Ev.intC (Op2.modInt (by decide))) ?_ ?_ ?_
        · refine seqIndex_of h0 ?_
          show _ < ((sD PCS).length : Int)
          rw [List.length_map]; omega
        · unfold sD
          rw [List.getElem?_map, List.getElem?_eq_getElem h2]
          unfold pieceOf
          rw [if_neg hx, List.getD_eq_getElem?_getD, List.getElem?_eq_getElem h2]; rfl
        · rw [List.length_map, sizeLine_eq]; decide
    case y5 => rw [sizeLine_eq]; omega
    case y6 => rw [List.map_map]; rfl
    case y7 =>
      have h2 : ∀ l : List Int, ((l.map pieceOf).map List.length).sum ≤ l.length * 10 := by
        intro l
        induction l with
        | nil => simp
        | cons a r ih =>
          have := (piece_ok a).1
          simp only [List.map_cons, List.sum_cons, List.length_cons]; omega
      have h3 : ((cs.map pieceOf).map fun p => p.length).sum ≤ cs.length * 10 := h2 cs
      rw [sizeLine_eq]; simp only [List.length_nil, Nat.mul_zero, Nat.add_zero]; omega
    case y8 => rw [← hl]; rfl
    obtain ⟨W, hW⟩ : ∃ W, rd l = W := ⟨_, rfl⟩
    have hWb : Bits W := hW ▸ rd_bits l
    have hWs : W.length ≤ 80 ∧ wsum W ≤ 80 := by have := rd_size l; rw [hW] at this; omega
    have hWo : ∀ p ∈ W, okc p.2 := fun p hp c hc => hlok c ((rd_ok l p (hW ▸ hp)).2 c hc)
    have hnl : (norm W).length ≤ 1000 := by have := norm_len W; omega
    have hZs := zer_size W
    have hZb := zer_bits W
    have hZl : (norm (zer W)).length ≤ 1000 := by have := norm_len (zer W); rw [hZs.1, hZs.2] at this; omega
    have kqW := kq_words hWo 6
    refine' Ex.consM [] [(Str.ofString "text", .dat (.str (S l))), (Str.ofString "words", .dat (.list (wsD W))), (Str.ofString "dresses", .dat (.list (dsD W)))] (ExS.assignT (d := .tuple [.list (wsD W), .list (dsD W)]) (Ev.of (Ev.callF (Ev.global (by rfl) N.read) (KI _ _ (by rfl)) (by rfl) (EvL.consE (Ev.name (by rfl)) EvL.nilE) (OpN.con (c_read KI N) ⟨l, rfl, ?y1, rfl⟩ ?y2 ?y3)) ?y4) (As.tuple2 (.inl (by rfl)) (.inl (by rfl))) (nextN (by (repeat (first | exact Sub.nilS _ | refine Sub.consS (by rfl) ?_))))) ?_
    case y1 => omega
    case y2 => show A.depth + 1 + 2 < _; exact dep_lt hd (by decide)
    case y3 => show A.units + 3 + 40 * 2 + 100 < _; exact uni_lt (a := A.units) (d := 40 * 2) hu (by decide)
    case y4 => rw [hW]
    have hWk : (wk0 l).ws = W := by rw [← rd_wk, hW]
    refine' Ex.consM [] [(Str.ofString "text", .dat (.str (S l))), (Str.ofString "words", .dat (.list (wsD W))), (Str.ofString "dresses", .dat (.list (dsD W)))] (ExS.ifX (v := false) (Tr.cmp (Ev.of (d' := .tuple [.list (wsD W), .list (dsD W)]) (Ev.tupleD (EvL.consE (Ev.name (by rfl)) (EvL.consE (Ev.name (by rfl)) EvL.nilE))) rfl) (Ev.of (d' := .tuple [.list (wsD W), .list (dsD W)]) (Ev.callF (Ev.global (by rfl) N.walked) (KI _ _ (by rfl)) (by rfl) (EvL.consE (Ev.name (by rfl)) EvL.nilE) (OpN.con (c_walked KI N) ⟨l, rfl, ?y1, rfl⟩ ?y2 ?y3)) ?y4) (Op2.neD (b := true) kqW kqW hu2 (by simp))) (fun h => nomatch h) (fun _ => nilN (by (repeat (first | exact Sub.nilS _ | refine Sub.consS (by rfl) ?_))))) ?_
    case y1 => omega
    case y2 => show A.depth + 1 + 1 < _; exact dep_lt hd (by decide)
    case y3 => show A.units + 3 + 40 * 1 + 100 < _; exact uni_lt (a := A.units) (d := 40 * 1) hu (by decide)
    case y4 => rw [hWk]
    refine' Ex.consM [] [(Str.ofString "text", .dat (.str (S l))), (Str.ofString "words", .dat (.list (wsD W))), (Str.ofString "dresses", .dat (.list (dsD W))), (Str.ofString "normal", .dat (.str (S (norm W))))] (ExS.assign (d := .str (S (norm W))) (.inl (by rfl)) (Ev.callF (Ev.global (by rfl) N.written) (KI _ _ (by rfl)) (by rfl) (EvL.consE (Ev.name (by rfl)) (EvL.consE (Ev.name (by rfl)) EvL.nilE)) (OpN.conF (c_written T) ?y1 (written_of hWs.1 hWs.2) ?y2 ?y3)) (nextN (by (repeat (first | exact Sub.nilS _ | refine Sub.consS (by rfl) ?_))))) ?_
    case y1 => exact Around.frames_deeper hst
    case y2 => show A.depth + 1 + 3 < _; exact dep_lt hd (by decide)
    case y3 => show A.units + 3 + 40 * 3 + 100 < _; exact uni_lt (a := A.units) (d := 40 * 3) hu (by decide)
    refine' Ex.consM [] [(Str.ofString "text", .dat (.str (S l))), (Str.ofString "words", .dat (.list (wsD W))), (Str.ofString "dresses", .dat (.list (dsD W))), (Str.ofString "normal", .dat (.str (S (norm W))))] (ExS.ifX (v := false) (Tr.cmp (Ev.of (d' := .tuple [.list (wsD W), .list (dsD W)]) (Ev.callF (Ev.global (by rfl) N.read) (KI _ _ (by rfl)) (by rfl) (EvL.consE (Ev.name (by rfl)) EvL.nilE) (OpN.con (c_read KI N) ⟨norm W, rfl, ?y1, rfl⟩ ?y2 ?y3)) ?y4) (Ev.of (d' := .tuple [.list (wsD W), .list (dsD W)]) (Ev.tupleD (EvL.consE (Ev.name (by rfl)) (EvL.consE (Ev.name (by rfl)) EvL.nilE))) rfl) (Op2.neD (b := true) kqW kqW hu2 (by simp))) (fun h => nomatch h) (fun _ => nilN (by (repeat (first | exact Sub.nilS _ | refine Sub.consS (by rfl) ?_))))) ?_
    case y1 => omega
    case y2 => show A.depth + 1 + 2 < _; exact dep_lt hd (by decide)
    case y3 => show A.units + 3 + 40 * 2 + 100 < _; exact uni_lt (a := A.units) (d := 40 * 2) hu (by decide)
    case y4 => rw [read_norm hWb]
    have kqY : kqdOk 8 (.list ((waysOf l).map wayD)) = true := kq_ways (by rw [hW]; exact hWo)
    have hwd : (Dat.list ((waysOf l).map wayD)) = if norm W = l then .list [.list ((prs W).map tD)] else .list [] := by
      have := ways_iteD (l := l); rw [hW] at this; exact this
    refine' Ex.consM [] [(Str.ofString "text", .dat (.str (S l))), (Str.ofString "words", .dat (.list (wsD W))), (Str.ofString "dresses", .dat (.list (dsD W))), (Str.ofString "normal", .dat (.str (S (norm W))))] (ExS.ifX (v := false) (Tr.cmp (Ev.callF (Ev.global (by rfl) N.ways) (KI _ _ (by rfl)) (by rfl) (EvL.consE (Ev.name (by rfl)) EvL.nilE) (OpN.con (c_ways KI N) ⟨l, rfl, ?y1, hlok, rows_small, rfl⟩ ?y2 ?y3)) (Ev.ite (d := .list ((waysOf l).map wayD)) (v := decide (norm W = l)) (Tr.of (Tr.cmp (Ev.name (by rfl)) (Ev.name (by rfl)) Op2.eqStr) ?y4) (fun h => ?y5) (fun h => ?y6)) (Op2.neD (b := true) kqY kqY hu2 (by simp))) (fun h => nomatch h) (fun _ => nilN (by (repeat (first | exact Sub.nilS _ | refine Sub.consS (by rfl) ?_))))) ?_
    case y1 => omega
    case y2 => show A.depth + 1 + 3 < _; exact dep_lt hd (by decide)
    case y3 => show A.units + 3 + 40 * 3 + 100 < _; exact uni_lt (a := A.units) (d := 40 * 3) hu (by decide)
    case y4 => rw [S_beq, Bool.eq_iff_iff]; simp
    case y5 =>
      rw [hwd, if_pos (of_decide_eq_true h), ← zip_tD]
      refine Ev.listD (EvL.consE (Ev.listZip (Ev.builtin (by rfl) N.list boot_list) (Ev.builtin (by rfl) N.zip boot_zip) (Ev.name (by rfl)) (Ev.name (by rfl)) ?_) EvL.nilE)
      rw [List.length_zip, wsD_length, dsD_length, sizeLine_eq]; omega
    case y6 =>
      rw [hwd, if_neg (of_decide_eq_false h)]
      exact Ev.listD EvL.nilE
    have kqZ : kqdOk 8 (.tuple [.list (wsD W), .list (dsD (zer W))]) = true := by
      have := kq_words (W := zer W) (fun p hp => by obtain ⟨q, hq, rfl⟩ := List.mem_map.mp hp; exact hWo q hq) 6
      rw [zer_wsD] at this; exact this
    refine' Ex.consM [] [(Str.ofString "words", .dat (.list (wsD W))), (Str.ofString "plain", .dat (.str (S (norm (zer W)))))] (ExS.assign (d := .str (S (norm (zer W)))) (.inl (by rfl)) (Ev.of (Ev.callF (Ev.global (by rfl) N.join) (KI _ _ (by rfl)) (by rfl) (EvL.consE (Ev.name (by rfl)) EvL.nilE) (OpN.con (c_join T) ⟨W.map (·.2), ?y1, ?y2, ?y3, ?y4, rfl⟩ ?y5 ?y6)) ?y7) (nextN (by (repeat (first | exact Sub.nilS _ | refine Sub.consS (by rfl) ?_))))) ?_
    case y1 => rw [wsD_wD2]; rfl
    case y2 => rw [List.length_map, sizeLine_eq]; omega
    case y3 =>
      intro p hp
      obtain ⟨q, hq, rfl⟩ := List.mem_map.mp hp
      have := word_le W q hq; omega
    case y4 =>
      have h := drs_sum (fun _ => 0) W
      have e : (W.map fun p => (drs 0 p.2).length) = ((W.map (·.2)).map qt).map List.length := by rw [List.map_map, List.map_map]; rfl
      rw [e] at h
      rw [List.length_map, sizeLine_eq]; omega
    case y5 => show A.depth + 1 + 5 < _; exact dep_lt hd (by decide)
    case y6 => show A.units + 3 + 40 * 5 + 100 < _; exact uni_lt (a := A.units) (d := 40 * 5) hu (by decide)
    case y7 => rw [norm_zer, List.map_map]; rfl
    have hwz : Rwritten [.list (wsD W), .list (dsD (zer W))] (.str (S (norm (zer W)))) := by
      have := written_of (W := zer W) (by omega) (by omega)
      rw [zer_wsD] at this; exact this
    refine' Ex.consX (ExS.ret (d := .bool true) (Ev.of (Ev.andB (a := true) (b := true) (Ev.of (d' := .bool true) (Ev.cmp (Ev.name (by rfl)) (Ev.callF (Ev.global (by rfl) N.written) (KI _ _ (by rfl)) (by rfl) (EvL.consE (Ev.name (by rfl)) (EvL.consE (Ev.of (d' := .list (dsD (zer W))) (Ev.bin (Ev.listD (EvL.consE Ev.intC EvL.nilE)) (Ev.callB (Ev.builtin (by rfl) N.len boot_len) (EvL.consE (Ev.name (by rfl)) EvL.nilE) (OpN.lenList ?a1)) (Op2.mulList ?a2 ?a3 (by decide))) ?a4) EvL.nilE)) (OpN.conF (c_written T) ?y1 hwz ?y2 ?y3)) Op2.eqStr) ?y4) (fun _ => Ev.cmp (Ev.of (d' := .tuple [.list (wsD W), .list (dsD (zer W))]) (Ev.callF (Ev.global (by rfl) N.read) (KI _ _ (by rfl)) (by rfl) (EvL.consE (Ev.name (by rfl)) EvL.nilE) (OpN.con (c_read KI N) ⟨norm (zer W), rfl, ?y5, rfl⟩ ?y6 ?y7)) ?y8) (Ev.of (d' := .tuple [.list (wsD W), .list (dsD (zer W))]) (Ev.tupleD (EvL.consE (Ev.name (by rfl)) (EvL.consE (Ev.of (d' := .list (dsD (zer W))) (Ev.bin (Ev.listD (EvL.consE Ev.intC EvL.nilE)) (Ev.callB (Ev.builtin (by rfl) N.len boot_len) (EvL.consE (Ev.name (by rfl)) EvL.nilE) (OpN.lenList ?b1)) (Op2.mulList ?b2 ?b3 (by decide))) ?b4) EvL.nilE))) rfl) (Op2.eqD (b := true) kqZ kqZ hu2 (by simp)))) rfl) rfl)
    case a1 => rw [wsD_length, sizeLine_eq]; omega
    case a2 => exact Int.natCast_nonneg _
    case a3 => rw [wsD_length]; omega
    case a4 => rw [wsD_length, Int.toNat_natCast, zer_dsD]
    case b1 => rw [wsD_length, sizeLine_eq]; omega
    case b2 => exact Int.natCast_nonneg _
    case b3 => rw [wsD_length]; omega
    case b4 => rw [wsD_length, Int.toNat_natCast, zer_dsD]
    case y1 => exact Around.frames_deeper hst
    case y2 => show A.depth + 1 + 3 < _; exact dep_lt hd (by decide)
    case y3 => show A.units + 3 + 40 * 3 + 100 < _; exact uni_lt (a := A.units) (d := 40 * 3) hu (by decide)
    case y4 => rw [beq_self_eq_true]
    case y5 => omega
    case y6 => show A.depth + 1 + 2 < _; exact dep_lt hd (by decide)
    case y7 => show A.units + 3 + 40 * 2 + 100 < _; exact uni_lt (a := A.units) (d := 40 * 2) hu (by decide)
    case y8 => rw [read_norm hZb, zer_wsD]
end

end Mine

namespace Mine
-- ## row 02: the join 
theorem frag_base {K : Frag} {ts : List Addr} {h : Heap} (x : K.In h) (ok : K.all (fun p => !ts.contains p.1 && !tabB p.2) = true) : K.In (baseH ts h) := fun a o e => by
  have := List.all_eq_true.mp ok _ (mem_of_lookupK e)
  simp only [Bool.and_eq_true, Bool.not_eq_true', List.contains_eq_mem, decide_eq_false_iff_not] at this
  exact base_up (x a o e) this.1 this.2
theorem ns_of {h : Heap} {m : Str → Option Value} {a : Addr} {o : Obj} {es : Array DictEntry} {ep : Nat} (x : h.Ns a m) (e : h.get? a = some o) (d : o.data = .dict es ep) (y : Str) : nsFind es y = m y := by
  obtain ⟨o', es', ep', e', d', _, f⟩ := x
  rw [e] at e'; cases e'
  rw [d] at d'; cases d'
  exact f y
theorem names_of {w : World} {h : Heap} {mg : Str → Option Value} (KI : (KK w).In h) (g : h.Ns mainGlobals mg) : Names mg := by
  have q := ns_of g (KI mainGlobals _ (by rfl)) (by rfl)
  constructor <;> (rw [← q]; rfl)
theorem law_at {w : World} {h : Heap} {mg : Str → Option Value} (KI : (KK w).In h) (g : h.Ns mainGlobals mg) : mg (Str.ofString "law") = some (.ref 136) := by
  have q := ns_of g (KI mainGlobals _ (by rfl)) (by rfl)
  rw [← q]; rfl
theorem top_of {w : World} {h : Heap} {mg : Str → Option Value} (KI : (KK w).In h) (g : h.Ns mainGlobals mg) (hts : ∀ P ∈ ([38, 113] : List Addr), ∃ c, h.TableAt c P #[])
    (bm : ∃ bm ob, mg "__builtins__" = some (.ref bm) ∧ bm ≠ builtinsNs ∧ h.get? bm = some ob ∧ ob.cls = .type "module" ∧ ob.dict = some builtinsNs ∧ ob.data = .plain) : TopF w mg (baseH [38, 113] h) where
  KI := frag_base KI (by rfl)
  N := names_of KI g
  B := by
    obtain ⟨bm, ob, h1, h2, h3, h4, h5, h6⟩ := bm
    refine ⟨bm, ob, h1, h2, base_up h3 (fun hb => ?_) (tabB_cls (by rw [h4]; exact fun h => nomatch h)), h4, h5, h6⟩
    obtain ⟨c, _, t⟩ := hts bm hb
    rw [t] at h3; cases h3; cases h4
  t38 := let ⟨c, _, t⟩ := hts 38 (by decide); base_mark (by decide) t
  t113 := let ⟨c, _, t⟩ := hts 113 (by decide); base_mark (by decide) t
-- the tables of places of join and of _law_written 
theorem tabs_of {w : World} {h : Heap} {mg mb : Str → Option Value} {loose : List Str} {mean : ExcName → Option Value} (KI : (KK w).In h) (T : Top hd.view_39 loose mean mg mb h) (N : Names mg) (h113 : h.get? 113 = some (tabObj #[])) : ∀ P ∈ ([38, 113] : List Addr), ∃ c, h.TableAt c P #[] := by
  intro P hP
  rcases List.mem_cons.mp hP with rfl | hP
  · have hj : (recsOf hd.view_39).any (fun d => d.name == Str.ofString "join") = true := by decide +kernel
    obtain ⟨d, hd1, hd2⟩ := List.any_eq_true.mp hj
    have hd2 := beq_iff_eq.mp hd2
    obtain ⟨a, o, fd, c, P, q1, q2, q3, q4, q5, q6⟩ := T.tab d hd1
    rw [hd2, N.join] at q1
    cases q1
    rw [KI 43 _ (by rfl)] at q2
    cases q2
    cases q3
    cases q4
    have q7 := q6
    obtain ⟨⟨o, vs, e, _, d, h11⟩, _⟩ := q7
    rw [KI 42 _ (by rfl)] at e
    cases e
    cases d
    cases h11
    exact ⟨_, q6⟩
  · rw [List.mem_singleton.mp hP]
    exact ⟨115, ⟨_, _, KI _ _ (by rfl), rfl, rfl, rfl⟩, h113⟩
theorem plain_of {P : Params} {h : Heap} {a : Addr} {vs : List Value} {xs : List PyData} (x : Well P h (.ref a) (ofPy (PyData.list xs))) (l : h.IsList a vs.toArray) : h.PlainList a vs.toArray := by
  have e : ofPy (PyData.list xs) = WData.list (ofPys xs) := rfl
  rw [e] at x
  cases x with
  | list g _ =>
    obtain ⟨o, e1, e2, n, e3⟩ := l
    rw [g] at e1; cases e1
    cases e3
    exact ⟨_, g⟩
theorem row_post (args : List WData) : PySem.Challenge.rw_oy0021_02.row.claim.post args (.bool true) args = true := by wrow_post
theorem row_raises (args : List WData) (cls : ExcName) : PySem.Challenge.rw_oy0021_02.row.claim.raises args cls = false := by rfl
-- the walk's end 
theorem walk_end {w : World} {s₁ : Shared} {mg mb : Str → Option Value} {fa a : Addr} {vs : List Value} {xs : List Int} {cl : Str → Option Addr} {loose : List Str} {mean mean' : ExcName → Option Value} {args : List WData} (KI : (KK w).In s₁.heap) (T : Top hd.view_39 loose mean' mg mb s₁.heap) (h113 : s₁.heap.get? 113 = some (tabObj #[]))
    (hmg : mg (Str.ofString "law") = some (.ref fa)) (hgens : s₁.gens = #[]) (hl : s₁.heap.IsList a vs.toArray) (hw : Well w.params s₁.heap (.ref a) (ofPy (PyData.list (xs.map PyData.int)))) (hi : IntsAre vs xs) (hn : ¬ (63 : Int) < xs.length) :
    wpAny (model PR w) callerA (call (.ref fa) [.ref a]) (fun v s' => GoodWG PySem.Challenge.rw_oy0021_02.row.claim cl mean args s₁ (.ok (.ret v)) s') (fun e s' => GoodWG PySem.Challenge.rw_oy0021_02.row.claim cl mean args s₁ (.error e) s') s₁ := by
  have N := names_of KI T.g
  have hts := tabs_of KI T N h113
  rw [law_at KI T.g] at hmg
  cases hmg
  exact law_end (c_law (top_of KI T.g hts T.bmain)) (by decide) ⟨xs, rfl, by omega, rfl⟩ T.g T.b T.builtins T.nolimit hts hgens (plain_of hw hl) hi (row_post args) (row_raises args)
end Mine
set_option maxRecDepth 100000 in
set_option maxHeartbeats 8000000 in
theorem PySem.Challenge.cw_oy0021_02_holds : PySem.Challenge.rw_oy0021_02.Holds := by
  refine Mine.hd ?_
  w_on
  intro w s₀ s₁ mg mb G Y fa o pm cd doc dV kV ho hd hcd hD hmg hg args vals as hpre hlay hrd hwl hlo
  have hl113 := km_tabs_of Y 113 (by decide)
  have KI := km_in_of Y
  clear Y
  have T := G.T
  clear G ho hd hcd hD
  wrow_args hpre hlay hrd hwl hlo
  exact Mine.walk_end KI T hl113 hmg hg (by assumption) (by assumption) (by assumption) (by assumption)
