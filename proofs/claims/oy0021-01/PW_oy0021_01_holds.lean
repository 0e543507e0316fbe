import PyProof.Rows.All
import Wide.All
import OpenK.AllK
import Wide.FinOn
import PySem.Challenge.RW_oy0021_01
open PySem PySem.W PyProof.Rows
set_option Elab.async false
set_option linter.unusedVariables false
set_option maxRecDepth 100000
namespace Mine
set_option maxHeartbeats 8000000 in
open_top hd for PySem.Challenge.rw_oy0021_01
end Mine

namespace Mine

/-! ## values read as data; none of the objects lies among V -/
mutual
inductive Has (V : List Addr) (h : Heap) : Value → Dat → Prop
  | none : Has V h Value.none Dat.none
  | bool (b : Bool) : Has V h (Value.bool b) (Dat.bool b)
  | int (i : Int) (t : Tok) : Has V h (Value.int i t) (Dat.int i)
  | str (x : Str) (t : Tok) : Has V h (Value.str x t) (Dat.str x)
  | tuple {a : Addr} {vs : List Value} {ds : List Dat} : h.IsTuple a vs.toArray → a ∉ V → HasL V h vs ds → Has V h (Value.ref a) (Dat.tuple ds)
  | list {a : Addr} {vs : List Value} {ds : List Dat} : h.PlainList a vs.toArray → a ∉ V → HasL V h vs ds → Has V h (Value.ref a) (Dat.list ds)
inductive HasL (V : List Addr) (h : Heap) : List Value → List Dat → Prop
  | nil : HasL V h [] []
  | cons {v : Value} {vs : List Value} {d : Dat} {ds : List Dat} : Has V h v d → HasL V h vs ds → HasL V h (v :: vs) (d :: ds)
end

/-- the objects of the data stay -/
def DKeep (V V' : List Addr) (h h' : Heap) : Prop :=
  (∀ a items, a ∉ V → h.IsTuple a items → h'.IsTuple a items ∧ a ∉ V') ∧ ∀ a items, a ∉ V → h.PlainList a items → h'.PlainList a items ∧ a ∉ V'

mutual
theorem Has.keep {V V' : List Addr} {h h' : Heap} (k : DKeep V V' h h') : ∀ {v : Value} {d : Dat}, Has V h v d → Has V' h' v d
  | _, _, .none => .none
  | _, _, .bool b => .bool b
  | _, _, .int i t => .int i t
  | _, _, .str x t => .str x t
  | _, _, .tuple a b c => .tuple (k.1 _ _ b a).1 (k.1 _ _ b a).2 (HasL.keep k c)
  | _, _, .list a b c => .list (k.2 _ _ b a).1 (k.2 _ _ b a).2 (HasL.keep k c)
theorem HasL.keep {V V' : List Addr} {h h' : Heap} (k : DKeep V V' h h') : ∀ {vs : List Value} {ds : List Dat}, HasL V h vs ds → HasL V' h' vs ds
  | _, _, .nil => .nil
  | _, _, .cons a b => .cons (Has.keep k a) (HasL.keep k b)
end

section
variable {V : List Addr} {h : Heap} {vs ws : List Value} {ds es : List Dat}
theorem HasL.length (x : HasL V h vs ds) : vs.length = ds.length := by
  induction vs generalizing ds with
  | nil => cases x; rfl
  | cons v vs ih => cases x with | cons a b => simp [ih b]
theorem HasL.append (x : HasL V h vs ds) (y : HasL V h ws es) : HasL V h (vs ++ ws) (ds ++ es) := by
  induction vs generalizing ds with
  | nil => cases x; exact y
  | cons v vs ih => cases x with | cons a b => exact .cons a (ih b)
theorem HasL.one {v : Value} {d : Dat} (x : Has V h v d) : HasL V h [v] [d] := .cons x .nil
theorem HasL.get (x : HasL V h vs ds) {k : Nat} {d : Dat} (hk : ds[k]? = some d) : ∃ v, vs[k]? = some v ∧ Has V h v d := by
  induction vs generalizing ds k with
  | nil => cases x; simp at hk
  | cons v vs ih =>
    cases x with
    | cons a b =>
      cases k with
      | zero => simp at hk; subst hk; exact ⟨v, rfl, a⟩
      | succ k => simpa using ih b (by simpa using hk)
theorem HasL.getV (x : HasL V h vs ds) {k : Nat} {v : Value} (hk : vs[k]? = some v) : ∃ d, ds[k]? = some d ∧ Has V h v d := by
  induction vs generalizing ds k with
  | nil => simp at hk
  | cons v vs ih =>
    cases x with
    | cons a b =>
      cases k with
      | zero => simp at hk; subst hk; exact ⟨_, rfl, a⟩
      | succ k => simpa using ih b (by simpa using hk)
theorem HasL.take (x : HasL V h vs ds) (n : Nat) : HasL V h (vs.take n) (ds.take n) := by
  induction vs generalizing ds n with
  | nil => cases x; simp; exact .nil
  | cons v vs ih =>
    cases x with
    | cons a b =>
      cases n with
      | zero => simpa using HasL.nil
      | succ n => simpa using HasL.cons a (ih b n)
theorem HasL.drop (x : HasL V h vs ds) (n : Nat) : HasL V h (vs.drop n) (ds.drop n) := by
  induction vs generalizing ds n with
  | nil => cases x; simp; exact .nil
  | cons v vs ih =>
    cases x with
    | cons a b =>
      cases n with
      | zero => simpa using HasL.cons a b
      | succ n => simpa using ih b n
theorem HasL.of_get (hl : vs.length = ds.length) (x : ∀ (k : Nat) (v : Value) (d : Dat), vs[k]? = some v → ds[k]? = some d → Has V h v d) : HasL V h vs ds := by
  induction vs generalizing ds with
  | nil => cases ds with | nil => exact .nil | cons d ds => simp at hl
  | cons v vs ih =>
    cases ds with
    | nil => simp at hl
    | cons d ds => exact .cons (x 0 v d rfl rfl) (ih (by simpa using hl) fun k v' d' h1 h2 => x (k + 1) v' d' (by simpa using h1) (by simpa using h2))
end

/-! ## how a state goes on: W alone may get other slots; the tables of places grow -/
def tabB (o : Obj) : Bool := match o.cls, o.data with
  | .none, .fields _ => true
  | _, _ => false
theorem tabB_cls {o : Obj} (h : o.cls ≠ .none) : tabB o = false := by
  unfold tabB; split
  · rename_i h1 _; exact absurd h1 h
  · rfl
theorem tabB_data {o : Obj} (h : ∀ vs, o.data ≠ .fields vs) : tabB o = false := by
  unfold tabB; split
  · rename_i h1; exact absurd h1 (h _)
  · rfl
theorem tabB_slots (o : Obj) (sl : Array (Option Value)) : tabB { o with slots := sl } = tabB o := rfl
/-- the tables that may grow, told by the marks in G -/
def MARK : Obj := { cls := .none, data := .freed, slots := #[none, none, none] }
def isMark (o : Obj) : Bool := match o.cls, o.data with
  | .none, .freed => o.slots.size == 3
  | _, _ => false
/-- what of X may grow -/
def growsB (X : Heap) (a : Addr) : Bool := match X.objs[a]? with
  | some o => isMark o
  | none => false
abbrev grows (X : Heap) (a : Addr) : Prop := growsB X a = true
/-- a code of a table of places -/
def CodeOk (h : Heap) (cv : Value) : Prop := ∃ c oc vs q t, cv = .ref c ∧ h.get? c = some oc ∧ oc.cls = .type "code" ∧ oc.data = .fields vs ∧ vs[1]? = some (.str q t)
def TabOk (h : Heap) (o : Obj) : Prop := ∃ ps : Array Value, o = { cls := .none, data := .fields ps } ∧ TriplesOk ps.toList ∧ ∀ pos cv, codeAmong pos ps.toList = some cv → CodeOk h cv
theorem TabOk.b {h : Heap} {o : Obj} (x : TabOk h o) : tabB o = true := by obtain ⟨ps, rfl, _⟩ := x; rfl
/-- the codes stay -/
def CKeep (h h' : Heap) : Prop := ∀ c o vs, h.get? c = some o → o.cls = .type "code" → o.data = .fields vs → ∃ o', h'.get? c = some o' ∧ o'.cls = .type "code" ∧ o'.data = .fields vs
theorem CKeep.trans {h h' h'' : Heap} (x : CKeep h h') (y : CKeep h' h'') : CKeep h h'' := fun c o vs e a b => let ⟨o', e', a', b'⟩ := x c o vs e a b; y c o' vs e' a' b'
theorem CKeep.of {h h' : Heap} (k : ∀ b o, h.get? b = some o → h'.get? b = some o) : CKeep h h' := fun c o vs e a b => ⟨o, k c o e, a, b⟩
theorem CodeOk.up {h h' : Heap} {cv : Value} (k : CKeep h h') (x : CodeOk h cv) : CodeOk h' cv :=
  let ⟨c, oc, vs, q, t, e1, e2, e3, e4, e5⟩ := x
  let ⟨o', a, b, d⟩ := k c oc vs e2 e3 e4
  ⟨c, o', vs, q, t, e1, a, b, d, e5⟩
theorem TabOk.up {h h' : Heap} {o : Obj} (k : CKeep h h') (x : TabOk h o) : TabOk h' o :=
  let ⟨ps, a, b, c⟩ := x
  ⟨ps, a, b, fun pos cv e => (c pos cv e).up k⟩
/-- a table with more behind -/
def Grown (o o' : Obj) : Prop := ∃ ps more : Array Value, o.data = .fields ps ∧ o' = { o with data := .fields (ps ++ more) }
theorem Grown.refl {o : Obj} (h : tabB o = true) : Grown o o := by
  obtain ⟨c, d, dd, sl⟩ := o
  unfold tabB at h
  cases dd <;> simp only at h <;> (try split at h) <;> first | (exact ⟨_, #[], rfl, by simp⟩) | (rename_i h2; cases h2; exact ⟨_, #[], rfl, by simp⟩) | cases h
theorem Grown.trans {o o' o'' : Obj} (x : Grown o o') (y : Grown o' o'') : Grown o o'' := by
  obtain ⟨ps, m, a, rfl⟩ := x
  obtain ⟨ps', m', b, rfl⟩ := y
  cases b
  exact ⟨ps, m ++ m', a, by simp [Array.append_assoc]⟩
theorem Grown.tab {o o' : Obj} (x : Grown o o') (h : tabB o = true) : tabB o' = true := by
  obtain ⟨ps, m, a, rfl⟩ := x
  obtain ⟨c, d, dd, sl⟩ := o
  cases a
  unfold tabB at h ⊢
  split at h
  · rename_i h1 h2; simp only at h1; subst h1; rfl
  · cases h
def TabsIn (G h : Heap) : Prop := ∀ P, grows G P → ∃ op, h.get? P = some op ∧ TabOk h op
def Mv (X : Heap) (W : List Addr) (s s' : Shared) : Prop :=
  (∃ h' tk gs, s' = { s with heap := h', toks := tk, gens := gs } ∧ (gs = s.gens ∨ ∃ P, grows X P)) ∧ (AllBare s.gens → AllBare s'.gens) ∧
  ∀ b o, s.heap.get? b = some o → if tabB o = true ∧ grows X b then ∃ o', s'.heap.get? b = some o' ∧ Grown o o' ∧ (TabOk s.heap o → TabOk s'.heap o') else ∃ sl, s'.heap.get? b = some { o with slots := sl } ∧ ((b ∈ W ∧ ∃ es ep, o.data = .dict es ep) ∨ sl = o.slots)

section
variable {X : Heap} {W : List Addr} {s s₁ s₂ : Shared}
theorem Mv.refl (s : Shared) : Mv X W s s := ⟨⟨s.heap, s.toks, s.gens, rfl, .inl rfl⟩, id, fun b o e => by
  split
  · rename_i h; exact ⟨o, e, .refl h.1, id⟩
  · exact ⟨o.slots, e, .inr rfl⟩⟩
theorem Mv.trans (x : Mv X W s s₁) (y : Mv X W s₁ s₂) : Mv X W s s₂ := by
  obtain ⟨⟨h1, t1, g1, rfl, c1⟩, b1, k1⟩ := x
  obtain ⟨⟨h2, t2, g2, rfl, c2⟩, b2, k2⟩ := y
  refine ⟨⟨h2, t2, g2, rfl, by
    rcases c2 with rfl | c2
    · exact c1
    · exact .inr c2⟩, fun q => b2 (b1 q), fun b o e => ?_⟩
  have q1 := k1 b o e
  split
  · rename_i hb
    rw [if_pos hb] at q1
    obtain ⟨o', e', hb', c'⟩ := q1
    have q2 := k2 b o' e'
    rw [if_pos ⟨hb'.tab hb.1, hb.2⟩] at q2
    obtain ⟨o2, e2, hb2, c2⟩ := q2
    exact ⟨o2, e2, hb'.trans hb2, fun q => c2 (c' q)⟩
  · rename_i hb
    rw [if_neg hb] at q1
    obtain ⟨sl, e', c⟩ := q1
    have q2 := k2 b _ e'
    rw [if_neg (by rw [tabB_slots]; exact hb)] at q2
    obtain ⟨sl2, e2, c2⟩ := q2
    refine ⟨sl2, e2, ?_⟩
    rcases c with c | c
    · exact .inl c
    · rcases c2 with c2 | c2
      · exact .inl c2
      · exact .inr (c2.trans c)
theorem Mv.mono {W' : List Addr} (x : Mv X W s s₁) (hW : ∀ b ∈ W, b ∈ W') : Mv X W' s s₁ := by
  refine ⟨x.1, x.2.1, fun b o e => ?_⟩
  have q := x.2.2 b o e
  split
  · rename_i hb; rw [if_pos hb] at q; exact q
  · rename_i hb; rw [if_neg hb] at q
    obtain ⟨sl, e', c⟩ := q
    exact ⟨sl, e', c.imp (fun q => ⟨hW b q.1, q.2⟩) id⟩
/-- all is kept -/
theorem Mv.of_keep {h' : Heap} {tk : Nat} (k : ∀ b o, s.heap.get? b = some o → h'.get? b = some o) : Mv X W s { s with heap := h', toks := tk } :=
  ⟨⟨h', tk, s.gens, rfl, .inl rfl⟩, id, fun b o e => by
    split
    · rename_i h; exact ⟨o, k b o e, .refl h.1, fun q => q.up (.of k)⟩
    · exact ⟨o.slots, k b o e, .inr rfl⟩⟩
theorem Mv.of_keepH {h' : Heap} (k : ∀ b o, s.heap.get? b = some o → h'.get? b = some o) : Mv X W s { s with heap := h' } := Mv.of_keep (tk := s.toks) k
theorem Mv.toks (tk : Nat) : Mv X W s { s with toks := tk } := Mv.of_keep (h' := s.heap) (tk := tk) fun _ _ e => e
theorem Mv.push (o : Obj) : Mv X W s { s with heap := s.heap.push o } := Mv.of_keepH fun _ _ e => Heap.get?_push_of_some _ e
theorem Mv.get (x : Mv X W s s₁) {b : Addr} {o : Obj} (e : s.heap.get? b = some o) (hb : tabB o = false) : ∃ sl, s₁.heap.get? b = some { o with slots := sl } ∧ ((b ∈ W ∧ ∃ es ep, o.data = .dict es ep) ∨ sl = o.slots) := by
  have q := x.2.2 b o e
  rw [if_neg (by rw [hb]; exact fun h => nomatch h.1)] at q
  exact q
theorem Mv.tab (x : Mv X W s s₁) {b : Addr} {o : Obj} (e : s.heap.get? b = some o) (hb : tabB o = true) (hg : grows X b) : ∃ o', s₁.heap.get? b = some o' ∧ Grown o o' ∧ (TabOk s.heap o → TabOk s₁.heap o') := by
  have q := x.2.2 b o e
  rw [if_pos ⟨hb, hg⟩] at q
  exact q
theorem Mv.ckeep (x : Mv X W s s₁) : CKeep s.heap s₁.heap := fun c o vs e a b => by
  obtain ⟨sl, e', _⟩ := x.get e (tabB_cls (by rw [a]; exact fun h => nomatch h))
  exact ⟨_, e', a, b⟩
theorem Mv.tabs (x : Mv X W s s₁) (h : TabsIn X s.heap) : TabsIn X s₁.heap := fun P hP => by
  obtain ⟨op, e, ok⟩ := h P hP
  obtain ⟨o', e', _, c⟩ := x.tab e ok.b hP
  exact ⟨o', e', c ok⟩
theorem Mv.there (x : Mv X W s s₁) {b : Addr} {o : Obj} (e : s.heap.get? b = some o) : ∃ o', s₁.heap.get? b = some o' := by
  have q := x.2.2 b o e
  split at q
  · exact ⟨_, q.choose_spec.1⟩
  · exact ⟨_, q.choose_spec.1⟩
theorem Mv.exact (x : Mv X W s s₁) {b : Addr} {o : Obj} (e : s.heap.get? b = some o) (hb : tabB o = false) (hw : b ∉ W) : s₁.heap.get? b = some o := by
  obtain ⟨sl, e', c⟩ := x.get e hb
  rcases c with c | c
  · exact absurd c.1 hw
  · rw [e', c]
theorem Mv.exactD (x : Mv X W s s₁) {b : Addr} {o : Obj} (e : s.heap.get? b = some o) (hb : tabB o = false) (hd : ∀ es ep, o.data ≠ .dict es ep) : s₁.heap.get? b = some o := by
  obtain ⟨sl, e', c⟩ := x.get e hb
  rcases c with ⟨_, es, ep, c⟩ | c
  · exact absurd c (hd es ep)
  · rw [e', c]
theorem Mv.dkeep {V : List Addr} (x : Mv X W s s₁) : DKeep V V s.heap s₁.heap := by
  refine ⟨fun a items ha hi => ⟨?_, ha⟩, fun a items ha hi => ⟨?_, ha⟩⟩
  · obtain ⟨o, e, r⟩ := hi
    obtain ⟨sl, e', _⟩ := x.get e (tabB_cls (by rw [r.1]; exact fun h => nomatch h))
    exact ⟨_, e', r⟩
  · obtain ⟨n, e⟩ := hi
    exact ⟨n, x.exactD e rfl fun _ _ h => nomatch h⟩
theorem Mv.ns (x : Mv X W s s₁) {L : Addr} {m : Str → Option Value} (n : s.heap.Ns L m) : s₁.heap.Ns L m := by
  obtain ⟨o, es, ep, e, r⟩ := n
  obtain ⟨sl, e', _⟩ := x.get e (tabB_data fun vs h => by rw [r.1] at h; cases h)
  exact ⟨_, es, ep, e', r⟩
theorem Mv.cell (x : Mv X W s s₁) {c : Addr} {v : Option Value} (n : s.heap.IsCell c v) : s₁.heap.IsCell c v := by
  obtain ⟨o, e, r⟩ := n
  obtain ⟨sl, e', _⟩ := x.get e (tabB_data fun vs h => by rw [r] at h; cases h)
  exact ⟨_, e', r⟩
end
theorem Has.mv {X : Heap} {V W : List Addr} {s s' : Shared} {v : Value} {d : Dat} (x : Has V s.heap v d) (m : Mv X W s s') : Has V s'.heap v d := x.keep m.dkeep
theorem HasL.mv {X : Heap} {V W : List Addr} {s s' : Shared} {v : List Value} {d : List Dat} (x : HasL V s.heap v d) (m : Mv X W s s') : HasL V s'.heap v d := x.keep m.dkeep

theorem Heap.Ns.uniq {h : Heap} {a : Addr} {m m' : Str → Option Value} (x : h.Ns a m) (y : h.Ns a m') : m = m' := by
  obtain ⟨o, es, ep, e, d, _, f⟩ := x
  obtain ⟨o', es', ep', e', d', _, f'⟩ := y
  rw [e] at e'
  cases e'
  rw [d] at d'
  cases d'
  funext z
  rw [← f, ← f']

end Mine

namespace Mine

/-- the frames stand above the top -/
structure Bel (A : Around) (G : Heap) (outer : List Env) (h : Heap) : Prop where
  stack : True
  stays : G.StaysIn h
  frames : h.FunFrames G outer

inductive Slot where
  | dat (d : Dat)
  | val (v : Value)
def SlotIs (V : List Addr) (h : Heap) : Slot → Value → Prop
  | .dat d, v => Has V h v d
  | .val w, v => v = w
theorem SlotIs.keep {V V' : List Addr} {h h' : Heap} (k : DKeep V V' h h') : ∀ {sl : Slot} {v : Value}, SlotIs V h sl v → SlotIs V' h' sl v
  | .dat _, _, x => Has.keep k x
  | .val _, _, x => x

/-- what the name x bears in the block of env -/
def VarIs (env : Env) (h : Heap) (x : Str) (v : Value) : Prop :=
  (env.kindOf x = some .local ∧ ∃ m, h.Ns env.locals m ∧ m x = some v) ∨ ((env.kindOf x = some .cell ∨ env.kindOf x = some .free) ∧ ∃ c, env.cells.lookup x = some c ∧ h.IsCell c (some v))

/-- a list of the block's own -/
def OwnL (h : Heap) (a : Addr) (vs : List Value) : Prop := h.PlainList a vs.toArray

/-- what is known of the top -/
structure Bas (mg mb : Str → Option Value) (G : Heap) : Prop where
  g : G.Ns mainGlobals mg
  b : G.Ns builtinsNs mb
  boot : ∀ x : Str, x ≠ "__name__" → mb x = bootBuiltins x
  lim : G.NoLimit
  noTab : ∀ a o, G.get? a = some o → tabB o = false

/-- the frames bear their names -/
def FrD (h : Heap) (W : List Addr) : Prop := ∀ a ∈ W, ∃ o es ep, h.get? a = some o ∧ o.data = .dict es ep

structure Fm where
  prog : Program
  w : World
  mg : Str → Option Value
  mb : Str → Option Value
  G : Heap
  A : Around
  env : Env
  outer : List Env
  V₀ : List Addr
  s₀ : Shared
  Wc : List Addr
  K : List (Addr × Obj) := []
  own : Bool := true
  D : List (List Value × List Dat) := []
abbrev Fm.M (f : Fm) : Model := model f.prog f.w
abbrev Fm.W (f : Fm) : List Addr := f.outer.filterMap (·.frame)
abbrev Fm.V (f : Fm) (O : List (Addr × List Dat)) : List Addr := O.map (·.1) ++ f.V₀

structure Fm.Ok (f : Fm) : Prop where
  hh : f.A.handled = none
  kind : f.env.scope.kind = .function
  glob : f.env.globals = mainGlobals
  bi : f.env.builtins = builtinsNs
  bas : Bas f.mg f.mb f.G
  hG : f.G.StaysIn f.s₀.heap
  fL : f.s₀.heap.objs.size ≤ f.env.locals
  apa : f.env.cells.Pairwise fun x y => x.2 ≠ y.2
  fC : f.own = true → ∀ n c, (n, c) ∈ f.env.cells → f.s₀.heap.objs.size ≤ c
  hW : ∀ a ∈ f.W, a ∈ f.Wc ∨ f.s₀.heap.objs.size ≤ a

/-- an object that a loop rests on -/
def KeepOk (o : Obj) : Prop := (∀ es ep, o.data ≠ .dict es ep) ∧ (∀ v, o.data ≠ .cell v) ∧ tabB o = false ∧ ∀ vs, o.data = .fields vs → o.cls ≠ .type "code"

structure St (f : Fm) (O : List (Addr × List Dat)) (ρ : List (Str × Slot)) (s : Shared) : Prop where
  ok : f.Ok
  bel : Bel f.A f.G f.outer s.heap
  frm : Mv f.G f.Wc f.s₀ s
  loc : ∃ m, s.heap.Ns f.env.locals m
  cel : ∀ n c, f.env.cells.lookup n = some c → ∃ v, s.heap.IsCell c v
  vars : ∀ x sl, ρ.lookup x = some sl → ∃ v, VarIs f.env s.heap x v ∧ SlotIs (f.V O) s.heap sl v
  own : ∀ p ∈ O, ∃ vs, OwnL s.heap p.1 vs ∧ HasL (f.V O) s.heap vs p.2
  nod : (O.map (·.1)).Nodup
  fO : ∀ p ∈ O, f.s₀.heap.objs.size ≤ p.1
  v0 : ∀ a ∈ f.V₀, ∃ o, s.heap.get? a = some o
  frD : FrD s.heap f.W
  kep : ∀ p ∈ f.K, s.heap.get? p.1 = some p.2 ∧ KeepOk p.2 ∧ p.1 ∉ O.map (·.1)
  oV : ∀ p ∈ O, p.1 ∉ f.V₀
  dat : ∀ p ∈ f.D, HasL (f.V O) s.heap p.1 p.2
  tab : TabsIn f.G s.heap

theorem Bel.mv {A : Around} {G : Heap} {outer : List Env} {s s' : Shared} {W : List Addr} (hG : ∀ a o, G.get? a = some o → tabB o = false) (x : Bel A G outer s.heap) (m : Mv G W s s') (hW : ∀ a ∈ W, G.get? a = none) : Bel A G outer s'.heap :=
  ⟨x.stack, fun b o e => m.exact (x.stays b o e) (hG b o e) fun hw => (by rw [hW b hw] at e; cases e),
   x.frames.of_keeps fun b o e hd => let ⟨sl, e', _⟩ := m.get e (tabB_data hd); ⟨_, e', rfl⟩⟩

theorem Fm.Ok.notG {f : Fm} (ok : f.Ok) {a : Addr} (ha : f.s₀.heap.objs.size ≤ a) : f.G.get? a = none := by
  cases q : f.G.get? a with
  | none => rfl
  | some o => exact absurd (Heap.lt_size (ok.hG a o q)) (Nat.not_lt.mpr ha)

theorem Bel.wG {A : Around} {G h : Heap} {outer : List Env} (x : Bel A G outer h) : ∀ a ∈ outer.filterMap (·.frame), G.get? a = none := fun _ ha => (x.frames.mem ha).1

theorem VarIs.mv {X : Heap} {env : Env} {s s' : Shared} {W : List Addr} {x : Str} {v : Value} (m : Mv X W s s') (h : VarIs env s.heap x v) : VarIs env s'.heap x v := by
  rcases h with ⟨hk, mm, hn, hv⟩ | ⟨hk, c, hc, hv⟩
  · exact .inl ⟨hk, mm, m.ns hn, hv⟩
  · exact .inr ⟨hk, c, hc, m.cell hv⟩
theorem OwnL.mv {X : Heap} {s s' : Shared} {W : List Addr} {a : Addr} {vs : List Value} (m : Mv X W s s') (h : OwnL s.heap a vs) : OwnL s'.heap a vs := by
  obtain ⟨n, e⟩ := h
  exact ⟨n, m.exactD e rfl fun _ _ h => nomatch h⟩

theorem St.mv {f : Fm} {O : List (Addr × List Dat)} {ρ : List (Str × Slot)} {s s' : Shared} (x : St f O ρ s) (m : Mv f.G f.W s s') : St f O ρ s' where
  ok := x.ok
  bel := Bel.mv x.ok.bas.noTab x.bel m (Bel.wG x.bel)
  tab := m.tabs x.tab
  frm := by
    refine ⟨?_, fun q => m.2.1 (x.frm.2.1 q), fun b o e => ?_⟩
    · obtain ⟨h1, t1, g1, e1, c1⟩ := x.frm.1
      obtain ⟨h2, t2, g2, e2, c2⟩ := m.1
      refine ⟨h2, t2, g2, by rw [e2, e1], ?_⟩
      rcases c2 with c2 | c2
      · rw [c2, e1]; exact c1
      · exact .inr c2
    · have q1 := x.frm.2.2 b o e
      by_cases hb : tabB o = true ∧ grows f.G b
      · rw [if_pos hb] at q1 ⊢
        obtain ⟨o1, e1, hb1, c1⟩ := q1
        obtain ⟨o2, e2, hb2, c2⟩ := m.tab e1 (hb1.tab hb.1) hb.2
        exact ⟨o2, e2, hb1.trans hb2, fun q => c2 (c1 q)⟩
      rw [if_neg hb] at q1 ⊢
      obtain ⟨sl, e', c⟩ := q1
      have q2 := m.2.2 b _ e'
      rw [if_neg (by rw [tabB_slots]; exact hb)] at q2
      obtain ⟨sl2, e2, c2⟩ := q2
      refine ⟨sl2, e2, ?_⟩
      rcases c with c | c
      · exact .inl c
      · rcases c2 with c2 | c2
        · rcases x.ok.hW b c2.1 with q | q
          · exact .inl ⟨q, c2.2⟩
          · exact absurd (Heap.lt_size e) (Nat.not_lt.mpr q)
        · exact .inr (c2.trans c)
  loc := let ⟨mm, n⟩ := x.loc; ⟨mm, m.ns n⟩
  cel := fun n c hc => let ⟨v, q⟩ := x.cel n c hc; ⟨v, m.cell q⟩
  vars := fun y sl hy => let ⟨v, a, b⟩ := x.vars y sl hy; ⟨v, a.mv m, b.keep m.dkeep⟩
  own := fun p hp => let ⟨vs, a, b⟩ := x.own p hp; ⟨vs, a.mv m, b.mv m⟩
  nod := x.nod
  fO := x.fO
  v0 := fun a ha => let ⟨_, e⟩ := x.v0 a ha; m.there e
  frD := fun a ha => let ⟨o, es, ep, e, d⟩ := x.frD a ha; let ⟨_, e', _⟩ := m.get e (tabB_data fun vs h => by rw [d] at h; cases h); ⟨_, es, ep, e', d⟩
  kep := fun p hp => let ⟨a, b, c⟩ := x.kep p hp; ⟨m.exactD a b.2.2.1 b.1, b, c⟩
  dat := fun p hp => (x.dat p hp).mv m
  oV := x.oV

/-- fewer names -/
theorem St.weak {f : Fm} {O : List (Addr × List Dat)} {ρ ρ' : List (Str × Slot)} {s : Shared} (x : St f O ρ s) (h : ∀ y sl, ρ'.lookup y = some sl → ρ.lookup y = some sl) : St f O ρ' s :=
  { x with vars := fun y sl hy => x.vars y sl (h y sl hy) }

section
variable {f : Fm} {O : List (Addr × List Dat)} {ρ : List (Str × Slot)} {s : Shared} {a : Addr} {h' : Heap}
/-- one address alone is made anew -/
theorem bel_at (ok : f.Ok) (b : Bel f.A f.G f.outer s.heap) (ha : f.s₀.heap.objs.size ≤ a) (hs : Heap.SameBut a s.heap h')
    (hd : ∀ o, s.heap.get? a = some o → (∀ vs, o.data ≠ .fields vs) → ∃ o', h'.get? a = some o' ∧ ∀ vs, o'.data ≠ .fields vs) : Bel f.A f.G f.outer h' := by
  refine ⟨b.stack, fun c o e => ?_, ?_⟩
  · have : c ≠ a := by rintro rfl; rw [ok.notG ha] at e; cases e
    exact hs.extBut c o this (b.stays c o e)
  · have go : ∀ l : List Env, s.heap.FunFrames f.G l → h'.FunFrames f.G l := by
      intro l
      induction l with
      | nil => intro _; trivial
      | cons env r ih =>
        rintro ⟨hk, ⟨L, o, hf, hn, ho, hdd⟩, hr⟩
        refine ⟨hk, ?_, ih hr⟩
        by_cases hL : L = a
        · subst hL
          obtain ⟨o', e', d'⟩ := hd o ho hdd
          exact ⟨L, o', hf, hn, e', d'⟩
        · exact ⟨L, o, hf, hn, hs.extBut L o hL ho, hdd⟩
    exact go _ b.frames
theorem ckeep_at (hs : Heap.SameBut a s.heap h') (hd : ∃ o, s.heap.get? a = some o ∧ ∀ vs, o.data ≠ .fields vs) : CKeep s.heap h' := fun c o vs e x y => by
  refine ⟨o, hs.extBut c o ?_ e, x, y⟩
  rintro rfl
  obtain ⟨o', e', q⟩ := hd
  rw [e] at e'; cases e'
  exact q _ y
theorem frm_at {tk : Nat} (m : Mv f.G f.Wc f.s₀ s) (ha : f.s₀.heap.objs.size ≤ a) (hs : Heap.SameBut a s.heap h') (hd : ∃ o, s.heap.get? a = some o ∧ ∀ vs, o.data ≠ .fields vs) : Mv f.G f.Wc f.s₀ { s with heap := h', toks := tk } := by
  have ck := ckeep_at hs hd
  obtain ⟨⟨h1, t1, g1, rfl, c1⟩, g, k⟩ := m
  refine ⟨⟨h', tk, g1, rfl, c1⟩, g, fun b o e => ?_⟩
  have q := k b o e
  have : b ≠ a := by rintro rfl; exact absurd (Heap.lt_size e) (Nat.not_lt.mpr ha)
  split
  · rename_i hb
    rw [if_pos hb] at q
    obtain ⟨o', e', c1, c2⟩ := q
    exact ⟨o', hs.extBut b _ this e', c1, fun q => (c2 q).up ck⟩
  · rename_i hb
    rw [if_neg hb] at q
    obtain ⟨sl, e', c⟩ := q
    exact ⟨sl, hs.extBut b _ this e', c⟩
theorem tab_at {G : Heap} (x : TabsIn G s.heap) (hs : Heap.SameBut a s.heap h') (hd : ∃ o, s.heap.get? a = some o ∧ ∀ vs, o.data ≠ .fields vs) : TabsIn G h' := fun P hP => by
  obtain ⟨op, e, ok⟩ := x P hP
  refine ⟨op, hs.extBut P op ?_ e, ok.up (ckeep_at hs hd)⟩
  rintro rfl
  obtain ⟨o, e', hb⟩ := hd
  rw [e] at e'; cases e'
  obtain ⟨ps, rfl, _⟩ := ok
  exact hb _ rfl
theorem dkeep_at {V : List Addr} (hs : Heap.SameBut a s.heap h') (hd : a ∈ V ∨ ∃ o, s.heap.get? a = some o ∧ ∀ items n, o.data ≠ .seq items n) : DKeep V V s.heap h' := by
  have ne : ∀ b, b ∉ V → ∀ o items n, s.heap.get? b = some o → o.data = .seq items n → b ≠ a := by
    rintro b hb o items n e d rfl
    rcases hd with q | ⟨o', e', q⟩
    · exact hb q
    · rw [e] at e'; cases e'; exact q _ _ d
  exact ⟨fun b items hb ⟨o, e, c, n, d⟩ => ⟨⟨o, hs.extBut b o (ne b hb o _ _ e d) e, c, n, d⟩, hb⟩, fun b items hb ⟨n, e⟩ => ⟨⟨n, hs.extBut b _ (ne b hb _ _ _ e rfl) e⟩, hb⟩⟩
theorem frD_at {W : List Addr} (x : FrD s.heap W) (hs : Heap.SameBut a s.heap h') (hd : (∃ o es ep, s.heap.get? a = some o ∧ o.data = .dict es ep) → ∃ o es ep, h'.get? a = some o ∧ o.data = .dict es ep) : FrD h' W := by
  intro b hb
  obtain ⟨o, es, ep, e, d⟩ := x b hb
  by_cases hba : b = a
  · subst hba; exact hd ⟨o, es, ep, e, d⟩
  · exact ⟨o, es, ep, hs.extBut b o hba e, d⟩
theorem there_at (hs : Heap.SameBut a s.heap h') (hd : ∃ o', h'.get? a = some o') {b : Addr} {o : Obj} (e : s.heap.get? b = some o) : ∃ o', h'.get? b = some o' := by
  by_cases hb : b = a
  · subst hb; exact hd
  · exact ⟨o, hs.extBut b o hb e⟩
end

def put (ρ : List (Str × Slot)) (x : Str) (sl : Slot) : List (Str × Slot) := (x, sl) :: ρ.filter fun p => p.1 != x
theorem put_same (ρ : List (Str × Slot)) (x : Str) (sl : Slot) : (put ρ x sl).lookup x = some sl := by simp [put]
theorem put_other (ρ : List (Str × Slot)) {x y : Str} (sl : Slot) (h : y ≠ x) : (put ρ x sl).lookup y = ρ.lookup y := by
  have hb : (y == x) = false := by simpa using h
  simp only [put, List.lookup_cons, hb]
  induction ρ with
  | nil => rfl
  | cons p r ih =>
    obtain ⟨n, q⟩ := p
    by_cases hn : n = x
    · subst hn
      simp only [List.filter_cons, bne_self_eq_false, Bool.false_eq_true, if_false, List.lookup_cons, hb]
      exact ih
    · have hn' : (n != x) = true := by simpa using hn
      simp only [List.filter_cons, hn', if_true, List.lookup_cons]
      cases y == n <;> simp [ih]

/-- a local name of the block is bound -/
theorem St.storeL {f : Fm} {O : List (Addr × List Dat)} {ρ : List (Str × Slot)} {s : Shared} {x : Str} {v : Value} {sl : Slot} {m : Str → Option Value} {h' : Heap} {tk : Nat} (st : St f O ρ s)
    (hk : f.env.kindOf x = some .local) (hv : SlotIs (f.V O) s.heap sl v) (hn : s.heap.Ns f.env.locals m) (hn' : h'.Ns f.env.locals fun z => if z = x then some v else m z) (hs' : Heap.SameBut f.env.locals s.heap h') : St f O (put ρ x sl) { s with heap := h', toks := tk } := by
  obtain ⟨oL, es, ep, eL, dL, _⟩ := id hn
  obtain ⟨oL', es', ep', eL', dL', _⟩ := id hn'
  have dk : ∀ V, DKeep V V s.heap h' := fun V => dkeep_at hs' (.inr ⟨oL, eL, fun items n q => by rw [dL] at q; cases q⟩)
  refine { ok := st.ok, bel := bel_at st.ok st.bel st.ok.fL hs' (fun o e _ => ⟨oL', eL', fun vs q => by rw [dL'] at q; cases q⟩), frm := frm_at st.frm st.ok.fL hs' ⟨oL, eL, fun vs h => by rw [dL] at h; cases h⟩, loc := ⟨_, hn'⟩,
           cel := fun n c hc => ?_, vars := fun y sl' hy => ?_, own := fun p hp => ?_, nod := st.nod, fO := st.fO, v0 := fun a ha => let ⟨_, e⟩ := st.v0 a ha; there_at hs' ⟨_, eL'⟩ e, frD := frD_at st.frD hs' (fun _ => ⟨oL', es', ep', eL', dL'⟩), kep := fun p hp => ?_, dat := fun p hp => (st.dat p hp).keep (dk _), oV := st.oV, tab := tab_at st.tab hs' ⟨oL, eL, fun vs h => by rw [dL] at h; cases h⟩ }
  · obtain ⟨v', q⟩ := st.cel n c hc
    refine ⟨v', q.sameBut hs' ?_⟩
    rintro rfl
    obtain ⟨o, e, d⟩ := q
    rw [eL] at e; cases e; rw [dL] at d; cases d
  · by_cases hyx : y = x
    · subst hyx
      rw [put_same] at hy
      cases hy
      exact ⟨v, .inl ⟨hk, _, hn', by simp⟩, hv.keep (dk _)⟩
    · rw [put_other _ _ hyx] at hy
      obtain ⟨u, hu, q⟩ := st.vars y sl' hy
      refine ⟨u, ?_, q.keep (dk _)⟩
      rcases hu with ⟨k1, m1, n1, e1⟩ | ⟨k1, c1, l1, e1⟩
      · have := Heap.Ns.uniq n1 hn
        subst this
        exact .inl ⟨k1, _, hn', by simpa [hyx] using e1⟩
      · refine .inr ⟨k1, c1, l1, e1.sameBut hs' ?_⟩
        rintro rfl
        obtain ⟨o, e, d⟩ := e1
        rw [eL] at e; cases e; rw [dL] at d; cases d
  · obtain ⟨vs, ⟨n, e⟩, r⟩ := st.own p hp
    refine ⟨vs, ⟨n, hs'.extBut _ _ ?_ e⟩, r.keep (dk _)⟩
    rintro hpL
    rw [hpL, eL] at e; cases e; cases dL
  · obtain ⟨e, b, c⟩ := st.kep p hp
    refine ⟨hs'.extBut _ _ ?_ e, b, c⟩
    rintro hpL
    rw [hpL, eL] at e; cases e; exact b.1 _ _ dL
/-- a name of the block is bound -/
theorem St.bind {f : Fm} {O : List (Addr × List Dat)} {ρ : List (Str × Slot)} {s : Shared} {x : Str} {v : Value} {sl : Slot} {Q : Unit → Shared → Prop} {E : Value → Shared → Prop} (st : St f O ρ s)
    (hk : f.env.kindOf x = some .local ∨ (f.own = true ∧ f.env.kindOf x = some .cell ∧ ∃ c, f.env.cells.lookup x = some c)) (hv : SlotIs (f.V O) s.heap sl v)
    (h : ∀ s', St f O (put ρ x sl) s' → Q () s') : wpAny f.M f.A (storeName f.env x v) Q E s := by
  obtain ⟨m, hn⟩ := st.loc
  rcases hk with hk | ⟨hown, hk, c, hc⟩
  · exact wpAny_storeName_local hk hn (fun h' hn' hs' => h _ (st.storeL hk hv hn hn' hs')) (by rw [st.ok.kind]; rfl)
  · obtain ⟨v₀, hv₀⟩ := st.cel x c hc
    refine wpAny_storeName_cell st.ok.kind hk hc hv₀ fun h' hc' hs' => h _ ?_
    obtain ⟨oc, ec, dc⟩ := id hv₀
    obtain ⟨oc', ec', dc'⟩ := id hc'
    have fc : f.s₀.heap.objs.size ≤ c := st.ok.fC hown x c (mem_of_lookup hc)
    have dk : ∀ V, DKeep V V s.heap h' := fun V => dkeep_at hs' (.inr ⟨oc, ec, fun items n q => by rw [dc] at q; cases q⟩)
    have fr : Mv f.G f.Wc f.s₀ { s with heap := h' } := frm_at (tk := s.toks) st.frm fc hs' ⟨oc, ec, fun vs h => by rw [dc] at h; cases h⟩
    refine { ok := st.ok, bel := bel_at st.ok st.bel fc hs' (fun o e _ => ⟨oc', ec', fun vs q => by rw [dc'] at q; cases q⟩), frm := fr, loc := ?_,
             cel := fun n c₁ hc₁ => ?_, vars := fun y sl' hy => ?_, own := fun p hp => ?_, nod := st.nod, fO := st.fO, v0 := fun a ha => let ⟨_, e⟩ := st.v0 a ha; there_at hs' ⟨_, ec'⟩ e, frD := frD_at st.frD hs' (fun ⟨o, es, ep, e, d⟩ => by rw [ec] at e; cases e; rw [dc] at d; cases d), kep := fun p hp => ?_, dat := fun p hp => (st.dat p hp).keep (dk _), oV := st.oV, tab := tab_at st.tab hs' ⟨oc, ec, fun vs h => by rw [dc] at h; cases h⟩ }
    · refine ⟨m, hn.sameBut hs' ?_⟩
      rintro rfl
      obtain ⟨o, es, ep, e, d, _⟩ := hn
      rw [ec] at e; cases e; rw [dc] at d; cases d
    · by_cases hcc : c₁ = c
      · subst hcc; exact ⟨_, hc'⟩
      · obtain ⟨v', q⟩ := st.cel n c₁ hc₁
        exact ⟨v', q.sameBut hs' hcc⟩
    · by_cases hyx : y = x
      · subst hyx
        rw [put_same] at hy
        cases hy
        exact ⟨v, .inr ⟨.inl hk, c, hc, hc'⟩, hv.keep (dk _)⟩
      · rw [put_other _ _ hyx] at hy
        obtain ⟨u, hu, q⟩ := st.vars y sl' hy
        refine ⟨u, ?_, q.keep (dk _)⟩
        rcases hu with ⟨k1, m1, n1, e1⟩ | ⟨k1, c1, l1, e1⟩
        · refine .inl ⟨k1, m1, n1.sameBut hs' ?_, e1⟩
          rintro rfl
          obtain ⟨o, es, ep, e, d, _⟩ := n1
          rw [ec] at e; cases e; rw [dc] at d; cases d
        · refine .inr ⟨k1, c1, l1, e1.sameBut hs' fun q => hyx ?_⟩
          exact name_of_addr st.ok.apa (mem_of_lookup l1) (q ▸ mem_of_lookup hc)
    · obtain ⟨vs, ⟨n, e⟩, r⟩ := st.own p hp
      refine ⟨vs, ⟨n, hs'.extBut _ _ ?_ e⟩, r.keep (dk _)⟩
      rintro hpL
      rw [hpL, ec] at e; cases e; cases dc
    · obtain ⟨e, b, c'⟩ := st.kep p hp
      refine ⟨hs'.extBut _ _ ?_ e, b, c'⟩
      rintro hpL
      rw [hpL, ec] at e; cases e; exact b.2.1 _ dc

end Mine

namespace Mine

/-! ## expressions -/
@[irreducible] def EvS (f : Fm) (O : List (Addr × List Dat)) (ρ : List (Str × Slot)) (e : Expr) (sl : Slot) : Prop :=
  ∀ (s : Shared) (Q : Value → Shared → Prop) (E : Value → Shared → Prop), St f O ρ s → (∀ v s', Mv f.G f.W s s' → SlotIs (f.V O) s'.heap sl v → Q v s') → wpAny f.M f.A (eval e f.env) Q E s
theorem EvS.mk {f : Fm} {O : List (Addr × List Dat)} {ρ : List (Str × Slot)} {e : Expr} {sl : Slot} (h : ∀ (s : Shared) (Q : Value → Shared → Prop) (E : Value → Shared → Prop), St f O ρ s → (∀ v s', Mv f.G f.W s s' → SlotIs (f.V O) s'.heap sl v → Q v s') → wpAny f.M f.A (eval e f.env) Q E s) : EvS f O ρ e sl := by
  unfold EvS; exact h
theorem EvS.run {f : Fm} {O : List (Addr × List Dat)} {ρ : List (Str × Slot)} {e : Expr} {sl : Slot} (h : EvS f O ρ e sl) : ∀ (s : Shared) (Q : Value → Shared → Prop) (E : Value → Shared → Prop), St f O ρ s → (∀ v s', Mv f.G f.W s s' → SlotIs (f.V O) s'.heap sl v → Q v s') → wpAny f.M f.A (eval e f.env) Q E s := by
  unfold EvS at h; exact h
@[irreducible] def Ev (f : Fm) (O : List (Addr × List Dat)) (ρ : List (Str × Slot)) (e : Expr) (d : Dat) : Prop :=
  ∀ (s : Shared) (Q : Value → Shared → Prop) (E : Value → Shared → Prop), St f O ρ s → (∀ v s', Mv f.G f.W s s' → Has (f.V O) s'.heap v d → Q v s') → wpAny f.M f.A (eval e f.env) Q E s
theorem Ev.mk {f : Fm} {O : List (Addr × List Dat)} {ρ : List (Str × Slot)} {e : Expr} {d : Dat} (h : ∀ (s : Shared) (Q : Value → Shared → Prop) (E : Value → Shared → Prop), St f O ρ s → (∀ v s', Mv f.G f.W s s' → Has (f.V O) s'.heap v d → Q v s') → wpAny f.M f.A (eval e f.env) Q E s) : Ev f O ρ e d := by
  unfold Ev; exact h
theorem Ev.run {f : Fm} {O : List (Addr × List Dat)} {ρ : List (Str × Slot)} {e : Expr} {d : Dat} (h : Ev f O ρ e d) : ∀ (s : Shared) (Q : Value → Shared → Prop) (E : Value → Shared → Prop), St f O ρ s → (∀ v s', Mv f.G f.W s s' → Has (f.V O) s'.heap v d → Q v s') → wpAny f.M f.A (eval e f.env) Q E s := by
  unfold Ev at h; exact h
@[irreducible] def Tr (f : Fm) (O : List (Addr × List Dat)) (ρ : List (Str × Slot)) (e : Expr) (b : Bool) : Prop :=
  ∀ (s : Shared) (Q : Bool → Shared → Prop) (E : Value → Shared → Prop), St f O ρ s → (∀ s', Mv f.G f.W s s' → Q b s') → wpAny f.M f.A (isTrue e f.env (eval e f.env)) Q E s
theorem Tr.mk {f : Fm} {O : List (Addr × List Dat)} {ρ : List (Str × Slot)} {e : Expr} {b : Bool} (h : ∀ (s : Shared) (Q : Bool → Shared → Prop) (E : Value → Shared → Prop), St f O ρ s → (∀ s', Mv f.G f.W s s' → Q b s') → wpAny f.M f.A (isTrue e f.env (eval e f.env)) Q E s) : Tr f O ρ e b := by
  unfold Tr; exact h
theorem Tr.run {f : Fm} {O : List (Addr × List Dat)} {ρ : List (Str × Slot)} {e : Expr} {b : Bool} (h : Tr f O ρ e b) : ∀ (s : Shared) (Q : Bool → Shared → Prop) (E : Value → Shared → Prop), St f O ρ s → (∀ s', Mv f.G f.W s s' → Q b s') → wpAny f.M f.A (isTrue e f.env (eval e f.env)) Q E s := by
  unfold Tr at h; exact h
/-- an operation upon values -/
abbrev Op2 (f : Fm) (O : List (Addr × List Dat)) (ρ : List (Str × Slot)) (t : Value → Value → Sem Value) (a b c : Dat) : Prop :=
  ∀ (s : Shared) (va vb : Value) (Q : Value → Shared → Prop) (E : Value → Shared → Prop), St f O ρ s → Has (f.V O) s.heap va a → Has (f.V O) s.heap vb b → (∀ v s', Mv f.G f.W s s' → Has (f.V O) s'.heap v c → Q v s') → wpAny f.M f.A (t va vb) Q E s

section
variable {f : Fm} {O : List (Addr × List Dat)} {ρ : List (Str × Slot)} {e l r t : Expr} {pos : Pos} {a b c d : Dat}

theorem St.freshV {s : Shared} (st : St f O ρ s) : s.heap.objs.size ∉ f.V O := by
  intro h
  rcases List.mem_append.mp h with h | h
  · obtain ⟨p, hp, e⟩ := List.mem_map.mp h
    obtain ⟨vs, ⟨n, q⟩, _⟩ := st.own p hp
    have := Heap.lt_size q
    rw [e] at this
    exact Nat.lt_irrefl _ this
  · obtain ⟨o, q⟩ := st.v0 _ h
    exact Nat.lt_irrefl _ (Heap.lt_size q)

theorem Ev.of {d' : Dat} (h : Ev f O ρ e d) (hd : d = d') : Ev f O ρ e d' := hd ▸ h
theorem Tr.of {v v' : Bool} (h : Tr f O ρ e v) (hv : v = v') : Tr f O ρ e v' := hv ▸ h
theorem Ev.slot (h : Ev f O ρ e d) : EvS f O ρ e (.dat d) := EvS.mk h.run
theorem EvS.data (h : EvS f O ρ e (.dat d)) : Ev f O ρ e d := Ev.mk h.run

theorem VarIs.load {s : Shared} {x : Str} {v : Value} {Q : Value → Shared → Prop} {E : Value → Shared → Prop} (st : St f O ρ s) (h : VarIs f.env s.heap x v) (hx : (x == ("__classdict__" : Str)) = false) (k : Q v s) : wpAny f.M f.A (loadName f.env x) Q E s := by
  rcases h with ⟨hk, m, hn, hv⟩ | ⟨hk | hk, c, hc, hv⟩
  · exact wpAny_loadName_local st.ok.kind hk hn hv k
  · exact wpAny_loadName_cell st.ok.kind hk hc hv k
  · exact wpAny_loadName_free st.ok.kind hk hc hv k hx

theorem EvS.name {x : Str} {sl : Slot} (h : ρ.lookup x = some sl) (hd : (x == ("__debug__" : Str)) = false := by decide) (hx : (x == ("__classdict__" : Str)) = false := by decide) : EvS f O ρ (.Name x pos) sl := by
  first | apply Ev.mk | apply EvS.mk | apply Tr.mk | apply EvL.mk | apply Ex.mk | apply ExS.mk | apply It.mk | skip
  intro s Q E st k
  obtain ⟨v, hv, hs⟩ := st.vars x sl h
  exact wpAny_Name (VarIs.load st hv hx (k v s (.refl s) hs)) hd
theorem Ev.name {x : Str} (h : ρ.lookup x = some (.dat d)) (hd : (x == ("__debug__" : Str)) = false := by decide) (hx : (x == ("__classdict__" : Str)) = false := by decide) : Ev f O ρ (.Name x pos) d := (EvS.name h hd hx).data

theorem Ev.strC {x : Str} {k : Nat} : Ev f O ρ (.Constant (.str x) k pos) (.str x) := by
  first | apply Ev.mk | apply EvS.mk | apply Tr.mk | apply EvL.mk | apply It.mk | skip
  exact fun s Q E st k => PySem.Calls.Constant_str (k _ _ (.toks _) (.str _ _))
theorem Ev.intC {i : Int} {k : Nat} : Ev f O ρ (.Constant (.int i) k pos) (.int i) := by
  first | apply Ev.mk | apply EvS.mk | apply Tr.mk | apply EvL.mk | apply It.mk | skip
  exact fun s Q E st k => wpAny_Constant_int (k _ _ (.toks _) (.int _ _))
theorem Ev.noneC {k : Nat} : Ev f O ρ (.Constant .none k pos) .none := by
  first | apply Ev.mk | apply EvS.mk | apply Tr.mk | apply EvL.mk | apply It.mk | skip
  exact fun s Q E st k => Constant_none (k _ _ (.refl s) .none)
theorem Ev.boolC {v : Bool} {k : Nat} : Ev f O ρ (.Constant (.bool v) k pos) (.bool v) := by
  first | apply Ev.mk | apply EvS.mk | apply Tr.mk | apply EvL.mk | apply It.mk | skip
  exact fun s Q E st k => Constant_bool (k _ _ (.refl s) (.bool v))

theorem Ev.bin {op : Operator} (hl : Ev f O ρ l a) (hr : Ev f O ρ r b) (h : Op2 f O ρ (binaryOp op) a b c) : Ev f O ρ (.BinOp l op r pos) c := by
  first | apply Ev.mk | apply EvS.mk | apply Tr.mk | apply EvL.mk | apply Ex.mk | apply ExS.mk | apply It.mk | skip
  intro s Q E st k
  refine wpAny_BinOp (hl.run s _ _ st fun va s₁ m₁ h₁ => hr.run s₁ _ _ (st.mv m₁) fun vb s₂ m₂ h₂ => ?_)
  exact h s₂ va vb _ _ (st.mv (m₁.trans m₂)) (h₁.mv m₂) h₂ fun v s₃ m₃ h₃ => k v s₃ (m₁.trans (m₂.trans m₃)) h₃

theorem Op2.addStr {x y : Str} (hsz : x.length + y.length ≤ sizeLine) : Op2 f O ρ (binaryOp .Add) (.str x) (.str y) (.str (x ++ y)) := by
  intro s va vb Q E st ha hb k
  cases ha; cases hb
  exact add_str (fun t' tk => k _ _ (.toks _) (.str _ _)) hsz
theorem Op2.addInt {x y : Int} : Op2 f O ρ (binaryOp .Add) (.int x) (.int y) (.int (x + y)) := by
  intro s va vb Q E st ha hb k
  cases ha; cases hb
  exact add_int (k _ _ (.toks _) (.int _ _))
theorem Op2.modInt {x y : Int} (hy : y ≠ 0) : Op2 f O ρ (binaryOp .Mod) (.int x) (.int y) (.int (x.fmod y)) := by
  intro s va vb Q E st ha hb k
  cases ha; cases hb
  exact mod_int' hy (k _ _ (.toks _) (.int _ _))
theorem newL {s : Shared} {vs : List Value} {ds : List Dat} {n : Nat} (st : St f O ρ s) (x : HasL (f.V O) s.heap vs ds) : Has (f.V O) (s.heap.push { cls := .type "list", data := .seq vs.toArray n }) (.ref s.heap.objs.size) (.list ds) :=
  .list ⟨n, Heap.get?_push_size _ rfl⟩ st.freshV (x.mv (X := f.G) (W := []) (s' := { s with heap := s.heap.push { cls := .type "list", data := .seq vs.toArray n } }) (.push _))
theorem newT {s : Shared} {vs : List Value} {ds : List Dat} {n : Nat} (st : St f O ρ s) (x : HasL (f.V O) s.heap vs ds) : Has (f.V O) (s.heap.push { cls := .type "tuple", data := .seq vs.toArray n }) (.ref s.heap.objs.size) (.tuple ds) :=
  .tuple ⟨_, Heap.get?_push_size _ rfl, rfl, n, rfl⟩ st.freshV (x.mv (X := f.G) (W := []) (s' := { s with heap := s.heap.push { cls := .type "tuple", data := .seq vs.toArray n } }) (.push _))
theorem Op2.addList {xs ys : List Dat} (hsz : xs.length + ys.length ≤ sizeLine) : Op2 f O ρ (binaryOp .Add) (.list xs) (.list ys) (.list (xs ++ ys)) := by
  intro s va vb Q E st ha hb k
  cases ha with
  | list i1 n1 h1 =>
    cases hb with
    | list i2 n2 h2 =>
      obtain ⟨k1, e1⟩ := i1
      obtain ⟨k2, e2⟩ := i2
      refine P.add_list e1 e2 ?_ (by simpa [h1.length, h2.length] using hsz)
      rw [List.append_toArray]
      exact k _ _ (.push _) (newL st (h1.append h2))

/-! ### comparisons and truth -/
theorem Ev.cmp {op : CmpOp} (hl : Ev f O ρ l a) (hr : Ev f O ρ r b) (h : Op2 f O ρ (compareOp op) a b c) (hm : behindInMarks op r = false := by with_unfolding_all rfl) : Ev f O ρ (.Compare l [op] [r] pos) c := by
  first | apply Ev.mk | apply EvS.mk | apply Tr.mk | apply EvL.mk | apply Ex.mk | apply ExS.mk | apply It.mk | skip
  intro s Q E st k
  refine wpAny_Compare1 (hl.run s _ _ st fun va s₁ m₁ h₁ => hr.run s₁ _ _ (st.mv m₁) fun vb s₂ m₂ h₂ => ?_) hm
  exact h s₂ va vb _ _ (st.mv (m₁.trans m₂)) (h₁.mv m₂) h₂ fun v s₃ m₃ h₃ => k v s₃ (m₁.trans (m₂.trans m₃)) h₃
theorem Tr.cmp {op : CmpOp} {v : Bool} (hl : Ev f O ρ l a) (hr : Ev f O ρ r b) (h : Op2 f O ρ (compareOp op) a b (.bool v)) (hm : behindInMarks op r = false := by with_unfolding_all rfl) : Tr f O ρ (.Compare l [op] [r] pos) v := by
  first | apply Ev.mk | apply EvS.mk | apply Tr.mk | apply EvL.mk | apply Ex.mk | apply ExS.mk | apply It.mk | skip
  intro s Q E st k
  refine wpAny_isTrue_Compare1 (hl.run s _ _ st fun va s₁ m₁ h₁ => hr.run s₁ _ _ (st.mv m₁) fun vb s₂ m₂ h₂ => ?_) hm
  refine h s₂ va vb _ _ (st.mv (m₁.trans m₂)) (h₁.mv m₂) h₂ fun v s₃ m₃ h₃ => ?_
  cases h₃
  exact wpAny_truthy_bool (k s₃ (m₁.trans (m₂.trans m₃)))
theorem Tr.notE {v : Bool} (h : Tr f O ρ e v) : Tr f O ρ (.UnaryOp .Not e pos) (!v) := by
  first | apply Ev.mk | apply EvS.mk | apply Tr.mk | apply EvL.mk | apply It.mk | skip
  exact fun s Q E st k => isTrue_not (h.run s _ _ st fun s' m => k s' m)
theorem Tr.andNil : Tr f O ρ (.BoolOp .And [] pos) true := by
  first | apply Ev.mk | apply EvS.mk | apply Tr.mk | apply EvL.mk | apply It.mk | skip
  exact fun s Q E st k => isTrue_and_nil (k s (.refl s))
theorem Tr.orNil : Tr f O ρ (.BoolOp .Or [] pos) false := by
  first | apply Ev.mk | apply EvS.mk | apply Tr.mk | apply EvL.mk | apply It.mk | skip
  exact fun s Q E st k => isTrue_or_nil (k s (.refl s))
theorem Tr.andE {es : List Expr} {v w : Bool} (h : Tr f O ρ e v) (h' : v = true → Tr f O ρ (.BoolOp .And es pos) w) : Tr f O ρ (.BoolOp .And (e :: es) pos) (v && w) := by
  first | apply Ev.mk | apply EvS.mk | apply Tr.mk | apply EvL.mk | apply Ex.mk | apply ExS.mk | apply It.mk | skip
  intro s Q E st k
  refine isTrue_and (h.run s _ _ st fun s' m => ?_)
  cases v with
  | false => exact k s' m
  | true => exact (h' rfl).run s' _ _ (st.mv m) fun s₂ m₂ => k s₂ (m.trans m₂)
theorem Tr.orE {es : List Expr} {v w : Bool} (h : Tr f O ρ e v) (h' : v = false → Tr f O ρ (.BoolOp .Or es pos) w) : Tr f O ρ (.BoolOp .Or (e :: es) pos) (v || w) := by
  first | apply Ev.mk | apply EvS.mk | apply Tr.mk | apply EvL.mk | apply Ex.mk | apply ExS.mk | apply It.mk | skip
  intro s Q E st k
  refine isTrue_or (h.run s _ _ st fun s' m => ?_)
  cases v with
  | true => exact k s' m
  | false => exact (h' rfl).run s' _ _ (st.mv m) fun s₂ m₂ => k s₂ (m.trans m₂)
theorem Ev.ite {v : Bool} (ht : Tr f O ρ t v) (h1 : v = true → Ev f O ρ l d) (h2 : v = false → Ev f O ρ r d) : Ev f O ρ (.IfExp t l r pos) d := by
  first | apply Ev.mk | apply EvS.mk | apply Tr.mk | apply EvL.mk | apply Ex.mk | apply ExS.mk | apply It.mk | skip
  intro s Q E st k
  refine IfExp_ (ht.run s _ _ st fun s' m => ?_)
  cases v with
  | true => exact (h1 rfl).run s' _ _ (st.mv m) fun v s₂ m₂ h₂ => k v s₂ (m.trans m₂) h₂
  | false => exact (h2 rfl).run s' _ _ (st.mv m) fun v s₂ m₂ h₂ => k v s₂ (m.trans m₂) h₂
/-- the truth of a plain value -/
theorem Tr.plain {v : Bool} (h : Ev f O ρ e d) (ht : ∀ (s : Shared) (x : Value) (Q : Bool → Shared → Prop) (E : Value → Shared → Prop), St f O ρ s → Has (f.V O) s.heap x d → (∀ s', Mv f.G f.W s s' → Q v s') → wpAny f.M f.A (truthy x) Q E s)
    (he : isTrue e f.env (eval e f.env) = (do let v ← eval e f.env; standAt e.pos; holding [v] (truthy v)) := by rfl) : Tr f O ρ e v := by
  first | apply Ev.mk | apply EvS.mk | apply Tr.mk | apply EvL.mk | apply Ex.mk | apply ExS.mk | apply It.mk | skip
  intro s Q E st k
  exact isTrue_plain (h.run s _ _ st fun x s' m hx => ht s' x _ _ (st.mv m) hx fun s₂ m₂ => k s₂ (m.trans m₂)) he
theorem Tr.intE {i : Int} (h : Ev f O ρ e (.int i)) (he : isTrue e f.env (eval e f.env) = (do let v ← eval e f.env; standAt e.pos; holding [v] (truthy v)) := by rfl) : Tr f O ρ e (i != 0) :=
  Tr.plain h (fun s x Q E st hx k => by cases hx; exact P.truthy_int (k s (.refl s))) he
theorem Tr.boolE {v : Bool} (h : Ev f O ρ e (.bool v)) (he : isTrue e f.env (eval e f.env) = (do let v ← eval e f.env; standAt e.pos; holding [v] (truthy v)) := by rfl) : Tr f O ρ e v :=
  Tr.plain h (fun s x Q E st hx k => by cases hx; exact wpAny_truthy_bool (k s (.refl s))) he
theorem Tr.strE {x : Str} (h : Ev f O ρ e (.str x)) (hx : x.length ≤ sizeLine) (he : isTrue e f.env (eval e f.env) = (do let v ← eval e f.env; standAt e.pos; holding [v] (truthy v)) := by rfl) : Tr f O ρ e ((x.length : Int) != 0) :=
  Tr.plain h (fun s v Q E st hv k => by cases hv; exact P.truthy_str (by rw [sizeLine_eq] at hx; omega) (k _ (.toks _))) he

theorem Op2.eqStr {x y : Str} : Op2 f O ρ (compareOp .Eq) (.str x) (.str y) (.bool (x == y)) := by
  intro s va vb Q E st ha hb k
  cases ha; cases hb
  exact eq_str (k _ _ (.refl s) (.bool _))
theorem Op2.neStr {x y : Str} : Op2 f O ρ (compareOp .NotEq) (.str x) (.str y) (.bool (x != y)) := by
  intro s va vb Q E st ha hb k
  cases ha; cases hb
  exact ne_str (k _ _ (.refl s) (.bool _))
theorem Op2.ltInt {x y : Int} : Op2 f O ρ (compareOp .Lt) (.int x) (.int y) (.bool (decide (x < y))) := by
  intro s va vb Q E st ha hb k
  cases ha; cases hb
  exact P.lt_int (k _ _ (.refl s) (.bool _))
theorem Op2.geInt {x y : Int} : Op2 f O ρ (compareOp .GtE) (.int x) (.int y) (.bool (decide (x ≥ y))) := by
  intro s va vb Q E st ha hb k
  cases ha; cases hb
  exact P.ge_int (k _ _ (.refl s) (.bool _))
theorem Op2.eqInt {x y : Int} : Op2 f O ρ (compareOp .Eq) (.int x) (.int y) (.bool (x == y)) := by
  intro s va vb Q E st ha hb k
  cases ha; cases hb
  exact P.eq_int (k _ _ (.refl s) (.bool _))

/-! ### displays -/
@[irreducible] def EvL (f : Fm) (O : List (Addr × List Dat)) (ρ : List (Str × Slot)) (es : List Expr) (ds : List Dat) : Prop :=
  ∀ (pos : Pos) (s : Shared) (Q : List Value → Shared → Prop) (E : Value → Shared → Prop), St f O ρ s → (∀ vs s', Mv f.G f.W s s' → HasL (f.V O) s'.heap vs ds → Q vs s') → wpAny f.M f.A (spliced (backTo pos (starEach es f.env))) Q E s
theorem EvL.mk {f : Fm} {O : List (Addr × List Dat)} {ρ : List (Str × Slot)} {es : List Expr} {ds : List Dat} (h : ∀ (pos : Pos) (s : Shared) (Q : List Value → Shared → Prop) (E : Value → Shared → Prop), St f O ρ s → (∀ vs s', Mv f.G f.W s s' → HasL (f.V O) s'.heap vs ds → Q vs s') → wpAny f.M f.A (spliced (backTo pos (starEach es f.env))) Q E s) : EvL f O ρ es ds := by
  unfold EvL; exact h
theorem EvL.run {f : Fm} {O : List (Addr × List Dat)} {ρ : List (Str × Slot)} {es : List Expr} {ds : List Dat} (h : EvL f O ρ es ds) : ∀ (pos : Pos) (s : Shared) (Q : List Value → Shared → Prop) (E : Value → Shared → Prop), St f O ρ s → (∀ vs s', Mv f.G f.W s s' → HasL (f.V O) s'.heap vs ds → Q vs s') → wpAny f.M f.A (spliced (backTo pos (starEach es f.env))) Q E s := by
  unfold EvL at h; exact h
theorem EvL.nilE : EvL f O ρ [] [] := by
  apply EvL.mk
  exact fun pos s Q E st k => PySem.Calls.spliced_nil (k _ _ (.refl s) .nil)
theorem EvL.consE {es : List Expr} {ds : List Dat} (h : Ev f O ρ e d) (hs : EvL f O ρ es ds) (hst : starEach (e :: es) f.env = (false, eval e f.env) :: starEach es f.env := by rfl) : EvL f O ρ (e :: es) (d :: ds) := by
  first | apply Ev.mk | apply EvS.mk | apply Tr.mk | apply EvL.mk | apply Ex.mk | apply ExS.mk | apply It.mk | skip
  intro pos s Q E st k
  rw [hst]
  exact PySem.Calls.spliced_cons (h.run s _ _ st fun v s₁ m₁ h₁ => hs.run pos s₁ _ _ (st.mv m₁) fun vs s₂ m₂ h₂ => k _ _ (m₁.trans m₂) (.cons (h₁.mv m₂) h₂))
theorem Ev.listD {es : List Expr} {ds : List Dat} (h : EvL f O ρ es ds) (hsz : ds.length ≤ sizeLine := by first | (simp only [List.length_cons, List.length_nil]; decide) | decide) : Ev f O ρ (.List es pos) (.list ds) := by
  first | apply Ev.mk | apply EvS.mk | apply Tr.mk | apply EvL.mk | apply Ex.mk | apply ExS.mk | apply It.mk | skip
  intro s Q E st k
  refine List_ (h.run pos s _ _ st fun vs s' m hv => ?_)
  exact wpAny_newObj_type (k _ _ (m.trans (.push _)) (newL (st.mv m) hv)) (by show vs.toArray.size ≤ sizeLine; simpa [hv.length] using hsz)
theorem Ev.tupleD {es : List Expr} {ds : List Dat} {k : Nat} (h : EvL f O ρ es ds) (hsz : ds.length ≤ sizeLine := by first | (simp only [List.length_cons, List.length_nil]; decide) | decide) : Ev f O ρ (.Tuple es k pos) (.tuple ds) := by
  first | apply Ev.mk | apply EvS.mk | apply Tr.mk | apply EvL.mk | apply Ex.mk | apply ExS.mk | apply It.mk | skip
  intro s Q E st k
  refine Tuple_ (h.run pos s _ _ st fun vs s' m hv => ?_)
  exact wpAny_newObj_type (k _ _ (m.trans (.push _)) (newT (st.mv m) hv)) (by show vs.toArray.size ≤ sizeLine; simpa [hv.length] using hsz)

end
end Mine

namespace Mine

/-! ## texts as lists of signs -/
def S (l : List Nat) : Str := ⟨l.toArray⟩
theorem S_append (a b : List Nat) : S a ++ S b = S (a ++ b) := by
  show (⟨a.toArray ++ b.toArray⟩ : Str) = ⟨(a ++ b).toArray⟩
  rw [List.append_toArray]
theorem S_length (a : List Nat) : (S a).length = a.length := by simp [S, Str.length]
theorem S_inj {a b : List Nat} : S a = S b ↔ a = b := by
  constructor
  · intro h
    have : a.toArray = b.toArray := congrArg Str.cps h
    simpa using this
  · rintro rfl; rfl
theorem S_cps (a : List Nat) : (S a).cps = a.toArray := rfl
theorem S_of (x : Str) : x = S x.cps.toList := by cases x; simp [S]
theorem S_beq (a b : List Nat) : (S a == S b) = (a == b) := by
  rw [Bool.eq_iff_iff]; simp [S_inj]

def sl {α : Type} (l : List α) (lo hi : Option Int) : List α := (l.drop (lo.elim 0 (clipAt l.length))).take (hi.elim l.length (clipAt l.length) - lo.elim 0 (clipAt l.length))

theorem sl_length_le {α : Type} (l : List α) (lo hi : Option Int) : (sl l lo hi).length ≤ l.length := by
  unfold sl; rw [List.length_take, List.length_drop]; omega
theorem clip_le (n : Nat) (i : Int) : clipAt n i ≤ n := by have := clipAt_cast n i; omega
theorem strIdx_eq (lo hi : Option Int) (n : Nat) : Builtin.Str.strSliceIndices lo hi 1 n = (List.range (hi.elim n (clipAt n) - lo.elim 0 (clipAt n))).map (fun k => lo.elim 0 (clipAt n) + k) := by
  have h := sliceRange_one (lo.elim 0 (clipAt n)) (hi.elim n (clipAt n))
  rw [← h]
  unfold Builtin.Str.strSliceIndices
  cases lo <;> cases hi <;> simp [clipAt_cast]
theorem slice_S (l : List Nat) (lo hi : Option Int) : Txt.slice (S l) lo hi = S (sl l lo hi) := by
  have key : ((Builtin.Str.strSliceIndices lo hi 1 l.length).filterMap (l.toArray[·]?)) = sl l lo hi := by
    rw [strIdx_eq]
    have := pick_run l.toArray (lo.elim 0 (clipAt l.length)) (hi.elim l.length (clipAt l.length) - lo.elim 0 (clipAt l.length))
    simpa [sl] using this
  unfold Txt.slice
  rw [S_length, S_cps, key]
  split
  · rename_i h
    simp only [beq_self_eq_true, Bool.true_and, beq_iff_eq] at h
    have h2 : (sl l lo hi).length = l.length := by
      rw [strIdx_eq] at h
      simp only [List.length_map, List.length_range] at h
      unfold sl
      rw [List.length_take, List.length_drop]
      have : lo.elim 0 (clipAt l.length) ≤ l.length := by cases lo <;> simp [clip_le]
      have : hi.elim l.length (clipAt l.length) ≤ l.length := by cases hi <;> simp [clip_le]
      omega
    have h3 : sl l lo hi = l := by
      have hs : (sl l lo hi).Sublist l := (List.take_sublist _ _).trans (List.drop_sublist _ _)
      exact hs.eq_of_length h2
    rw [h3]
  · rfl

theorem HasL.sl {V : List Addr} {h : Heap} {vs : List Value} {ds : List Dat} (x : HasL V h vs ds) (lo hi : Option Int) : HasL V h (Mine.sl vs lo hi) (Mine.sl ds lo hi) := by
  unfold Mine.sl
  rw [x.length]
  exact (x.drop _).take _
theorem slicePick_sl (vs : List Value) (lo hi : Option Int) : slicePick vs.toArray lo hi none = (sl vs lo hi).toArray := by
  rw [slicePick_plain]; simp [sl]

section
variable {f : Fm} {O : List (Addr × List Dat)} {ρ : List (Str × Slot)} {e l r t value : Expr} {pos p : Pos} {a b c d : Dat} {lower upper step : Option Expr} {lo hi : Option Int}

/-! ### parts of a slice -/
def EvP (f : Fm) (O : List (Addr × List Dat)) (ρ : List (Str × Slot)) : Option Expr → Option Int → Prop
  | none, none => True
  | some e, some i => Ev f O ρ e (.int i)
  | _, _ => False
theorem EvP.run {s : Shared} {Q : Value → Shared → Prop} {E : Value → Shared → Prop} (h : EvP f O ρ lower lo) (st : St f O ρ s) (k : ∀ v s', Mv f.G f.W s s' → (∃ q : Option (Int × Tok), v = partValue q ∧ q.map (·.1) = lo) → Q v s') : wpAny f.M f.A (evalPart lower f.env) Q E s := by
  cases lower with
  | none =>
    cases lo with
    | none => exact evalPart_none_step (k _ _ (.refl s) ⟨none, rfl, rfl⟩)
    | some i => exact absurd h id
  | some e =>
    cases lo with
    | none => exact absurd h id
    | some i => exact evalPart_some_step ((Ev.slot h).run s _ _ st fun v s' m hv => k v s' m (by cases hv; exact ⟨some (_, _), rfl, rfl⟩))
theorem isPart_of (q : Option (Int × Tok)) : IsPart (partValue q) (q.map (·.1)) := by
  cases q with
  | none => exact .none
  | some q => exact .int _ _

theorem Ev.sliceStr {x : List Nat} (hv : Ev f O ρ value (.str (S x))) (hlo : EvP f O ρ lower lo) (hhi : EvP f O ρ upper hi) (hsz : x.length ≤ sizeLine) : Ev f O ρ (.Subscript value (.Slice lower upper none p) pos) (.str (S (sl x lo hi))) := by
  first | apply Ev.mk | apply EvS.mk | apply Tr.mk | apply EvL.mk | apply Ex.mk | apply ExS.mk | apply It.mk | skip
  intro s Q E st k
  refine Subscript_ (hv.run s _ _ st fun v s₁ m₁ h₁ => wpAny_Slice (hlo.run (st.mv m₁) fun vl s₂ m₂ h₂ => hhi.run (st.mv (m₁.trans m₂)) fun vu s₃ m₃ h₃ => evalPart_none_step ?_))
  cases h₁
  rename_i tx
  obtain ⟨ql, rfl, rfl⟩ := h₂
  obtain ⟨qu, rfl, rfl⟩ := h₃
  refine tail_any (ops := [.ref s₃.heap.objs.size, .str (S x) tx]) (typeIs_str _ _ _) F.slot_str_getitem.lookup ?_ rfl
  refine wpAny_getItem_str_slice (l := ql) (u := qu) (st := none) ⟨_, Heap.get?_push_size _ rfl, rfl, rfl⟩ rfl ?_
  refine post_val_or_str ⟨Nat.le_trans (Txt.slice_le (S x) _ _) (by rw [S_length]; exact hsz), fun t' tk => ?_⟩
  refine k _ _ (m₁.trans (m₂.trans (m₃.trans ?_))) ?_
  · exact Mv.of_keep fun b o e => Heap.get?_push_of_some _ e
  · have := slice_S x (ql.map (·.1)) (qu.map (·.1))
    unfold Txt.slice at this
    show Has _ _ (Value.str (if _ then _ else _) t') _
    unfold slicePicked
    simp only [Option.map_none, Option.getD_none]
    rw [this]
    exact .str _ _

theorem Ev.sliceList {ds : List Dat} (hv : Ev f O ρ value (.list ds)) (hlo : EvP f O ρ lower lo) (hhi : EvP f O ρ upper hi) (hsz : ds.length ≤ sizeLine) : Ev f O ρ (.Subscript value (.Slice lower upper none p) pos) (.list (sl ds lo hi)) := by
  first | apply Ev.mk | apply EvS.mk | apply Tr.mk | apply EvL.mk | apply Ex.mk | apply ExS.mk | apply It.mk | skip
  intro s Q E st k
  refine Subscript_ (hv.run s _ _ st fun v s₁ m₁ h₁ => wpAny_Slice (hlo.run (st.mv m₁) fun vl s₂ m₂ h₂ => hhi.run (st.mv (m₁.trans m₂)) fun vu s₃ m₃ h₃ => evalPart_none_step ?_))
  have h₁' := h₁.mv (m₂.trans m₃)
  have st₃ := st.mv (m₁.trans (m₂.trans m₃))
  cases h₁' with
  | list i1 n1 hl =>
    rename_i ad vs
    obtain ⟨ql, rfl, rfl⟩ := h₂
    obtain ⟨qu, rfl, rfl⟩ := h₃
    let s4 : Shared := { s₃ with heap := s₃.heap.push { cls := .type "slice", data := .fields #[partValue ql, partValue qu, .none] } }
    have il : s4.heap.IsList ad vs.toArray := (i1.at fun o e => Heap.get?_push_of_some _ e).isList
    refine tail_any (ops := [.ref s₃.heap.objs.size, .ref ad]) (s := s4) il.typeIs slot_list_getitem.lookup ?_ rfl
    have m4 : Mv f.G f.W s₃ s4 := .push _
    refine wpAny_getItem_list_slice (s := s4) il (Heap.IsSliceOf.new ..) (isPart_of ql) (isPart_of qu) .none (by simp) ?_ (by simpa [hl.length] using hsz)
    rw [slicePick_sl]
    exact k _ _ (m₁.trans (m₂.trans (m₃.trans (m4.trans (.push _))))) (newL (st₃.mv m4) ((hl.mv m4).sl _ _))

/-! ### items -/
theorem Ev.itemStr {x : List Nat} {i : Int} {cc : Nat} {slice : Expr} (hv : Ev f O ρ value (.str (S x))) (hi : Ev f O ρ slice (.int i)) (h0 : 0 ≤ i) (hc : x[i.toNat]? = some cc) (hsz : x.length ≤ sizeLine)
    (hs : ∀ o j, subscripted slice false o j = operate [o, j] (getItem o j) := by intros; with_unfolding_all rfl) : Ev f O ρ (.Subscript value slice pos) (.str (S [cc])) := by
  first | apply Ev.mk | apply EvS.mk | apply Tr.mk | apply EvL.mk | apply Ex.mk | apply ExS.mk | apply It.mk | skip
  intro s Q E st k
  refine Subscript_ (hv.run s _ _ st fun v s₁ m₁ h₁ => hi.run s₁ _ _ (st.mv m₁) fun vi s₂ m₂ h₂ => ?_)
  cases h₁; cases h₂
  have hlt : i.toNat < x.length := (List.getElem?_eq_some_iff.mp hc).1
  rw [sizeLine_eq] at hsz
  refine tail_any (typeIs_str _ _ _) F.slot_str_getitem.lookup (P.getItem_str (c := cc) ?_ ?_ (k _ _ (m₁.trans (m₂.trans (.toks _))) (.str _ _))) (hs _ _)
  · simp only [Bool.or_eq_false_iff, decide_eq_false_iff_not]; omega
  · rw [S_length, seqIndex_of h0 (by omega)]
    simpa [S] using hc

theorem getItem_any {s : Shared} {ad : Addr} {vs : List Value} {i : Int} {t : Tok} {j : Nat} {x : Value} {Q : Value → Shared → Prop} {E : Value → Shared → Prop} (il : s.heap.IsList ad vs.toArray) (hj : seqIndex? i vs.length = some j) (hx : vs[j]? = some x) (hsz : vs.length ≤ sizeLine) (k : Q x s) :
    wpAny f.M f.A (getItem (.ref ad) (.int i t)) Q E s := by
  rw [sizeLine_eq] at hsz
  have hlt : j < vs.length := (List.getElem?_eq_some_iff.mp hx).1
  rcases Int.lt_or_le i 0 with h | h
  · by_cases h1 : -(vs.length : Int) ≤ i
    · rw [seqIndex_neg h h1] at hj
      cases hj
      exact wpAny_getItem_list_neg il h (by simpa using h1) (by omega) (by simpa using hx) k
    · simp only [seqIndex?] at hj
      (repeat' split at hj) <;> first | (simp only [Bool.and_eq_true, decide_eq_true_eq] at *; omega) | cases hj
  · by_cases h1 : i < vs.length
    · rw [seqIndex_of h h1] at hj
      cases hj
      exact wpAny_getItem_list il h (by omega) (by simpa using hx) k
    · simp only [seqIndex?] at hj
      (repeat' split at hj) <;> first | (simp only [Bool.and_eq_true, decide_eq_true_eq] at *; omega) | cases hj

theorem Ev.itemList {ds : List Dat} {i : Int} {j : Nat} {slice : Expr} (hv : Ev f O ρ value (.list ds)) (hi : Ev f O ρ slice (.int i)) (hj : seqIndex? i ds.length = some j) (hd : ds[j]? = some d) (hsz : ds.length ≤ sizeLine)
    (hs : ∀ o j, subscripted slice false o j = operate [o, j] (getItem o j) := by intros; with_unfolding_all rfl) : Ev f O ρ (.Subscript value slice pos) d := by
  first | apply Ev.mk | apply EvS.mk | apply Tr.mk | apply EvL.mk | apply Ex.mk | apply ExS.mk | apply It.mk | skip
  intro s Q E st k
  refine Subscript_ (hv.run s _ _ st fun v s₁ m₁ h₁ => hi.run s₁ _ _ (st.mv m₁) fun vi s₂ m₂ h₂ => ?_)
  have h₁' := h₁.mv m₂
  cases h₂
  cases h₁' with
  | list i1 n1 hl =>
    obtain ⟨x, hx, hxd⟩ := hl.get hd
    exact tail_any i1.isList.typeIs slot_list_getitem.lookup (getItem_any i1.isList (by rw [hl.length]; exact hj) hx (by rw [hl.length]; exact hsz) (k _ _ (m₁.trans m₂) hxd)) (hs _ _)

/-- an item of a list of the block's own -/
theorem Ev.itemOwn {ad : Addr} {ds : List Dat} {i : Int} {j : Nat} {slice : Expr} (hv : EvS f O ρ value (.val (.ref ad))) (ho : (ad, ds) ∈ O) (hi : Ev f O ρ slice (.int i)) (hj : seqIndex? i ds.length = some j) (hd : ds[j]? = some d) (hsz : ds.length ≤ sizeLine)
    (hs : ∀ o j, subscripted slice false o j = operate [o, j] (getItem o j) := by intros; with_unfolding_all rfl) : Ev f O ρ (.Subscript value slice pos) d := by
  first | apply Ev.mk | apply EvS.mk | apply Tr.mk | apply EvL.mk | apply Ex.mk | apply ExS.mk | apply It.mk | skip
  intro s Q E st k
  refine Subscript_ (hv.run s _ _ st fun v s₁ m₁ h₁ => hi.run s₁ _ _ (st.mv m₁) fun vi s₂ m₂ h₂ => ?_)
  have h₁' : v = .ref ad := h₁
  subst h₁'
  cases h₂
  obtain ⟨vs, i1, hl⟩ := (st.mv (m₁.trans m₂)).own _ ho
  obtain ⟨x, hx, hxd⟩ := hl.get hd
  exact tail_any i1.isList.typeIs slot_list_getitem.lookup (getItem_any i1.isList (by rw [hl.length]; exact hj) hx (by rw [hl.length]; exact hsz) (k _ _ (m₁.trans m₂) hxd)) (hs _ _)

/-! ### calls -/
/-- the name stands at the top for v -/
theorem Ev.global {x : Str} {v : Value} (hx : f.env.kindOf x = some .globalImplicit) (hg : f.mg x = some v) (hd : (x == ("__debug__" : Str)) = false := by decide) : EvS f O ρ (.Name x pos) (.val v) := by
  first | apply Ev.mk | apply EvS.mk | apply Tr.mk | apply EvL.mk | apply Ex.mk | apply ExS.mk | apply It.mk | skip
  intro s Q E st k
  refine PySem.Calls.Name_function_global st.ok.kind hx (PySem.Calls.loadGlobal_global (mg := f.mg) ?_ hg (k v s (.refl s) rfl)) hd
  rw [st.ok.glob]; exact st.ok.bas.g.keeps st.bel.stays
theorem Ev.builtin {x : Str} {v : Value} (hx : f.env.kindOf x = some .globalImplicit) (hg : f.mg x = none) (hb : bootBuiltins x = some v) (hn : x ≠ "__name__" := by decide) (hd : (x == ("__debug__" : Str)) = false := by decide) : EvS f O ρ (.Name x pos) (.val v) := by
  first | apply Ev.mk | apply EvS.mk | apply Tr.mk | apply EvL.mk | apply Ex.mk | apply ExS.mk | apply It.mk | skip
  intro s Q E st k
  refine PySem.Calls.Name_function_global st.ok.kind hx (PySem.Calls.loadGlobal_builtin (mg := f.mg) (mb := f.mb) ?_ hg ?_ ?_ (k v s (.refl s) rfl)) hd
  · rw [st.ok.glob]; exact st.ok.bas.g.keeps st.bel.stays
  · rw [st.ok.bi]; exact st.ok.bas.b.keeps st.bel.stays
  · rw [st.ok.bas.boot x hn]; exact hb

abbrev OpN (f : Fm) (O : List (Addr × List Dat)) (ρ : List (Str × Slot)) (t : List Value → Sem Value) (ds : List Dat) (c : Dat) : Prop :=
  ∀ (s : Shared) (vs : List Value) (Q : Value → Shared → Prop) (E : Value → Shared → Prop), St f O ρ s → HasL (f.V O) s.heap vs ds → (∀ v s', Mv f.G f.W s s' → Has (f.V O) s'.heap v c → Q v s') → wpAny f.M f.A (t vs) Q E s

theorem EvL.args {fv : Value} {es : List Expr} {ds : List Dat} {s : Shared} {Q : Args → Shared → Prop} {E : Value → Shared → Prop} (h : EvL f O ρ (e :: es) ds) (st : St f O ρ s) (hns : starEach (e :: es) f.env = (false, eval e f.env) :: starEach es f.env)
    (k : ∀ vs s', Mv f.G f.W s s' → HasL (f.V O) s'.heap vs ds → Q ⟨vs, []⟩ s') : wpAny f.M f.A (evalArgs fv true (backTo pos (starEach (e :: es) f.env)) []) Q E s := by
  have hh := h.run pos s (fun vs s' => Q ⟨vs, []⟩ s') E st k
  rw [hns] at hh ⊢
  exact PySem.Calls.evalArgs_plain hh

theorem Ev.callB {x : Str} {id : String} {np : Pos} {es : List Expr} {ds : List Dat} (hf : EvS f O ρ (.Name x np) (.val (.builtin id))) (ha : EvL f O ρ (e :: es) ds) (h : OpN f O ρ (fun vs => call (.builtin id) vs) ds d)
    (hns : starEach (e :: es) f.env = (false, eval e f.env) :: starEach es f.env := by rfl) (hpl : (backTo pos (starEach (e :: es) f.env)).any (·.1) = false := by rfl) : Ev f O ρ (.Call (.Name x np) (e :: es) [] pos) d := by
  first | apply Ev.mk | apply EvS.mk | apply Tr.mk | apply EvL.mk | apply Ex.mk | apply ExS.mk | apply It.mk | skip
  intro s Q E st k
  refine wpAny_Call_NameR (hf.run s _ _ st fun fv s₁ m₁ h₁ => ?_)
  have h₁' : fv = .builtin id := h₁
  subst h₁'
  refine PySem.Calls.callWith_builtin hpl (ha.args (st.mv m₁) hns fun vs s₂ m₂ h₂ => ?_)
  exact h s₂ vs _ _ (st.mv (m₁.trans m₂)) h₂ fun v s₃ m₃ h₃ => k v s₃ (m₁.trans (m₂.trans m₃)) h₃
theorem Ev.callT {x : Str} {id : String} {np : Pos} {es : List Expr} {ds : List Dat} (hf : EvS f O ρ (.Name x np) (.val (.type id))) (ha : EvL f O ρ (e :: es) ds) (h : OpN f O ρ (fun vs => call (.type id) vs) ds d)
    (hns : starEach (e :: es) f.env = (false, eval e f.env) :: starEach es f.env := by rfl) (hpl : (backTo pos (starEach (e :: es) f.env)).any (·.1) = false := by rfl) : Ev f O ρ (.Call (.Name x np) (e :: es) [] pos) d := by
  first | apply Ev.mk | apply EvS.mk | apply Tr.mk | apply EvL.mk | apply Ex.mk | apply ExS.mk | apply It.mk | skip
  intro s Q E st k
  refine wpAny_Call_NameR (hf.run s _ _ st fun fv s₁ m₁ h₁ => ?_)
  have h₁' : fv = .type id := h₁
  subst h₁'
  refine PySem.callWith_type hpl (ha.args (st.mv m₁) hns fun vs s₂ m₂ h₂ => ?_)
  exact h s₂ vs _ _ (st.mv (m₁.trans m₂)) h₂ fun v s₃ m₃ h₃ => k v s₃ (m₁.trans (m₂.trans m₃)) h₃
/-- a def of the text is called -/
theorem Ev.callF {x : Str} {fa : Addr} {o : Obj} {fd : FuncData} {np : Pos} {es : List Expr} {ds : List Dat} (hf : EvS f O ρ (.Name x np) (.val (.ref fa))) (ho : f.G.get? fa = some o) (hod : o.data = .func fd) (ha : EvL f O ρ (e :: es) ds) (h : OpN f O ρ (fun vs => call (.ref fa) vs) ds d)
    (hns : starEach (e :: es) f.env = (false, eval e f.env) :: starEach es f.env := by rfl) : Ev f O ρ (.Call (.Name x np) (e :: es) [] pos) d := by
  first | apply Ev.mk | apply EvS.mk | apply Tr.mk | apply EvL.mk | apply Ex.mk | apply ExS.mk | apply It.mk | skip
  intro s Q E st k
  refine wpAny_Call_NameR (hf.run s _ _ st fun fv s₁ m₁ h₁ => ?_)
  have h₁' : fv = .ref fa := h₁
  subst h₁'
  refine PySem.Calls.callWith_function (o := o) (fd := fd) (ha.args (st.mv m₁) hns fun vs s₂ m₂ h₂ => ⟨⟨(st.mv (m₁.trans m₂)).bel.stays _ _ ho, hod⟩, ?_⟩)
  exact h s₂ vs _ _ (st.mv (m₁.trans m₂)) h₂ fun v s₃ m₃ h₃ => k v s₃ (m₁.trans (m₂.trans m₃)) h₃

/-! ### contracts -/
/-- what a call of a def asks: the frames, the room -/
structure Pre (mg mb : Str → Option Value) (G : Heap) (lvl : Nat) (A : Around) (outer : List Env) (V : List Addr) (s : Shared) : Prop where
  bel : Bel A G outer s.heap
  hh : A.handled = none
  dep : A.depth + lvl < recursionLimit
  uni : A.units + 40 * lvl + 100 < cLine
  bas : Bas mg mb G
  frD : FrD s.heap (outer.filterMap (·.frame))
  v0 : ∀ a ∈ V, ∃ o, s.heap.get? a = some o
  tab : TabsIn G s.heap
def Con (prog : Program) (w : World) (mg mb : Str → Option Value) (G : Heap) (lvl : Nat) (fa : Addr) (R : List Dat → Dat → Prop) : Prop :=
  ∀ (A : Around) (outer : List Env) (V : List Addr) (s : Shared) (vs : List Value) (ds : List Dat) (d : Dat) (Q E : Value → Shared → Prop), Pre mg mb G lvl A outer V s → HasL V s.heap vs ds → R ds d →
    (∀ v s', Mv G (outer.filterMap (·.frame)) s s' → Has V s'.heap v d → Q v s') → wpAny (model prog w) A (call (.ref fa) vs) Q E s
theorem OpN.con {lvl : Nat} {fa : Addr} {R : List Dat → Dat → Prop} {ds : List Dat} (C : Con f.prog f.w f.mg f.mb f.G lvl fa R) (hR : R ds d) (hd : f.A.depth + lvl < recursionLimit) (hu : f.A.units + 40 * lvl + 100 < cLine) : OpN f O ρ (fun vs => call (.ref fa) vs) ds d := by
  intro s vs Q E st hv k
  refine C f.A f.outer (f.V O) s vs ds d Q E ⟨st.bel, st.ok.hh, hd, hu, st.ok.bas, st.frD, fun a ha => ?_, st.tab⟩ hv hR k
  rcases List.mem_append.mp ha with ha | ha
  · obtain ⟨p, hp, rfl⟩ := List.mem_map.mp ha
    obtain ⟨vs, ⟨n, e⟩, _⟩ := st.own p hp
    exact ⟨_, e⟩
  · exact st.v0 a ha
end
end Mine

namespace Mine

/-! ## statements -/
inductive Ot where
  | next (O : List (Addr × List Dat)) (ρ : List (Str × Slot))
  | brk (O : List (Addr × List Dat)) (ρ : List (Str × Slot))
  | cont (O : List (Addr × List Dat)) (ρ : List (Str × Slot))
  | ret (d : Dat)
def Out (f : Fm) (Φ : Ot → Prop) (fl : Flow) (s' : Shared) : Prop :=
  match fl with
  | .next => ∃ O' ρ', Φ (.next O' ρ') ∧ St f O' ρ' s'
  | .brk => ∃ O' ρ', Φ (.brk O' ρ') ∧ St f O' ρ' s'
  | .cont => ∃ O' ρ', Φ (.cont O' ρ') ∧ St f O' ρ' s'
  | .ret v => ∃ d, Φ (.ret d) ∧ Has f.V₀ s'.heap v d ∧ Mv f.G f.Wc f.s₀ s'
@[irreducible] def Ex (f : Fm) (O : List (Addr × List Dat)) (ρ : List (Str × Slot)) (b : List Stmt) (Φ : Ot → Prop) : Prop :=
  ∀ (s : Shared) (E : Value → Shared → Prop), St f O ρ s → wpAny f.M f.A (execs b f.env) (Out f Φ) E s
theorem Ex.mk {f : Fm} {O : List (Addr × List Dat)} {ρ : List (Str × Slot)} {b : List Stmt} {Φ : Ot → Prop} (h : ∀ (s : Shared) (E : Value → Shared → Prop), St f O ρ s → wpAny f.M f.A (execs b f.env) (Out f Φ) E s) : Ex f O ρ b Φ := by
  unfold Ex; exact h
theorem Ex.run {f : Fm} {O : List (Addr × List Dat)} {ρ : List (Str × Slot)} {b : List Stmt} {Φ : Ot → Prop} (h : Ex f O ρ b Φ) : ∀ (s : Shared) (E : Value → Shared → Prop), St f O ρ s → wpAny f.M f.A (execs b f.env) (Out f Φ) E s := by
  unfold Ex at h; exact h
@[irreducible] def ExS (f : Fm) (O : List (Addr × List Dat)) (ρ : List (Str × Slot)) (b : Stmt) (Φ : Ot → Prop) : Prop :=
  ∀ (s : Shared) (E : Value → Shared → Prop), St f O ρ s → wpAny f.M f.A (exec b f.env) (Out f Φ) E s
theorem ExS.mk {f : Fm} {O : List (Addr × List Dat)} {ρ : List (Str × Slot)} {b : Stmt} {Φ : Ot → Prop} (h : ∀ (s : Shared) (E : Value → Shared → Prop), St f O ρ s → wpAny f.M f.A (exec b f.env) (Out f Φ) E s) : ExS f O ρ b Φ := by
  unfold ExS; exact h
theorem ExS.run {f : Fm} {O : List (Addr × List Dat)} {ρ : List (Str × Slot)} {b : Stmt} {Φ : Ot → Prop} (h : ExS f O ρ b Φ) : ∀ (s : Shared) (E : Value → Shared → Prop), St f O ρ s → wpAny f.M f.A (exec b f.env) (Out f Φ) E s := by
  unfold ExS at h; exact h
def thenR (f : Fm) (rest : List Stmt) (Φ : Ot → Prop) : Ot → Prop
  | .next O ρ => Ex f O ρ rest Φ
  | .brk O ρ => Φ (.brk O ρ)
  | .cont O ρ => Φ (.cont O ρ)
  | .ret d => Φ (.ret d)

section
variable {f : Fm} {O : List (Addr × List Dat)} {ρ : List (Str × Slot)} {e l r t value : Expr} {pos p : Pos} {a b c d : Dat} {Φ Ψ : Ot → Prop} {stm : Stmt} {rest : List Stmt}

theorem Out.mono {fl : Flow} {s' : Shared} (h : ∀ o, Φ o → Ψ o) (x : Out f Φ fl s') : Out f Ψ fl s' := by
  cases fl <;> (unfold Out at x ⊢)
  · obtain ⟨O', ρ', a, b⟩ := x; exact ⟨O', ρ', h _ a, b⟩
  · obtain ⟨O', ρ', a, b⟩ := x; exact ⟨O', ρ', h _ a, b⟩
  · obtain ⟨O', ρ', a, b⟩ := x; exact ⟨O', ρ', h _ a, b⟩
  · obtain ⟨d, a, b⟩ := x; exact ⟨d, h _ a, b⟩
theorem Ex.mono {b : List Stmt} (h : Ex f O ρ b Φ) (hi : ∀ o, Φ o → Ψ o) : Ex f O ρ b Ψ := by
  first | apply Ex.mk | apply ExS.mk
  exact fun s E st => wpAny_mono (h.run s E st) (fun _ _ x => x.mono hi) fun _ _ x => x
theorem Ex.nilX (h : Φ (.next O ρ)) : Ex f O ρ [] Φ := by
  first | apply Ex.mk | apply ExS.mk
  exact fun s E st => wpAny_execs_nil ⟨O, ρ, h, st⟩
theorem Ex.consX (h : ExS f O ρ stm (thenR f rest Φ)) : Ex f O ρ (stm :: rest) Φ := by
  first | apply Ev.mk | apply EvS.mk | apply Tr.mk | apply EvL.mk | apply Ex.mk | apply ExS.mk | apply It.mk | skip
  intro s E st
  refine wpAny_execs_cons (wpAny_mono (h.run s E st) (fun fl s' x => ?_) fun _ _ x => x)
  cases fl with
  | next => obtain ⟨O', ρ', a, b⟩ := x; exact (show Ex f O' ρ' rest Φ from a).run s' E b
  | brk => exact x
  | cont => exact x
  | ret v => exact x
/-- fewer names -/
theorem Ex.weak {ρ' : List (Str × Slot)} {b : List Stmt} (h : Ex f O ρ' b Φ) (hw : ∀ y sl, ρ'.lookup y = some sl → ρ.lookup y = some sl) : Ex f O ρ b Φ := by
  first | apply Ex.mk | apply ExS.mk
  exact fun s E st => h.run s E (st.weak hw)

theorem ExS.ret (h : Ev f O ρ e d) (hΦ : Φ (.ret d)) : ExS f O ρ (.Return (some e) pos) Φ := by
  first | apply Ev.mk | apply EvS.mk | apply Tr.mk | apply EvL.mk | apply Ex.mk | apply ExS.mk | apply It.mk | skip
  intro s E st
  refine wpAny_Return_some (h.run s _ _ st fun v s' m hv => ⟨d, hΦ, hv.keep ?_, (st.mv m).frm⟩)
  have : ∀ a, a ∉ f.V O → a ∉ f.V₀ := fun a ha h => ha (List.mem_append.mpr (.inr h))
  exact ⟨fun a items ha hi => ⟨hi, this a ha⟩, fun a items ha hi => ⟨hi, this a ha⟩⟩
theorem ExS.retOwn {ad : Addr} {ds : List Dat} (h : EvS f O ρ e (.val (.ref ad))) (ho : (ad, ds) ∈ O) (hΦ : Φ (.ret (.list ds))) : ExS f O ρ (.Return (some e) pos) Φ := by
  first | apply Ev.mk | apply EvS.mk | apply Tr.mk | apply EvL.mk | apply Ex.mk | apply ExS.mk | apply It.mk | skip
  intro s E st
  refine wpAny_Return_some (h.run s _ _ st fun v s' m hv => ?_)
  have hv' : v = .ref ad := hv
  subst hv'
  have st' := st.mv m
  obtain ⟨vs, i1, hl⟩ := st'.own _ ho
  refine ⟨.list ds, hΦ, .list i1 (st'.oV _ ho) (hl.keep ?_), st'.frm⟩
  have : ∀ a, a ∉ f.V O → a ∉ f.V₀ := fun a ha h => ha (List.mem_append.mpr (.inr h))
  exact ⟨fun a items ha hi => ⟨hi, this a ha⟩, fun a items ha hi => ⟨hi, this a ha⟩⟩

/-- a name that the block may bind -/
abbrev Binds (f : Fm) (x : Str) : Prop := f.env.kindOf x = some .local ∨ (f.own = true ∧ f.env.kindOf x = some .cell ∧ ∃ c, f.env.cells.lookup x = some c)
theorem ExS.assignS {x : Str} {px : Pos} {sl : Slot} (hk : Binds f x) (h : EvS f O ρ e sl) (hΦ : Φ (.next O (put ρ x sl))) (hs : swapsWith e (some (.Name x px)) pos.line f.env = pure false := by rfl) : ExS f O ρ (.Assign [.Name x px] e pos) Φ := by
  first | apply Ev.mk | apply EvS.mk | apply Tr.mk | apply EvL.mk | apply Ex.mk | apply ExS.mk | apply It.mk | skip
  intro s E st
  refine wpAny_Assign_Name (h.run s _ _ st fun v s' m hv => ?_) hs
  exact St.bind (st.mv m) hk hv fun s₂ st₂ => ⟨_, _, hΦ, st₂⟩
theorem ExS.assign {x : Str} {px : Pos} (hk : Binds f x) (h : Ev f O ρ e d) (hΦ : Φ (.next O (put ρ x (.dat d)))) (hs : swapsWith e (some (.Name x px)) pos.line f.env = pure false := by rfl) : ExS f O ρ (.Assign [.Name x px] e pos) Φ := ExS.assignS (sl := .dat d) hk (Ev.slot h) hΦ hs

theorem ExS.ifX {v : Bool} {b1 b2 : List Stmt} (ht : Tr f O ρ t v) (h1 : v = true → Ex f O ρ b1 Φ) (h2 : v = false → Ex f O ρ b2 Φ) : ExS f O ρ (.If t b1 b2 pos) Φ := by
  first | apply Ev.mk | apply EvS.mk | apply Tr.mk | apply EvL.mk | apply Ex.mk | apply ExS.mk | apply It.mk | skip
  intro s E st
  refine wpAny_If (ht.run s _ _ st fun s' m => ?_)
  cases v with
  | true => exact (h1 rfl).run s' E (st.mv m)
  | false => exact (h2 rfl).run s' E (st.mv m)
theorem ExS.brkX (h : Φ (.brk O ρ)) : ExS f O ρ (.Break pos) Φ := by
  first | apply Ex.mk | apply ExS.mk
  exact fun s E st => wpAny_bind (wpAny_standAt (wpAny_pure ⟨O, ρ, h, st⟩))

/-! ### lists of the block's own -/
theorem V_set {i : Nat} {ad : Addr} {ds ds' : List Dat} (hi : O[i]? = some (ad, ds)) : f.V (O.set i (ad, ds')) = f.V O := by
  show (O.set i (ad, ds')).map (·.1) ++ _ = _
  rw [List.map_set]
  congr 1
  have : (O.map (·.1))[i]? = some ad := by simp [hi]
  obtain ⟨h1, h2⟩ := List.getElem?_eq_some_iff.mp this
  rw [← h2, List.set_getElem_self]
theorem St.ownSet {s : Shared} {i : Nat} {ad : Addr} {ds ds' : List Dat} {vs' : List Value} {h' : Heap} (st : St f O ρ s) (hi : O[i]? = some (ad, ds)) (hs : Heap.SameBut ad s.heap h') (hp : h'.PlainList ad vs'.toArray) (hl : HasL (f.V O) s.heap vs' ds') :
    St f (O.set i (ad, ds')) ρ { s with heap := h' } := by
  have hm : (ad, ds) ∈ O := List.mem_of_getElem? hi
  have hV := V_set (f := f) (ds' := ds') hi
  have haV : ad ∈ f.V O := List.mem_append.mpr (.inl (List.mem_map.mpr ⟨_, hm, rfl⟩))
  obtain ⟨vs0, ⟨n0, e0⟩, _⟩ := st.own _ hm
  obtain ⟨n1, e1⟩ := id hp
  have dk : DKeep (f.V O) (f.V O) s.heap h' := dkeep_at hs (.inl haV)
  have fO := st.fO _ hm
  refine { ok := st.ok, bel := bel_at st.ok st.bel fO hs (fun o e _ => ⟨_, e1, fun vs q => nomatch q⟩), frm := frm_at (tk := s.toks) st.frm fO hs ⟨_, e0, fun vs h => nomatch h⟩, loc := ?_, cel := fun n c hc => ?_, vars := fun y sl hy => ?_, own := fun p hpO => ?_,
           nod := ?_, fO := fun p hpO => ?_, v0 := fun a ha => let ⟨_, e⟩ := st.v0 a ha; there_at hs ⟨_, e1⟩ e, frD := frD_at st.frD hs (fun ⟨o, es, ep, e, d⟩ => ?_), kep := fun p hpK => ?_, dat := fun p hp => by rw [hV]; exact (st.dat p hp).keep dk, oV := fun p hp => ?_, tab := tab_at st.tab hs ⟨_, e0, fun vs h => nomatch h⟩ }
  · obtain ⟨m, hn⟩ := st.loc
    refine ⟨m, hn.sameBut hs ?_⟩
    rintro rfl
    obtain ⟨o, es, ep, e, d, _⟩ := hn
    rw [e0] at e; cases e; cases d
  · obtain ⟨v, q⟩ := st.cel n c hc
    refine ⟨v, q.sameBut hs ?_⟩
    rintro rfl
    obtain ⟨o, e, d⟩ := q
    rw [e0] at e; cases e; cases d
  · obtain ⟨v, hv, q⟩ := st.vars y sl hy
    rw [hV]
    refine ⟨v, ?_, q.keep dk⟩
    rcases hv with ⟨k1, m1, n1', e1'⟩ | ⟨k1, c1, l1, e1'⟩
    · refine .inl ⟨k1, m1, n1'.sameBut hs ?_, e1'⟩
      intro hq
      obtain ⟨o, es, ep, e, d, _⟩ := n1'
      rw [hq, e0] at e; cases e; cases d
    · refine .inr ⟨k1, c1, l1, e1'.sameBut hs ?_⟩
      intro hq
      obtain ⟨o, e, d⟩ := e1'
      rw [hq, e0] at e; cases e; cases d
  · rw [hV]
    obtain ⟨j, hj, hje⟩ := List.getElem_of_mem hpO
    rw [List.getElem_set] at hje
    split at hje
    · subst hje
      exact ⟨vs', hp, hl.keep dk⟩
    · rename_i hne
      have hj' : j < O.length := by simpa using hj
      have hpm : p ∈ O := hje ▸ List.getElem_mem hj'
      obtain ⟨vs, ⟨n, e⟩, q⟩ := st.own p hpm
      refine ⟨vs, ⟨n, hs.extBut _ _ ?_ e⟩, q.keep dk⟩
      intro hpa
      obtain ⟨hi1, hi2⟩ := List.getElem?_eq_some_iff.mp hi
      have hnd := st.nod
      have h1 : (O.map (·.1))[i]'(by simpa using hi1) = (O.map (·.1))[j]'(by simpa using hj') := by simp [hi2, hje, hpa]
      exact hne ((List.getElem_inj hnd).mp h1)
  · have : (O.set i (ad, ds')).map (·.1) = O.map (·.1) := by
      have := hV
      exact List.append_cancel_right this
    rw [this]; exact st.nod
  · obtain ⟨j, hj, hje⟩ := List.getElem_of_mem hpO
    rw [List.getElem_set] at hje
    split at hje
    · subst hje; exact fO
    · exact st.fO p (hje ▸ List.getElem_mem (by simpa using hj))
  · rw [e0] at e; cases e; cases d
  · obtain ⟨e, b, c⟩ := st.kep p hpK
    have hmO : (O.set i (ad, ds')).map (·.1) = O.map (·.1) := List.append_cancel_right hV
    rw [hmO]
    refine ⟨hs.extBut _ _ ?_ e, b, c⟩
    rintro rfl
    exact c (List.mem_map.mpr ⟨_, hm, rfl⟩)
  · obtain ⟨j, hj, hje⟩ := List.getElem_of_mem hp
    rw [List.getElem_set] at hje
    split at hje
    · subst hje; exact st.oV (ad, ds) hm
    · exact st.oV p (hje ▸ List.getElem_mem (by simpa using hj))

/-- a new list becomes the block's own -/
theorem St.ownNew {s : Shared} {vs : List Value} {ds : List Dat} {n : Nat} (st : St f O ρ s) (hv : HasL (f.V O) s.heap vs ds) :
    St f ((s.heap.objs.size, ds) :: O) ρ { s with heap := s.heap.push { cls := .type "list", data := .seq vs.toArray n } } := by
  let s1 : Shared := { s with heap := s.heap.push { cls := .type "list", data := .seq vs.toArray n } }
  have m : Mv f.G f.W s s1 := .push _
  have st1 : St f O ρ s1 := st.mv m
  have dk : DKeep (f.V O) (f.V ((s.heap.objs.size, ds) :: O)) s.heap s1.heap := by
    have h0 := m.dkeep (V := f.V O)
    refine ⟨fun a items ha hi => ⟨(h0.1 a items ha hi).1, fun q => ?_⟩, fun a items ha hi => ⟨(h0.2 a items ha hi).1, fun q => ?_⟩⟩
    · rcases List.mem_cons.mp q with q | q
      · obtain ⟨o, e, _⟩ := hi
        have := Heap.lt_size e
        rw [q] at this
        exact Nat.lt_irrefl _ this
      · exact ha q
    · rcases List.mem_cons.mp q with q | q
      · obtain ⟨n, e⟩ := hi
        have := Heap.lt_size e
        rw [q] at this
        exact Nat.lt_irrefl _ this
      · exact ha q
  have lt0 : f.s₀.heap.objs.size ≤ s.heap.objs.size := by
    obtain ⟨mm, nn⟩ := st.loc
    exact Nat.le_trans st.ok.fL (Nat.le_of_lt nn.lt)
  refine { ok := st.ok, bel := st1.bel, frm := st1.frm, loc := st1.loc, cel := st1.cel, vars := fun y sl hy => ?_, own := fun p hp => ?_, nod := ?_, fO := fun p hp => ?_, v0 := st1.v0, frD := st1.frD, kep := fun p hp => ?_, dat := fun p hp => (st.dat p hp).keep dk, oV := fun p hp => ?_, tab := st1.tab }
  · obtain ⟨v, h1, h2⟩ := st.vars y sl hy
    exact ⟨v, h1.mv m, h2.keep dk⟩
  · rcases List.mem_cons.mp hp with rfl | hp
    · exact ⟨vs, ⟨n, Heap.get?_push_size _ rfl⟩, hv.keep dk⟩
    · obtain ⟨us, h1, h2⟩ := st.own p hp
      exact ⟨us, h1.mv m, h2.keep dk⟩
  · refine List.nodup_cons.mpr ⟨fun q => ?_, st.nod⟩
    exact st.freshV (List.mem_append.mpr (.inl q))
  · rcases List.mem_cons.mp hp with rfl | hp
    · exact lt0
    · exact st.fO p hp
  · obtain ⟨e, b, c⟩ := st.kep p hp
    obtain ⟨e1, _, _⟩ := st1.kep p hp
    refine ⟨e1, b, fun q => ?_⟩
    rcases List.mem_cons.mp q with q | q
    · have := Heap.lt_size e
      rw [q] at this
      exact Nat.lt_irrefl _ this
    · exact c q
  · rcases List.mem_cons.mp hp with rfl | hp
    · exact fun q => st.freshV (List.mem_append.mpr (.inr q))
    · exact st.oV p hp

theorem ExS.assignOwn {x : Str} {px : Pos} {es : List Expr} {ds : List Dat} (hk : Binds f x) (h : EvL f O ρ es ds) (hΦ : ∀ ad, Φ (.next ((ad, ds) :: O) (put ρ x (.val (.ref ad))))) (hsz : ds.length ≤ sizeLine := by first | (simp only [List.length_cons, List.length_nil]; decide) | decide)
    (hs : swapsWith (.List es p) (some (.Name x px)) pos.line f.env = pure false := by rfl) : ExS f O ρ (.Assign [.Name x px] (.List es p) pos) Φ := by
  first | apply Ev.mk | apply EvS.mk | apply Tr.mk | apply EvL.mk | apply Ex.mk | apply ExS.mk | apply It.mk | skip
  intro s E st
  refine wpAny_Assign_Name (List_ (h.run p s _ _ st fun vs s' m hv => ?_)) hs
  refine wpAny_newObj_type ?_ (by show vs.toArray.size ≤ sizeLine; simpa [hv.length] using hsz)
  have st2 := (st.mv m).ownNew (n := 0) hv
  exact St.bind (sl := .val (.ref s'.heap.objs.size)) st2 hk (show SlotIs _ _ (.val _) _ from rfl) fun s₂ st₂ => ⟨_, _, hΦ _, st₂⟩

theorem ExS.append {ap cp : Pos} {i : Nat} {ad : Addr} {ds : List Dat} {ox : Expr} (ho : EvS f O ρ ox (.val (.ref ad))) (hi : O[i]? = some (ad, ds)) (h : Ev f O ρ e d) (hsz : ds.length ≤ sizeLine) (hΦ : Φ (.next (O.set i (ad, ds ++ [d])) ρ))
    (hint : interactive f.env = false := by rfl) (hsw : swapsWith (.Call (.Attribute ox "append" ap) [e] [] cp) none pos.line f.env = pure false := by rfl)
    (hbase : attributeBase ox "append" f.env (eval ox f.env) = eval ox f.env := by rfl)
    (hfew : ((backTo cp (starEach [e] f.env)).all (fun x => !x.1) && (backToKw cp (keywordEach [] f.env)).all (fun x => x.1.isSome) && decide (([e] : List Expr).length + ([] : List Keyword).length + (if ([] : List Keyword).isEmpty then 0 else 1) < 30)) = true := by rfl)
    (hline : (ap.endLine == cp.line) = true := by rfl) (htrees : backTo cp (starEach [e] f.env) = [(false, eval e f.env)] := by rfl) : ExS f O ρ (.Expr (.Call (.Attribute ox "append" ap) [e] [] cp) pos) Φ := by
  first | apply Ev.mk | apply EvS.mk | apply Tr.mk | apply EvL.mk | apply Ex.mk | apply ExS.mk | apply It.mk | skip
  intro s E st
  refine wpAny_Expr (wpAny_Call_append hbase hfew hline htrees (ho.run s _ _ st fun v s₁ m₁ h₁ => ?_)) hint hsw
  have h₁' : v = .ref ad := h₁
  subst h₁'
  have st1 := st.mv m₁
  obtain ⟨vs, ⟨n, e1⟩, hl⟩ := st1.own _ (List.mem_of_getElem? hi)
  refine ⟨ad, vs.toArray, rfl, ⟨_, n, e1, rfl, rfl, rfl⟩, h.run s₁ _ _ st1 fun y s₂ m₂ h₂ => ?_⟩
  have st2 := st1.mv m₂
  obtain ⟨vs2, i2, hl2⟩ := st2.own _ (List.mem_of_getElem? hi)
  refine wpAny_list_append_plain (hsz := by simpa [hl2.length] using hsz) i2 fun h' hp' hs' => ?_
  refine ⟨_, _, hΦ, st2.ownSet (vs' := vs2 ++ [y]) hi hs' (by simpa using hp') (hl2.append (.one h₂))⟩

theorem setItem_last {s : Shared} {ad : Addr} {vs : List Value} {k0 : Int} {t : Tok} {v : Value} {Q : Unit → Shared → Prop} {E : Value → Shared → Prop} (il : s.heap.PlainList ad vs.toArray) (h0 : k0 < 0) (h1 : -(vs.length : Int) ≤ k0) (hsz : vs.length ≤ sizeLine)
    (k : ∀ h', h'.PlainList ad (vs.set (k0 + vs.length).toNat v).toArray → Heap.SameBut ad s.heap h' → Q () { s with heap := h' }) : wpAny f.M f.A (setItem (.ref ad) (.int k0 t) v) Q E s := by
  obtain ⟨ne, ho⟩ := id il
  have hl := il.isList
  rw [sizeLine_eq] at hsz
  unfold setItem
  try with_reducible refine wpAny_holding ?_
  first | refine wpAny_bind (wpAny_pure ?_) | skip
  refine wpAny_bind (wpAny_sequenceKey hl.typeIs (by decide) ?_)
  refine wpAny_bind (wpAny_callSpecial?_slot (name := Str.ofString "__setitem__") hl.typeIs slot_list_setitem (wpAny_call_entry slot_list_setitem hl.typeIs entry_list_setitem ?_ (args_list_setitem _ _ _)))
  show wpAny _ _ (Builtin.List.listSubscript? (.int k0 t) >>= _) _ _ s
  refine wpAny_bind (wpAny_listSubscript_int (fitsIndex_neg h0 (by omega)) ?_)
  have hidx : seqIndex? k0 vs.toArray.size = some (k0 + vs.length).toNat := by rw [List.size_toArray]; exact seqIndex_neg h0 h1
  have hlt : (k0 + vs.length).toNat < vs.length := by omega
  generalize hjj : (k0 + vs.length).toNat = j at hidx hlt k
  obtain ⟨n, rfl⟩ : ∃ n : Nat, k0 = Int.negSucc n := by
    cases k0 with
    | ofNat n => exact absurd h0 (Int.not_lt.mpr (Int.natCast_nonneg n))
    | negSucc n => exact ⟨n, rfl⟩
  have hx : vs.toArray[j]? = some vs[j] := by simp [hlt]
  show wpAny _ _ ((Builtin.List.listItems (.ref ad) >>= fun xs => pure ((seqIndex? (Int.negSucc n) xs.size).bind fun i => xs[i]?.map (i, ·))) >>= _) _ _ s
  refine wpAny_bind (wpAny_bind ?_)
  show wpAny _ _ (seqItems? (.ref ad) >>= _) _ _ s
  refine wpAny_bind (wpAny_seqItems ho rfl (wpAny_pure (wpAny_pure ?_)))
  rw [hidx]
  simp only [Option.bind_some, hx, Option.map_some]
  show wpAny _ _ (setSeqItemAt ad j v >>= _) _ _ s
  have hfin : (s.heap.update ad (Obj.mapSeq (·.setIfInBounds j v))).PlainList ad (vs.set j v).toArray := by
    refine ⟨ne, ?_⟩
    rw [Heap.get?_update_self _ ho rfl]
    simp [Obj.mapSeq]
  refine wpAny_bind (wpAny_setSeqItemAt ho rfl ?_)
  first
    | exact wpAny_bind (wpAny_pure (wpAny_pure ⟨.none, rfl, wpAny_pure (k _ hfin (Heap.SameBut.update ..))⟩))
    | exact wpAny_pure ⟨.none, rfl, wpAny_pure (k _ hfin (Heap.SameBut.update ..))⟩

theorem Ev.neg {i : Int} (h : Ev f O ρ e (.int i)) : Ev f O ρ (.UnaryOp .USub e pos) (.int (-i)) := by
  first | apply Ev.mk | apply EvS.mk | apply Tr.mk | apply EvL.mk | apply Ex.mk | apply ExS.mk | apply It.mk | skip
  intro s Q E st k
  refine UnaryOp_ (h.run s _ _ st fun v s' m hv => ?_)
  cases hv
  exact P.neg_int (k _ _ (m.trans (.toks _)) (.int _ _))

theorem HasL.set {V : List Addr} {h : Heap} {vs : List Value} {ds : List Dat} {v : Value} {d : Dat} (x : HasL V h vs ds) (y : Has V h v d) (j : Nat) : HasL V h (vs.set j v) (ds.set j d) := by
  induction vs generalizing ds j with
  | nil => cases x; exact .nil
  | cons u vs ih =>
    cases x with
    | cons a b =>
      cases j with
      | zero => exact .cons y b
      | succ j => exact .cons a (ih b j)

/-- the last item of a list of the block's own is set -/
theorem ExS.setLast {i : Nat} {ad : Addr} {ds : List Dat} {ox ix : Expr} (ho : EvS f O ρ ox (.val (.ref ad))) (hi : O[i]? = some (ad, ds)) (hix : Ev f O ρ ix (.int (-1))) (h : Ev f O ρ e d) (hne : ds ≠ []) (hsz : ds.length ≤ sizeLine) (hΦ : Φ (.next (O.set i (ad, ds.dropLast ++ [d])) ρ))
    (hs : swapsWith e (some (.Subscript ox ix p)) pos.line f.env = pure false := by rfl) : ExS f O ρ (.Assign [.Subscript ox ix p] e pos) Φ := by
  first | apply Ev.mk | apply EvS.mk | apply Tr.mk | apply EvL.mk | apply Ex.mk | apply ExS.mk | apply It.mk | skip
  intro s E st
  refine wpAny_Assign_Subscript (h.run s _ _ st fun v s₁ m₁ h₁ => ho.run s₁ _ _ (st.mv m₁) fun ov s₂ m₂ h₂ => hix.run s₂ _ _ (st.mv (m₁.trans m₂)) fun iv s₃ m₃ h₃ => ?_) hs
  have h₂' : ov = .ref ad := h₂
  subst h₂'
  cases h₃
  have st3 := st.mv (m₁.trans (m₂.trans m₃))
  obtain ⟨vs, i1, hl⟩ := st3.own _ (List.mem_of_getElem? hi)
  have hlen : 0 < ds.length := List.length_pos_iff.mpr hne
  have hlL : vs.length = ds.length := hl.length
  refine setItem_last i1 (by decide) (by rw [hlL]; omega) (by rw [hlL]; exact hsz) fun h' hp' hs' => ?_
  refine ⟨_, _, hΦ, st3.ownSet (vs' := vs.set ((-1 : Int) + vs.length).toNat v) hi hs' hp' ?_⟩
  have := HasL.set hl ((h₁.mv m₂).mv m₃) ((-1 : Int) + vs.length).toNat
  have e1 : ((-1 : Int) + vs.length).toNat = ds.length - 1 := by rw [hlL]; omega
  rw [e1] at this ⊢
  have e2 : ds.set (ds.length - 1) d = ds.dropLast ++ [d] := by
    rw [List.set_eq_take_append_cons_drop, if_pos (by omega), List.dropLast_eq_take]
    congr 1
    rw [show ds.length - 1 + 1 = ds.length by omega, List.drop_length]
  rw [e2] at this
  exact this

/-! ### loops -/
/-- the names of ρ₁ stand so in ρ too -/
def Sub (ρ₁ ρ : List (Str × Slot)) : Prop := ∀ y sl, ρ₁.lookup y = some sl → ρ.lookup y = some sl
theorem Sub.refl (ρ : List (Str × Slot)) : Sub ρ ρ := fun _ _ h => h
theorem Sub.trans {ρ₁ ρ₂ ρ₃ : List (Str × Slot)} (x : Sub ρ₁ ρ₂) (y : Sub ρ₂ ρ₃) : Sub ρ₁ ρ₃ := fun z sl h => y z sl (x z sl h)
theorem Sub.nilS (ρ : List (Str × Slot)) : Sub [] ρ := fun _ _ h => by simp at h
theorem Sub.consS {ρ₁ ρ : List (Str × Slot)} {x : Str} {sl : Slot} (h : ρ.lookup x = some sl) (hs : Sub ρ₁ ρ) : Sub ((x, sl) :: ρ₁) ρ := by
  intro y sl' hy
  rw [List.lookup_cons] at hy
  by_cases hyx : y = x
  · subst hyx
    simp only [beq_self_eq_true] at hy
    rw [h]; exact hy
  · have : (y == x) = false := by simpa using hyx
    simp only [this] at hy
    exact hs y sl' hy
/-- what a turn of a loop leaves -/
def turnR (I : Nat → List (Addr × List Dat) → List (Str × Slot) → Prop) (n : Nat) (Φ : Ot → Prop) : Ot → Prop
  | .next O ρ => ∃ m, m < n ∧ ∃ ρ₁, I m O ρ₁ ∧ Sub ρ₁ ρ
  | .cont O ρ => ∃ m, m < n ∧ ∃ ρ₁, I m O ρ₁ ∧ Sub ρ₁ ρ
  | .brk O ρ => Φ (.next O ρ)
  | .ret d => Φ (.ret d)
theorem ExS.whileX {body : List Stmt} (I : Nat → List (Addr × List Dat) → List (Str × Slot) → Prop) (n : Nat) (h0 : I n O ρ)
    (turn : ∀ n O ρ, I n O ρ → ∃ v, Tr f O ρ t v ∧ (v = false → Φ (.next O ρ)) ∧ (v = true → Ex f O ρ body (turnR I n Φ))) : ExS f O ρ (.While t body [] pos) Φ := by
  first | apply Ev.mk | apply EvS.mk | apply Tr.mk | apply EvL.mk | apply Ex.mk | apply ExS.mk | apply It.mk | skip
  intro s E st
  refine wpAny_While (codeAny_whileLoop (fun n s => ∃ O ρ, I n O ρ ∧ St f O ρ s) (fun n s ⟨O, ρ, hI, st⟩ => ?_) n ⟨O, ρ, h0, st⟩)
  obtain ⟨v, ht, hf, hb⟩ := turn n O ρ hI
  refine ht.run s _ _ st fun s' m => ?_
  cases v with
  | false => exact wpAny_execs_nil ⟨O, ρ, hf rfl, st.mv m⟩
  | true =>
    refine wpAny_mono ((hb rfl).run s' _ (st.mv m)) (fun fl s₃ x => ?_) fun _ _ x => x
    cases fl with
    | next => obtain ⟨O', ρ', ⟨m, hm, ρ₁, hI', hsub⟩, st'⟩ := x; exact ⟨m, hm, O', ρ₁, hI', st'.weak hsub⟩
    | cont => obtain ⟨O', ρ', ⟨m, hm, ρ₁, hI', hsub⟩, st'⟩ := x; exact ⟨m, hm, O', ρ₁, hI', st'.weak hsub⟩
    | brk => obtain ⟨O', ρ', hΦ, st'⟩ := x; exact ⟨O', ρ', hΦ, st'⟩
    | ret v => exact x
end
end Mine

namespace Mine

/-! ## a def's contract from its body -/
abbrev envM (scope : Scope) (cd : Value) (q : Str) (L fa : Addr) : Env := newEnv scope L mainGlobals (cellsFrom (L + 1) scope.names []) (q ++ ".<locals>.") (some fa) cd none builtinsNs
abbrev mkF (prog : Program) (w : World) (mg mb : Str → Option Value) (G : Heap) (A : Around) (env : Env) (outer : List Env) (V : List Addr) (s : Shared) : Fm :=
  { prog, w, mg, mb, G, A := A.deeper env, env, outer := env :: outer, V₀ := V, s₀ := s, Wc := outer.filterMap (·.frame) }
def retIs (d : Dat) : Ot → Prop
  | .ret d' => d' = d
  | _ => False
def parm (ps : List Str) (ds : List Dat) : List (Str × Slot) := ps.zip (ds.map Slot.dat)

theorem bindL_miss {kindOf : Str → Option NameKind} {x : Str} : ∀ (bs : List (Str × Value)) (m : Str → Option Value), x ∉ bs.map (·.1) → bindL kindOf bs m x = m x
  | [], _, _ => rfl
  | (n, v) :: r, m, h => by
    simp only [List.map_cons, List.mem_cons, not_or] at h
    unfold bindL
    rw [bindL_miss r _ h.2]
    split
    · simp [h.1]
    · rfl
theorem bindC_miss {kindOf : Str → Option NameKind} {x : Str} : ∀ (bs : List (Str × Value)) (m : Str → Option Value), x ∉ bs.map (·.1) → bindC kindOf bs m x = m x
  | [], _, _ => rfl
  | (n, v) :: r, m, h => by
    simp only [List.map_cons, List.mem_cons, not_or] at h
    unfold bindC
    rw [bindC_miss r _ h.2]
    split
    · rfl
    · simp [h.1]
theorem bind_hit {kindOf : Str → Option NameKind} {V : List Addr} {h : Heap} {x : Str} {sl : Slot} : ∀ (ps : List Str) (vs : List Value) (ds : List Dat) (m m' : Str → Option Value), ps.Nodup → HasL V h vs ds → (parm ps ds).lookup x = some sl →
    ∃ v, SlotIs V h sl v ∧ (kindOf x = some .local → bindL kindOf (ps.zip vs) m x = some v) ∧ (kindOf x ≠ some .local → bindC kindOf (ps.zip vs) m' x = some v)
  | [], _, _, _, _, _, _, hl => by simp [parm] at hl
  | p :: ps, [], _, _, _, _, hv, hl => by cases hv; simp [parm] at hl
  | p :: ps, v :: vs, [], _, _, _, hv, hl => by cases hv
  | p :: ps, v :: vs, d :: ds, m, m', hn, hv, hl => by
    obtain ⟨hp, hn⟩ := List.nodup_cons.mp hn
    cases hv with
    | cons hd hr =>
      unfold parm at hl
      simp only [List.map_cons, List.zip_cons_cons, List.lookup_cons] at hl
      by_cases hx : x = p
      · subst hx
        simp only [beq_self_eq_true] at hl
        cases hl
        have miss : x ∉ (ps.zip vs).map (·.1) := fun q => by
          obtain ⟨y, hy, rfl⟩ := List.mem_map.mp q
          exact hp (List.of_mem_zip hy).1
        refine ⟨v, hd, fun hk => ?_, fun hk => ?_⟩
        · simp only [List.zip_cons_cons, bindL, if_pos hk, bindL_miss _ _ miss]; simp
        · simp only [List.zip_cons_cons, bindC, if_neg hk, bindC_miss _ _ miss]; simp
      · have hb : (x == p) = false := by simpa using hx
        simp only [hb] at hl
        simp only [List.zip_cons_cons, bindL, bindC]
        exact bind_hit ps vs ds _ _ hn hr hl

theorem lookup_parm {ps : List Str} {ds : List Dat} {x : Str} {sl : Slot} (h : (parm ps ds).lookup x = some sl) : x ∈ ps := by
  have := mem_of_lookup h
  exact (List.of_mem_zip this).1

theorem Con.of_def {prog : Program} {w : World} {mg mb : Str → Option Value} {G : Heap} {lvl : Nat} {fa : Addr} {o : Obj} {fd : FuncData} {body : List Stmt} {R : List Dat → Dat → Prop} (ps : List Str)
    (ho : G.get? fa = some o) (hdata : o.data = .func fd) (hcd : G.CodeRec fd.code fd.qualname) (hbody : fd.body = .stmts body) (hclo : fd.closure = []) (hgl : fd.globals = mainGlobals) (hbi : fd.builtins = builtinsNs)
    (hbind : ∀ vs : List Value, vs.length = ps.length → bindArgs fd ⟨vs, []⟩ = pure (ps.zip vs)) (hnd : ps.Nodup)
    (hkind : ps.all (fun p => fd.scope.names.lookup p == some .local || fd.scope.names.lookup p == some .cell) = true)
    (hR : ∀ ds d, R ds d → ds.length = ps.length) (hlvl : 1 ≤ lvl)
    (hco : fd.scope.isCoroutine = false) (hgen : fd.scope.isGenerator = false) (hk : fd.scope.kind = .function)
    (h : ∀ (A : Around) (L : Addr) (outer : List Env) (V : List Addr) (s : Shared), A.depth + lvl < recursionLimit → A.units + 40 * lvl + 100 < cLine → ∀ ds d, R ds d →
      Ex (mkF prog w mg mb G A (envM fd.scope fd.code fd.qualname L fa) outer V s) [] (parm ps ds) body (retIs d)) : Con prog w mg mb G lvl fa R := by
  intro A outer V s vs ds d Q E pre hv hr k
  have hlen : vs.length = ps.length := hv.length.trans (hR ds d hr)
  have hkd : ∀ x ∈ ps, fd.scope.names.lookup x = some .local ∨ fd.scope.names.lookup x = some .cell := fun x hx => by
    have := List.all_eq_true.mp hkind x hx
    simpa using this
  have hce : ∀ (n : Nat) (x : Str), fd.scope.names.lookup x = some .cell → ((cellsFrom n fd.scope.names []).lookup x).isSome = true := fun n x hx => cellsFrom_some _ _ _ (.inl hx)
  refine wpAny_call (codeAny_call_cells (binds := ps.zip vs) (by have := pre.dep; omega) (pre.bel.stays _ _ ho) hdata (pre.bas.lim.keeps pre.bel.stays) (hcd.keeps pre.bel.stays) hbody (hbind vs hlen) hclo
    (fun x hx => (hkd x.1 (List.of_mem_zip hx).1).imp id fun q => ⟨q, hce _ _ q⟩) (fun s₁ IC => ?_) hco hgen hk)
  have henv : callEnvC fd s.heap.objs.size fa = envM fd.scope fd.code fd.qualname s.heap.objs.size fa := by
    unfold callEnvC envM; rw [hgl, hbi]
  rw [henv] at IC ⊢
  generalize hE : envM fd.scope fd.code fd.qualname s.heap.objs.size fa = env at IC ⊢
  have hloc : env.locals = s.heap.objs.size := by rw [← hE]; rfl
  have hfr : env.frame = some s.heap.objs.size := by rw [← hE]; rfl
  have hsc : env.scope = fd.scope := by rw [← hE]; rfl
  have hcl : env.cells = cellsFrom (s.heap.objs.size + 1) fd.scope.names [] := by rw [← hE]; rfl
  have hkk : ∀ x, env.kindOf x = fd.scope.names.lookup x := fun x => by show env.scope.names.lookup x = _; rw [hsc]
  have noG : G.get? s.heap.objs.size = none := pre.bel.stays.fresh
  obtain ⟨oL, es, ep, eL, dL, rL⟩ := id IC.toInCall.ns
  rw [hloc] at eL
  have keep := IC.toInCall.keep
  obtain ⟨h1, tk1, e1⟩ := IC.toInCall.same
  have mv1 : Mv G (outer.filterMap (·.frame)) s s₁ := by
    rw [e1]
    refine Mv.of_keep fun b o e => ?_
    have := keep b o e
    rw [e1] at this
    exact this
  have ex := h A s.heap.objs.size outer V s pre.dep pre.uni ds d hr
  rw [hE] at ex
  have st : St (mkF prog w mg mb G A env outer V s) [] (parm ps ds) s₁ := by
    refine { ok := ⟨pre.hh, by rw [hsc]; exact hk, by rw [← hE]; rfl, by rw [← hE]; rfl, pre.bas, pre.bel.stays, by rw [hloc]; exact Nat.le_refl _, IC.apart, fun _ n c hc => by have := IC.above n c hc; rw [hloc] at this; exact Nat.le_of_lt this, fun a ha => ?_⟩,
             bel := ⟨trivial, fun b o e => keep b o (pre.bel.stays b o e), ?_⟩, frm := mv1, loc := ⟨_, IC.toInCall.ns⟩, cel := fun n c hc => ⟨_, IC.cell n c hc⟩, vars := fun x sl hx => ?_, own := fun p hp => (nomatch hp), nod := List.nodup_nil, fO := fun p hp => (nomatch hp),
             v0 := fun a ha => let ⟨o, e⟩ := pre.v0 a ha; ⟨o, keep a o e⟩, frD := fun a ha => ?_, kep := fun p hp => (nomatch hp), dat := fun p hp => (nomatch hp), oV := fun p hp => (nomatch hp), tab := mv1.tabs pre.tab }
    · have : (env :: outer).filterMap (·.frame) = s.heap.objs.size :: outer.filterMap (·.frame) := by simp [List.filterMap_cons, hfr]
      rw [show (mkF prog w mg mb G A env outer V s).W = (env :: outer).filterMap (·.frame) from rfl, this] at ha
      rcases List.mem_cons.mp ha with rfl | ha
      · exact .inr (Nat.le_refl _)
      · exact .inl ha
    · refine ⟨by rw [hsc, hk]; decide, ⟨s.heap.objs.size, oL, hfr, noG, eL, fun vs q => by rw [dL] at q; cases q⟩, pre.bel.frames.of_keeps fun b o e _ => ⟨o, keep b o e, rfl⟩⟩
    · obtain ⟨v, hv1, hv2, hv3⟩ := bind_hit (kindOf := env.kindOf) ps vs ds (fun _ => none) (fun _ => none) hnd hv hx
      have hmem := lookup_parm hx
      refine ⟨v, ?_, hv1.keep mv1.dkeep⟩
      rcases hkd x hmem with q | q
      · exact .inl ⟨by rw [hkk]; exact q, _, IC.toInCall.ns, hv2 (by rw [hkk]; exact q)⟩
      · refine .inr ⟨.inl (by rw [hkk]; exact q), ?_⟩
        obtain ⟨c, hc⟩ := Option.isSome_iff_exists.mp (hce (s.heap.objs.size + 1) x q)
        have hc' : env.cells.lookup x = some c := by rw [hcl]; exact hc
        refine ⟨c, hc', ?_⟩
        have := IC.cell x c hc'
        rw [hv3 (by rw [hkk, q]; decide)] at this
        exact this
    · have : (env :: outer).filterMap (·.frame) = s.heap.objs.size :: outer.filterMap (·.frame) := by simp [List.filterMap_cons, hfr]
      rw [show (mkF prog w mg mb G A env outer V s).W = (env :: outer).filterMap (·.frame) from rfl, this] at ha
      rcases List.mem_cons.mp ha with rfl | ha
      · exact ⟨oL, es, ep, eL, dL⟩
      · obtain ⟨o, es', ep', e, d'⟩ := pre.frD a ha
        exact ⟨o, es', ep', keep a o e, d'⟩
  refine wpAny_mono (ex.run s₁ _ st) (fun fl s' hq => ?_) fun _ _ x => x
  cases fl with
  | next => obtain ⟨_, _, hf, _⟩ := hq; exact absurd hf id
  | brk => obtain ⟨_, _, hf, _⟩ := hq; exact absurd hf id
  | cont => obtain ⟨_, _, hf, _⟩ := hq; exact absurd hf id
  | ret v =>
    obtain ⟨d', hd', hv', hm'⟩ := hq
    have : d' = d := hd'
    subst this
    exact k v s' hm' hv'

end Mine

namespace Mine
theorem boot_len : bootBuiltins (Str.ofString "len") = some (.builtin "len") := by decide +kernel
theorem boot_chr : bootBuiltins (Str.ofString "chr") = some (.builtin "chr") := by decide +kernel
theorem boot_range : bootBuiltins (Str.ofString "range") = some (.type "range") := by decide +kernel
theorem boot_zip : bootBuiltins (Str.ofString "zip") = some (.type "zip") := by decide +kernel
theorem boot_enumerate : bootBuiltins (Str.ofString "enumerate") = some (.type "enumerate") := by decide +kernel
theorem boot_sum : bootBuiltins (Str.ofString "sum") = some (.builtin "sum") := by decide +kernel
theorem boot_list : bootBuiltins (Str.ofString "list") = some (.type "list") := by decide +kernel
theorem boot_str : bootBuiltins (Str.ofString "str") = some (.type "str") := by decide +kernel
theorem boot_iter : bootBuiltins (Str.ofString "iter") = some (.builtin "iter") := by decide +kernel
theorem boot_next : bootBuiltins (Str.ofString "next") = some (.builtin "next") := by decide +kernel

section
variable {f : Fm} {O : List (Addr × List Dat)} {ρ : List (Str × Slot)} {e : Expr} {i : Int} {rest : List Stmt} {Φ : Ot → Prop} {ds : List Dat} {d : Dat}
theorem thenN (h : Ex f O ρ rest Φ) : thenR f rest Φ (.next O ρ) := h
theorem EvP.no : EvP f O ρ Option.none Option.none := True.intro
theorem EvP.yes (h : Ev f O ρ e (.int i)) : EvP f O ρ (some e) (some i) := h
theorem OpN.lenStr {x : Str} (hx : x.length ≤ sizeLine) : OpN f O ρ (fun vs => call (.builtin "len") vs) [.str x] (.int x.length) := by
  intro s vs Q E st hv k
  cases hv with
  | cons h1 h2 =>
    cases h2; cases h1
    rw [sizeLine_eq] at hx
    exact P.len_str (by omega) (k _ _ (.toks _) (.int _ _))
theorem OpN.lenList (hx : ds.length ≤ sizeLine) : OpN f O ρ (fun vs => call (.builtin "len") vs) [.list ds] (.int ds.length) := by
  intro s vs Q E st hv k
  cases hv with
  | cons h1 h2 =>
    cases h2
    cases h1 with
    | list i1 n1 hl =>
      rw [sizeLine_eq] at hx
      refine PySem.Calls.call_len_list i1.isList (by simp [hl.length]; omega) ?_
      rw [List.size_toArray, hl.length]
      exact k _ _ (.toks _) (.int _ _)
theorem OpN.chr {n : Int} (h0 : 0 ≤ n) (h1 : n ≤ 0x10FFFF) : OpN f O ρ (fun vs => call (.builtin "chr") vs) [.int n] (.str (S [n.toNat])) := by
  intro s vs Q E st hv k
  cases hv with
  | cons h1 h2 =>
    cases h2; cases h1
    exact P.chr_of_int (by simp; omega) (k _ _ (.toks _) (.str _ _))

theorem sl_upto {α : Type} (l : List α) (n : Nat) : sl l none (some (n : Int)) = l.take n := by
  simp only [sl, Option.elim, clipAt_nat, List.drop_zero, Nat.sub_zero]
  rcases Nat.le_total n l.length with h | h
  · rw [Nat.min_eq_left h]
  · rw [Nat.min_eq_right h, List.take_of_length_le (Nat.le_refl _), List.take_of_length_le h]
theorem sl_from {α : Type} (l : List α) (n : Nat) : sl l (some (n : Int)) none = l.drop n := by
  simp only [sl, Option.elim, clipAt_nat]
  rcases Nat.le_total n l.length with h | h
  · rw [Nat.min_eq_left h, List.take_of_length_le (by simp)]
  · rw [Nat.min_eq_right h, List.drop_of_length_le (by omega), List.drop_of_length_le (by omega)]; simp
theorem sl_run {α : Type} (l : List α) (m n : Nat) (h : m ≤ n) : sl l (some (m : Int)) (some (n : Int)) = (l.drop m).take (n - m) := by
  simp only [sl, Option.elim, clipAt_nat]
  rcases Nat.le_total m l.length with h1 | h1
  · rw [Nat.min_eq_left h1]
    rcases Nat.le_total n l.length with h2 | h2
    · rw [Nat.min_eq_left h2]
    · rw [Nat.min_eq_right h2, List.take_of_length_le (by simp), List.take_of_length_le (by simp; omega)]
  · rw [Nat.min_eq_right h1, List.drop_of_length_le (by omega), List.drop_of_length_le (by omega)]; simp
end

/-! ### parse257 -/
def scan : List Nat → List Nat
  | [] => []
  | c :: r => if c = 34 then (match r with | d :: r' => if d = 34 then 34 :: scan r' else [] | [] => []) else c :: scan r
theorem scan_nil : scan [] = [] := by simp [scan]
theorem scan_qq (r : List Nat) : scan (34 :: 34 :: r) = 34 :: scan r := by simp [scan]
theorem scan_q (r : List Nat) (h : r.head? ≠ some 34) : scan (34 :: r) = [] := by
  cases r with
  | nil => simp [scan]
  | cons d r =>
    have : ¬ d = 34 := fun e => h (by simp [e])
    simp [scan, this]
theorem scan_ne {c : Nat} (r : List Nat) (h : ¬ c = 34) : scan (c :: r) = c :: scan r := by
  cases r <;> simp [scan, h]
def p257 (l : List Nat) : List Nat := if (l.drop 3).take 2 = [32, 34] then scan (l.drop 5) else []
def R257 (ds : List Dat) (d : Dat) : Prop := ∃ l : List Nat, ds = [.str (S l)] ∧ l.length ≤ 1000000 ∧ l.take 3 = [50, 53, 55] ∧ d = .str (S (p257 l))
/-- what the loop has read at place i -/
def Inv257 (l : List Nat) (k : Nat) (O : List (Addr × List Dat)) (ρ : List (Str × Slot)) : Prop :=
  O = [] ∧ ∃ (i : Nat) (acc : List Nat), i ≤ l.length ∧ k = l.length - i ∧ acc.length ≤ i ∧ acc ++ scan (l.drop i) = scan (l.drop 5) ∧
    ρ = [(Str.ofString "resp", .dat (.str (S l))), (Str.ofString "dirname", .dat (.str (S acc))), (Str.ofString "i", .dat (.int i)), (Str.ofString "n", .dat (.int l.length))]
end Mine

namespace Mine

/-! ## iterators -/
structure Itr (prog : Program) (w : World) (A : Around) (V : List Addr) (it : Value) (tgt : Expr) (vs : List Value) (es ds : List Dat) (J : Nat → Heap → Prop) (fp wr : List Addr) : Prop where
  sub : ∀ b ∈ wr, b ∈ fp
  frame : ∀ i h h', J i h → (∀ b ∈ fp, ∀ o, h.get? b = some o → h'.get? b = some o) → J i h'
  fpOk : ∀ i h, J i h → ∀ b ∈ fp, ∀ o, h.get? b = some o → KeepOk o
  ex : ∀ i h, J i h → ∀ b ∈ fp, ∃ o, h.get? b = some o
  item : ∀ (i : Nat) (d : Dat) (s : Shared) (Q : Value → Shared → Prop) (E : Value → Shared → Prop), ds[i]? = some d → J i s.heap → HasL V s.heap vs es → (∀ a ∈ V, ∃ o, s.heap.get? a = some o) →
    (∀ v h' tk, J (i + 1) h' → Has V h' v d → (∀ b o, b ∉ wr → s.heap.get? b = some o → h'.get? b = some o) → Q v { s with heap := h', toks := tk }) →
    wpAny (model prog w) A (pyNext it) (fun r s₁ => ∃ v, r = some v ∧ wpAny (model prog w) A (letOwnedTupleGo tgt it v) (fun _ s₂ => Q v s₂) E s₁) E s
  done : ∀ (s : Shared) (Q : Shared → Prop) (E : Value → Shared → Prop), J ds.length s.heap →
    (∀ h' tk, (∀ b o, b ∉ wr → s.heap.get? b = some o → h'.get? b = some o) → Q { s with heap := h', toks := tk }) → wpAny (model prog w) A (pyNext it) (fun r s₁ => r = none ∧ Q s₁) E s
  self : ∀ i (s : Shared) (Q : Value → Shared → Prop) (E : Value → Shared → Prop), J i s.heap → Q it s → wpAny (model prog w) A (pyIter it) Q E s

/-- the frame of a loop's turn -/
abbrev loopF (f : Fm) (wr : List Addr) (K : List (Addr × Obj)) (vs : List Value) (es : List Dat) : Fm := { f with V₀ := wr ++ f.V₀, K := K ++ f.K, D := (vs, es) :: f.D }

abbrev withF (f : Fm) (V : List Addr) (K : List (Addr × Obj)) (D : List (List Value × List Dat)) : Fm := { f with V₀ := V, K := K, D := D }

section
variable {f : Fm} {O : List (Addr × List Dat)} {ρ : List (Str × Slot)} {s : Shared} {wr fp V V' : List Addr} {K K' : List (Addr × Obj)} {D D' : List (List Value × List Dat)} {h' : Heap} {tk : Nat}

/-- objects that are none of the frame's are made anew -/
theorem St.foreign (st : St (withF f V K D) O ρ s) (hlo : ∀ b ∈ wr, f.s₀.heap.objs.size ≤ b) (hwV : ∀ b ∈ wr, b ∈ V) (hV : ∀ a ∈ V', a ∈ V) (hex : ∀ a ∈ V', ∃ o, h'.get? a = some o) (hD : ∀ p ∈ D', p ∈ D)
    (hK : ∀ p ∈ K', h'.get? p.1 = some p.2 ∧ KeepOk p.2 ∧ p.1 ∉ O.map (·.1)) (hdat : ∀ b ∈ wr, ∀ o, s.heap.get? b = some o → KeepOk o)
    (k : ∀ b o, b ∉ wr → s.heap.get? b = some o → h'.get? b = some o) : St (withF f V' K' D') O ρ { s with heap := h', toks := tk } := by
  have nd : ∀ b o, s.heap.get? b = some o → ¬ KeepOk o → b ∉ wr := fun b o e hk hb => hk (hdat b hb o e)
  have ndict : ∀ o : Obj, ∀ es ep, o.data = .dict es ep → ¬ KeepOk o := fun o es ep e hk => hk.1 _ _ e
  have ncell : ∀ o : Obj, ∀ v, o.data = .cell v → ¬ KeepOk o := fun o v e hk => hk.2.1 _ e
  have ntab : ∀ o : Obj, tabB o = true → ¬ KeepOk o := fun o e hk => by rw [hk.2.2.1] at e; cases e
  have notV : ∀ a, a ∉ O.map (·.1) ++ V → a ∉ wr ∧ a ∉ O.map (·.1) ++ V' := fun a ha => ⟨fun hw => ha (List.mem_append.mpr (.inr (hwV a hw))), fun h => ha (by
    rcases List.mem_append.mp h with h | h
    · exact List.mem_append.mpr (.inl h)
    · exact List.mem_append.mpr (.inr (hV a h)))⟩
  have dk : DKeep (O.map (·.1) ++ V) (O.map (·.1) ++ V') s.heap h' :=
    ⟨fun a items ha ⟨o, e, r⟩ => ⟨⟨o, k a o (notV a ha).1 e, r⟩, (notV a ha).2⟩, fun a items ha ⟨n, e⟩ => ⟨⟨n, k a _ (notV a ha).1 e⟩, (notV a ha).2⟩⟩
  have ck : CKeep s.heap h' := fun c o vs e x y => ⟨o, k c o (nd c o e fun hk => hk.2.2.2 vs y x) e, x, y⟩
  have frm : Mv f.G f.Wc f.s₀ { s with heap := h', toks := tk } := by
    obtain ⟨⟨h1, t1, g1, e1, c1⟩, g, kk⟩ := st.frm
    refine ⟨⟨h', tk, g1, by rw [e1], c1⟩, g, fun b o e => ?_⟩
    have q := kk b o e
    split
    · rename_i hb
      rw [if_pos hb] at q
      obtain ⟨o', e', c1, c2⟩ := q
      exact ⟨o', k b _ (fun hb => absurd (Heap.lt_size e) (Nat.not_lt.mpr (hlo b hb))) e', c1, fun q => (c2 q).up ck⟩
    rename_i hb
    rw [if_neg hb] at q
    obtain ⟨sl, e', c⟩ := q
    exact ⟨sl, k b _ (fun hb => absurd (Heap.lt_size e) (Nat.not_lt.mpr (hlo b hb))) e', c⟩
  have kV : ∀ x v, VarIs f.env s.heap x v → VarIs f.env h' x v := by
    rintro x v (⟨h1, m, ⟨o, es, ep, e, d, r⟩, h3⟩ | ⟨h1, c, h2, ⟨o, e, d⟩⟩)
    · exact .inl ⟨h1, m, ⟨o, es, ep, k _ _ (nd _ _ e (ndict _ _ _ d)) e, d, r⟩, h3⟩
    · exact .inr ⟨h1, c, h2, ⟨o, k _ _ (nd _ _ e (ncell _ _ d)) e, d⟩⟩
  have ok : (withF f V' K' D').Ok := { st.ok with }
  refine { ok := ok, bel := ⟨st.bel.stack, fun b o e => k b o (fun hb => ?_) (st.bel.stays b o e), ?_⟩, frm := frm, loc := ?_, cel := fun n c hc => ?_, vars := fun y sl hy => ?_, own := fun p hp => ?_, nod := st.nod, fO := st.fO, v0 := hex, frD := fun a ha => ?_, kep := hK,
           dat := fun p hp => (st.dat p (hD p hp)).keep dk, oV := fun p hp h => st.oV p hp (hV _ h), tab := fun P hP => by
             obtain ⟨op, e, ok⟩ := st.tab P hP
             exact ⟨op, k P op (nd _ _ e (ntab _ ok.b)) e, ok.up ck⟩ }
  · have := ok.notG (hlo b hb)
    rw [this] at e; cases e
  · have go : ∀ l : List Env, (∀ a ∈ l.filterMap (·.frame), ∃ o es ep, s.heap.get? a = some o ∧ o.data = .dict es ep) → s.heap.FunFrames f.G l → h'.FunFrames f.G l := by
      intro l
      induction l with
      | nil => intro _ _; trivial
      | cons env r ih =>
        rintro hd ⟨hk, ⟨L, o, hf, hn, ho, hdd⟩, hr⟩
        have hL : L ∈ (env :: r).filterMap (·.frame) := by rw [List.filterMap_cons, hf]; exact List.mem_cons_self
        obtain ⟨o', es, ep, e', d'⟩ := hd L hL
        refine ⟨hk, ⟨L, o, hf, hn, k _ _ (nd _ _ e' (ndict _ _ _ d')) ho, hdd⟩, ih (fun a ha => hd a ?_) hr⟩
        rw [List.filterMap_cons, hf]; exact List.mem_cons_of_mem _ ha
    exact go _ st.frD st.bel.frames
  · obtain ⟨m, o, es, ep, e, d, r⟩ := st.loc
    exact ⟨m, o, es, ep, k _ _ (nd _ _ e (ndict _ _ _ d)) e, d, r⟩
  · obtain ⟨v, o, e, d⟩ := st.cel n c hc
    exact ⟨v, o, k _ _ (nd _ _ e (ncell _ _ d)) e, d⟩
  · obtain ⟨v, h1, h2⟩ := st.vars y sl hy
    exact ⟨v, kV y v h1, h2.keep dk⟩
  · obtain ⟨vs, ⟨n, e⟩, h2⟩ := st.own p hp
    exact ⟨vs, ⟨n, k _ _ (fun hb => st.oV p hp (hwV _ hb)) e⟩, h2.keep dk⟩
  · obtain ⟨o, es, ep, e, d⟩ := st.frD a ha
    exact ⟨o, es, ep, k _ _ (nd _ _ e (ndict _ _ _ d)) e, d⟩

/-- more addresses that may turn, more that is kept -/
theorem St.enter (st : St f O ρ s) {s₀ : Shared} (h0 : St f O ρ s₀) (m : Mv f.G f.W s₀ s) (hlo : ∀ b ∈ wr, s₀.heap.objs.size ≤ b) (hex : ∀ a ∈ wr, ∃ o, s.heap.get? a = some o) (hK : ∀ p ∈ K, s.heap.get? p.1 = some p.2 ∧ KeepOk p.2 ∧ p.1 ∉ O.map (·.1)) {vs : List Value} {es : List Dat} (hd : HasL (f.V O) s₀.heap vs es) :
    St (withF f (wr ++ f.V₀) (K ++ f.K) ((vs, es) :: f.D)) O ρ s := by
  have nw : ∀ a o, s₀.heap.get? a = some o → a ∉ wr := fun a o e hw => absurd (Heap.lt_size e) (Nat.not_lt.mpr (hlo a hw))
  have dk : DKeep (f.V O) (O.map (·.1) ++ (wr ++ f.V₀)) s₀.heap s.heap := by
    have d0 := m.dkeep (V := f.V O)
    have nv : ∀ a, a ∉ f.V O → a ∉ wr → a ∉ O.map (·.1) ++ (wr ++ f.V₀) := fun a h1 h2 h => by
      rcases List.mem_append.mp h with h | h
      · exact h1 (List.mem_append.mpr (.inl h))
      · rcases List.mem_append.mp h with h | h
        · exact h2 h
        · exact h1 (List.mem_append.mpr (.inr h))
    refine ⟨fun a items ha hi => ⟨(d0.1 a items ha hi).1, ?_⟩, fun a items ha hi => ⟨(d0.2 a items ha hi).1, ?_⟩⟩
    · obtain ⟨o, e, _⟩ := hi
      exact nv a ha (nw a o e)
    · obtain ⟨n, e⟩ := hi
      exact nv a ha (nw a _ e)
  refine { ok := { st.ok with }, bel := st.bel, frm := st.frm, loc := st.loc, cel := st.cel, vars := fun y sl hy => ?_, own := fun p hp => ?_, nod := st.nod, fO := st.fO, v0 := fun a ha => ?_, frD := st.frD, kep := fun p hp => ?_, dat := fun p hp => ?_, oV := fun p hp h => ?_, tab := st.tab }
  · obtain ⟨v, h1, h2⟩ := h0.vars y sl hy
    exact ⟨v, h1.mv m, h2.keep dk⟩
  · obtain ⟨us, h1, h2⟩ := h0.own p hp
    exact ⟨us, h1.mv m, h2.keep dk⟩
  · rcases List.mem_append.mp ha with ha | ha
    · exact hex a ha
    · exact st.v0 a ha
  · rcases List.mem_append.mp hp with hp | hp
    · exact hK p hp
    · exact st.kep p hp
  · rcases List.mem_append.mp h with h | h
    · obtain ⟨us, ⟨n, e⟩, _⟩ := h0.own p hp
      exact nw _ _ e h
    · exact st.oV p hp h
  · rcases List.mem_cons.mp hp with rfl | hp
    · exact hd.keep dk
    · exact (h0.dat p hp).keep dk

/-- the iterator of an expression -/
@[irreducible] def It (f : Fm) (O : List (Addr × List Dat)) (ρ : List (Str × Slot)) (iter tgt : Expr) (ds : List Dat) : Prop :=
  ∀ (s : Shared) (Q : Value → Shared → Prop) (E : Value → Shared → Prop), St f O ρ s →
    (∀ it s₁ s' vs es J fp wr, Mv f.G f.W s s₁ → Mv f.G f.W s₁ s' → HasL (f.V O) s₁.heap vs es → (∀ V, (∀ b ∈ wr, b ∈ V) → Itr f.prog f.w f.A V it tgt vs es ds J fp wr) → J 0 s'.heap → (∀ b ∈ wr, s₁.heap.objs.size ≤ b) →
      (∀ b ∈ fp, b ∉ O.map (·.1)) → s₁.heap.objs.size ≤ s'.heap.objs.size → Q it s') → wpAny f.M f.A (eval iter f.env) (fun x s₁ => wpAny f.M f.A (pyIter x) Q E s₁) E s
theorem It.mk {f : Fm} {O : List (Addr × List Dat)} {ρ : List (Str × Slot)} {iter tgt : Expr} {ds : List Dat} (h : ∀ (s : Shared) (Q : Value → Shared → Prop) (E : Value → Shared → Prop), St f O ρ s → (∀ it s₁ s' vs es J fp wr, Mv f.G f.W s s₁ → Mv f.G f.W s₁ s' → HasL (f.V O) s₁.heap vs es → (∀ V, (∀ b ∈ wr, b ∈ V) → Itr f.prog f.w f.A V it tgt vs es ds J fp wr) → J 0 s'.heap → (∀ b ∈ wr, s₁.heap.objs.size ≤ b) → (∀ b ∈ fp, b ∉ O.map (·.1)) → s₁.heap.objs.size ≤ s'.heap.objs.size → Q it s') → wpAny f.M f.A (eval iter f.env) (fun x s₁ => wpAny f.M f.A (pyIter x) Q E s₁) E s) : It f O ρ iter tgt ds := by
  unfold It; exact h
theorem It.run {f : Fm} {O : List (Addr × List Dat)} {ρ : List (Str × Slot)} {iter tgt : Expr} {ds : List Dat} (h : It f O ρ iter tgt ds) : ∀ (s : Shared) (Q : Value → Shared → Prop) (E : Value → Shared → Prop), St f O ρ s → (∀ it s₁ s' vs es J fp wr, Mv f.G f.W s s₁ → Mv f.G f.W s₁ s' → HasL (f.V O) s₁.heap vs es → (∀ V, (∀ b ∈ wr, b ∈ V) → Itr f.prog f.w f.A V it tgt vs es ds J fp wr) → J 0 s'.heap → (∀ b ∈ wr, s₁.heap.objs.size ≤ b) → (∀ b ∈ fp, b ∉ O.map (·.1)) → s₁.heap.objs.size ≤ s'.heap.objs.size → Q it s') → wpAny f.M f.A (eval iter f.env) (fun x s₁ => wpAny f.M f.A (pyIter x) Q E s₁) E s := by
  unfold It at h; exact h

/-- the objects of a heap at some places -/
def objsAt (h : Heap) (l : List Addr) : List (Addr × Obj) := l.filterMap fun a => (h.get? a).map fun o => (a, o)
theorem objsAt_mem {h : Heap} {l : List Addr} {p : Addr × Obj} (x : p ∈ objsAt h l) : p.1 ∈ l ∧ h.get? p.1 = some p.2 := by
  obtain ⟨a, ha, e⟩ := List.mem_filterMap.mp x
  obtain ⟨o, ho, rfl⟩ := Option.map_eq_some_iff.mp e
  exact ⟨ha, ho⟩
theorem mem_objsAt {h : Heap} {l : List Addr} {a : Addr} {o : Obj} (ha : a ∈ l) (e : h.get? a = some o) : (a, o) ∈ objsAt h l := List.mem_filterMap.mpr ⟨a, ha, by rw [e]; rfl⟩
end
end Mine

namespace Mine

/-- a target takes a datum -/
def As (f : Fm) (O : List (Addr × List Dat)) (ρ : List (Str × Slot)) (tgt : Expr) (d : Dat) (ρ' : List (Str × Slot)) : Prop :=
  ∀ (s : Shared) (v : Value) (Q : Unit → Shared → Prop) (E : Value → Shared → Prop), St f O ρ s → Has (f.V O) s.heap v d → (∀ s', St f O ρ' s' → Q () s') → wpAny f.M f.A (assign tgt f.env v) Q E s
def forR (I : Nat → List (Addr × List Dat) → List (Str × Slot) → Prop) (i : Nat) (Φ : Ot → Prop) : Ot → Prop
  | .next O ρ => ∃ ρ₁, I (i + 1) O ρ₁ ∧ Sub ρ₁ ρ
  | .cont O ρ => ∃ ρ₁, I (i + 1) O ρ₁ ∧ Sub ρ₁ ρ
  | .brk O ρ => Φ (.next O ρ)
  | .ret d => Φ (.ret d)

section
variable {f : Fm} {O : List (Addr × List Dat)} {ρ : List (Str × Slot)} {iter tgt : Expr} {pos : Pos} {ds : List Dat} {d : Dat} {Φ : Ot → Prop} {body : List Stmt}

theorem As.name {x : Str} (hk : Binds f x) : As f O ρ (.Name x pos) d (put ρ x (.dat d)) := by
  intro s v Q E st hv k
  exact wpAny_assign_Name (St.bind (sl := .dat d) st hk hv fun s' st' => k s' st')

/-- the frame of the loop is left -/
theorem St.drop {s : Shared} {V : List Addr} {K : List (Addr × Obj)} {D : List (List Value × List Dat)} (hK : ∀ p ∈ f.K, p ∈ K) (hV : ∀ a ∈ f.V₀, a ∈ V) (hD : ∀ p ∈ f.D, p ∈ D) (st : St (withF f V K D) O ρ s) : St f O ρ s :=
  St.foreign (f := f) (V' := f.V₀) (K' := f.K) (D' := f.D) (wr := []) (h' := s.heap) (tk := s.toks) st (fun _ h => nomatch h) (fun _ h => nomatch h) hV (fun a ha => st.v0 a (hV a ha)) hD (fun p hp => st.kep p (hK p hp)) (fun _ h => nomatch h) fun _ _ _ e => e

theorem Out.drop {V : List Addr} {K : List (Addr × Obj)} {D : List (List Value × List Dat)} {fl : Flow} {s : Shared} (hK : ∀ p ∈ f.K, p ∈ K) (hV : ∀ a ∈ f.V₀, a ∈ V) (hD : ∀ p ∈ f.D, p ∈ D) (h : Out (withF f V K D) Φ fl s) : Out f Φ fl s := by
  cases fl with
  | next => obtain ⟨O', ρ', a, b⟩ := h; exact ⟨O', ρ', a, b.drop hK hV hD⟩
  | brk => obtain ⟨O', ρ', a, b⟩ := h; exact ⟨O', ρ', a, b.drop hK hV hD⟩
  | cont => obtain ⟨O', ρ', a, b⟩ := h; exact ⟨O', ρ', a, b.drop hK hV hD⟩
  | ret v =>
    obtain ⟨d, a, b, c⟩ := h
    refine ⟨d, a, b.keep ?_, c⟩
    exact ⟨fun x items hx hi => ⟨hi, fun q => hx (hV x q)⟩, fun x items hx hi => ⟨hi, fun q => hx (hV x q)⟩⟩

theorem ExS.forX (hit : It f O ρ iter tgt ds) (I : Nat → List (Addr × List Dat) → List (Str × Slot) → Prop) (h0 : ∃ ρ₁, I 0 O ρ₁ ∧ Sub ρ₁ ρ) (hO : ∀ i O' ρ', I i O' ρ' → O'.map (·.1) = O.map (·.1))
    (turn : ∀ V K D i O' ρ' d, I i O' ρ' → ds[i]? = some d → ∃ ρ'', As (withF f V K D) O' ρ' tgt d ρ'' ∧ Ex (withF f V K D) O' ρ'' body (forR I i Φ))
    (done : ∀ O' ρ', I ds.length O' ρ' → Φ (.next O' ρ')) (hs : ∀ x, foldedSetIterable iter f.env x = pure x := by intro _; rfl) : ExS f O ρ (.For tgt iter body [] pos) Φ := by
  first | apply Ev.mk | apply EvS.mk | apply Tr.mk | apply EvL.mk | apply Ex.mk | apply ExS.mk | apply It.mk | skip
  intro s E st
  obtain ⟨ρ₁, hI0, hsub⟩ := h0
  refine wpAny_For (hit.run s _ _ st fun it s₁ s' vs es J fp wr m₁ m₂ hd ITA hJ hlo hfO hle => ?_) hs
  have IT := ITA (O.map (·.1) ++ (wr ++ f.V₀)) fun b hb => List.mem_append.mpr (.inr (List.mem_append.mpr (.inl hb)))
  have st1 := (st.mv m₁).weak hsub
  have st2 := st1.mv m₂
  have lo0 : ∀ b ∈ wr, f.s₀.heap.objs.size ≤ b := fun b hb => by
    obtain ⟨mm, nn⟩ := st1.loc
    exact Nat.le_trans (Nat.le_trans st1.ok.fL (Nat.le_of_lt nn.lt)) (hlo b hb)
  have ent : St (withF f (wr ++ f.V₀) (objsAt s'.heap fp ++ f.K) ((vs, es) :: f.D)) O ρ₁ s' :=
    st2.enter st1 m₂ hlo (fun a ha => IT.ex 0 _ hJ a (IT.sub a ha)) (fun p hp => by
      obtain ⟨h1, h2⟩ := objsAt_mem hp
      exact ⟨h2, IT.fpOk 0 _ hJ _ h1 _ h2, hfO _ h1⟩) hd
  have fKw : ∀ p ∈ f.K, p.1 ∉ wr := fun p hp hw => by
    obtain ⟨e, _, _⟩ := st1.kep p hp
    exact absurd (Heap.lt_size e) (Nat.not_lt.mpr (hlo _ hw))
  refine codeAny_forLoop_any (fun n s => ∃ i O' ρ', n = ds.length + 1 - i ∧ i ≤ ds.length ∧ I i O' ρ' ∧ J i s.heap ∧ St (withF f (wr ++ f.V₀) (objsAt s.heap fp ++ f.K) ((vs, es) :: f.D)) O' ρ' s) ?_ (ds.length + 1) ⟨0, O, ρ₁, rfl, Nat.zero_le _, hI0, hJ, ent⟩
  rintro n s₂ ⟨i, O', ρ', rfl, hi, hI, hJi, st3⟩
  have hOO := hO i O' ρ' hI
  have hVe : (withF f (wr ++ f.V₀) (objsAt s₂.heap fp ++ f.K) ((vs, es) :: f.D)).V O' = O.map (·.1) ++ (wr ++ f.V₀) := by show O'.map _ ++ _ = _; rw [hOO]
  have vex : ∀ a ∈ O.map (·.1) ++ (wr ++ f.V₀), ∃ o, s₂.heap.get? a = some o := fun a ha => by
    rcases List.mem_append.mp ha with ha | ha
    · rw [← hOO] at ha
      obtain ⟨p, hp, rfl⟩ := List.mem_map.mp ha
      obtain ⟨us, ⟨n, e⟩, _⟩ := st3.own p hp
      exact ⟨_, e⟩
    · exact st3.v0 a ha
  have KA : ∀ p ∈ f.K, p ∈ objsAt s₂.heap fp ++ f.K := fun p hp => List.mem_append.mpr (.inr hp)
  rcases Nat.lt_or_ge i ds.length with hlt | hge
  · have hd' : ds[i]? = some ds[i] := List.getElem?_eq_getElem hlt
    have hdata : HasL (O.map (·.1) ++ (wr ++ f.V₀)) s₂.heap vs es := by
      have := st3.dat (vs, es) List.mem_cons_self
      rw [hVe] at this
      exact this
    refine wpAny_mono (IT.item i ds[i] s₂ (fun v s₄ => ∃ h' tk, s₄ = { s₂ with heap := h', toks := tk } ∧ J (i + 1) h' ∧ Has (O.map (·.1) ++ (wr ++ f.V₀)) h' v ds[i] ∧ (∀ b o, b ∉ wr → s₂.heap.get? b = some o → h'.get? b = some o)) (notedBy (model f.prog f.w) f.A f.env _) hd' hJi hdata vex
      (fun v h' tk hJ' hv' hk' => ⟨h', tk, rfl, hJ', hv', hk'⟩)) (fun r s₄ hr => ?_) fun _ _ x => x
    obtain ⟨v, rfl, hr⟩ := hr
    refine wpAny_mono hr (fun _ s₅ h5 => ?_) fun _ _ x => x
    obtain ⟨h', tk, rfl, hJ', hv', hk'⟩ := h5
    have st4 : St (withF f (wr ++ f.V₀) (objsAt h' fp ++ f.K) ((vs, es) :: f.D)) O' ρ' { s₂ with heap := h', toks := tk } := by
      refine St.foreign (f := f) st3 lo0 (fun b hb => List.mem_append.mpr (.inl hb)) (fun a ha => ha) (fun a ha => ?_) (fun p hp => hp) (fun p hp => ?_) (fun b hb o e => IT.fpOk i _ hJi b (IT.sub b hb) o e) hk'
      · rcases List.mem_append.mp ha with ha | ha
        · exact IT.ex (i + 1) _ hJ' a (IT.sub a ha)
        · by_cases hw : a ∈ wr
          · exact IT.ex (i + 1) _ hJ' a (IT.sub a hw)
          · obtain ⟨o, e⟩ := st3.v0 a (List.mem_append.mpr (.inr ha))
            exact ⟨o, hk' a o hw e⟩
      · rcases List.mem_append.mp hp with hp | hp
        · obtain ⟨h1, h2⟩ := objsAt_mem hp
          refine ⟨h2, IT.fpOk (i + 1) _ hJ' _ h1 _ h2, ?_⟩
          rw [hOO]; exact hfO _ h1
        · obtain ⟨e, b, c⟩ := st3.kep p (List.mem_append.mpr (.inr hp))
          exact ⟨hk' _ _ (fKw p hp) e, b, c⟩
    obtain ⟨ρ'', has, hex⟩ := turn (wr ++ f.V₀) (objsAt h' fp ++ f.K) ((vs, es) :: f.D) i O' ρ' ds[i] hI hd'
    have hv2 : Has ((withF f (wr ++ f.V₀) (objsAt h' fp ++ f.K) ((vs, es) :: f.D)).V O') h' v ds[i] := by
      have : (withF f (wr ++ f.V₀) (objsAt h' fp ++ f.K) ((vs, es) :: f.D)).V O' = O.map (·.1) ++ (wr ++ f.V₀) := by show O'.map _ ++ _ = _; rw [hOO]
      rw [this]; exact hv'
    refine has _ v _ _ st4 hv2 fun s₆ st6 => ?_
    refine wpAny_mono (hex.run s₆ _ st6) (fun fl s₇ ho => ?_) fun _ _ x => x
    have nx : (∃ O₁ ρ₁, (∃ ρ₂, I (i + 1) O₁ ρ₂ ∧ Sub ρ₂ ρ₁) ∧ St (withF f (wr ++ f.V₀) (objsAt h' fp ++ f.K) ((vs, es) :: f.D)) O₁ ρ₁ s₇) →
        ∃ m, m < ds.length + 1 - i ∧ ∃ i O' ρ', m = ds.length + 1 - i ∧ i ≤ ds.length ∧ I i O' ρ' ∧ J i s₇.heap ∧ St (withF f (wr ++ f.V₀) (objsAt s₇.heap fp ++ f.K) ((vs, es) :: f.D)) O' ρ' s₇ := by
      rintro ⟨O₁, ρ₁, ⟨ρ₂, hI2, hs2⟩, st7⟩
      have st7' := st7.weak hs2
      have hOO1 := hO _ _ _ hI2
      have kfp : ∀ b ∈ fp, ∀ o, h'.get? b = some o → s₇.heap.get? b = some o := fun b hb o e => (st7.kep (b, o) (List.mem_append.mpr (.inl (mem_objsAt hb e)))).1
      have hJ7 : J (i + 1) s₇.heap := IT.frame _ _ _ hJ' kfp
      refine ⟨ds.length + 1 - (i + 1), by omega, i + 1, O₁, ρ₂, rfl, hlt, hI2, hJ7, ?_⟩
      refine St.foreign (f := f) (wr := []) (h' := s₇.heap) (tk := s₇.toks) st7' (fun _ h => nomatch h) (fun _ h => nomatch h) (fun a ha => ha) (fun a ha => st7.v0 a ha) (fun p hp => hp) (fun p hp => ?_) (fun _ h => nomatch h) fun _ _ _ e => e
      rcases List.mem_append.mp hp with hp | hp
      · obtain ⟨h1, h2⟩ := objsAt_mem hp
        refine ⟨h2, IT.fpOk (i + 1) _ hJ7 _ h1 _ h2, ?_⟩
        rw [hOO1]; exact hfO _ h1
      · exact st7'.kep p (List.mem_append.mpr (.inr hp))
    cases fl with
    | next => exact nx ho
    | cont => exact nx ho
    | brk =>
      obtain ⟨O₁, ρ₁, hΦ, st7⟩ := ho
      exact ⟨O₁, ρ₁, hΦ, st7.drop (fun p hp => List.mem_append.mpr (.inr hp)) (fun a ha => List.mem_append.mpr (.inr ha)) (fun p hp => List.mem_cons_of_mem _ hp)⟩
    | ret v =>
      exact Out.drop (Φ := Φ) (fl := .ret v) (fun p hp => List.mem_append.mpr (.inr hp)) (fun a ha => List.mem_append.mpr (.inr ha)) (fun p hp => List.mem_cons_of_mem _ hp) ho
  · have hie : i = ds.length := Nat.le_antisymm hi hge
    subst hie
    refine wpAny_mono (IT.done s₂ (fun s₄ => ∃ h' tk, s₄ = { s₂ with heap := h', toks := tk } ∧ ∀ b o, b ∉ wr → s₂.heap.get? b = some o → h'.get? b = some o) (notedBy (model f.prog f.w) f.A f.env _) hJi fun h' tk hk' => ⟨h', tk, rfl, hk'⟩) (fun r s₄ hr => ?_) fun _ _ x => x
    obtain ⟨rfl, h', tk, rfl, hk'⟩ := hr
    refine wpAny_execs_nil ⟨O', ρ', done O' ρ' hI, ?_⟩
    refine St.foreign (f := f) (V' := f.V₀) (K' := f.K) (D' := f.D) st3 lo0 (fun b hb => List.mem_append.mpr (.inl hb)) (fun a ha => List.mem_append.mpr (.inr ha)) (fun a ha => ?_) (fun p hp => List.mem_cons_of_mem _ hp) (fun p hp => ?_) (fun b hb o e => IT.fpOk _ _ hJi b (IT.sub b hb) o e) hk'
    · obtain ⟨o, e⟩ := st1.v0 a ha
      have hw : a ∉ wr := fun hw => absurd (Heap.lt_size e) (Nat.not_lt.mpr (hlo _ hw))
      obtain ⟨o', e'⟩ := st3.v0 a (List.mem_append.mpr (.inr ha))
      exact ⟨o', hk' a o' hw e'⟩
    · obtain ⟨e, b, c⟩ := st3.kep p (List.mem_append.mpr (.inr hp))
      exact ⟨hk' _ _ (fKw p hp) e, b, c⟩
end
end Mine

namespace Mine

/-- what keeps all outside V keeps the data -/
theorem HasL.out {V wr : List Addr} {h h' : Heap} {vs : List Value} {es : List Dat} (x : HasL V h vs es) (hw : ∀ b ∈ wr, b ∈ V) (k : ∀ b o, b ∉ wr → h.get? b = some o → h'.get? b = some o) : HasL V h' vs es :=
  x.keep ⟨fun a items ha ⟨o, e, r⟩ => ⟨⟨o, k a o (fun q => ha (hw a q)) e, r⟩, ha⟩, fun a items ha ⟨n, e⟩ => ⟨⟨n, k a _ (fun q => ha (hw a q)) e⟩, ha⟩⟩

theorem Itr.of_walks {prog : Program} {w : World} {A : Around} {V : List Addr} {I : Addr} {tgt : Expr} {vs : List Value} {es ds : List Dat} {fp wr : List Addr} {P : Nat → Value → Prop} {J : Nat → Heap → Prop} (W : Walks prog w A I fp wr ds.length P J) (hw : ∀ b ∈ wr, b ∈ V)
    (hP : ∀ i v d h, P i v → ds[i]? = some d → HasL V h vs es → Has V h v d) (hok : ∀ i h, J i h → ∀ b ∈ fp, ∀ o, h.get? b = some o → KeepOk o) (hex : ∀ i h, J i h → ∀ b ∈ fp, ∃ o, h.get? b = some o)
    (htg : ∀ i v (s : Shared) (Q : Unit → Shared → Prop) (E : Value → Shared → Prop), J i s.heap → Q () s → wpAny (model prog w) A (letOwnedTupleGo tgt (.ref I) v) Q E s) : Itr prog w A V (.ref I) tgt vs es ds J fp wr where
  sub := W.sub
  frame := W.frame
  fpOk := hok
  ex := hex
  item := fun i d s Q E hd hJ hv hV k => by
    have hlt : i < ds.length := (List.getElem?_eq_some_iff.mp hd).1
    refine W.item i s _ E hlt hJ fun v h' tk hPv hJ' hk => ⟨v, rfl, htg (i + 1) v _ _ _ hJ' ?_⟩
    exact k v h' tk hJ' (hP i v d h' hPv hd (hv.out hw hk)) hk
  done := fun s Q E hJ k => W.done s _ E hJ fun h' tk hk => ⟨rfl, k h' tk hk⟩
  self := W.self

theorem size_up (h : Heap) (o : Obj) : h.objs.size ≤ (h.push o).objs.size := by rw [Heap.size_push]; exact Nat.le_succ _
theorem keep_fields {o : Obj} {vs : Array Value} (h : o.data = .fields vs) {x : String} (hc : o.cls = .type x) (hx : x ≠ "code" := by decide) : KeepOk o := ⟨fun _ _ q => (by rw [h] at q; cases q), fun _ q => (by rw [h] at q; cases q), tabB_cls (by rw [hc]; exact fun q => nomatch q), fun _ _ q => hx (by rw [hc] at q; injection q)⟩
theorem keep_seq {o : Obj} {vs : Array Value} {n : Nat} (h : o.data = .seq vs n) : KeepOk o := ⟨fun _ _ q => (by rw [h] at q; cases q), fun _ q => (by rw [h] at q; cases q), tabB_data fun _ q => (by rw [h] at q; cases q), fun _ q => (by rw [h] at q; cases q)⟩

/-- a target that lets no tuple go at a list's iterator -/
theorem letgo_list {prog : Program} {w : World} {A : Around} {tgt : Expr} {I ax : Addr} {i : Nat} {v : Value} {s : Shared} {Q : Unit → Shared → Prop} {E : Value → Shared → Prop} (h : s.heap.IsListIter I ax i) (k : Q () s) : wpAny (model prog w) A (letOwnedTupleGo tgt (.ref I) v) Q E s := by
  obtain ⟨o, e, c, d⟩ := h
  have go : wpAny (model prog w) A (do
      let (.ref r, .ref a) := (Value.ref I, v) | return
      let o ← load r
      match o.cls, o.data with
      | .type n, .fields vs =>
        if ["enumerate", "zip", "dict_itemiterator", "dict_reverseitemiterator", "odict_iterator", "itertools.zip_longest", "itertools.pairwise"].contains n && vs[0]? == some (rawInt a) then
          rule "for.unpacks-the-owned-tuple"
          updateField r 0 .none
      | _, _ => pure ()) Q E s := by
    cases v <;> first
      | exact wpAny_pure k
      | (refine wpAny_bind (wpAny_load e ?_)
         rw [c, d]
         exact wpAny_pure k)
  cases tgt <;> first | exact wpAny_pure k | exact go

section
variable {f : Fm} {O : List (Addr × List Dat)} {ρ : List (Str × Slot)} {iter tgt e : Expr} {ds : List Dat}

theorem It.list (h : Ev f O ρ iter (.list ds)) : It f O ρ iter tgt ds := by
  first | apply Ev.mk | apply EvS.mk | apply Tr.mk | apply EvL.mk | apply Ex.mk | apply ExS.mk | apply It.mk | skip
  intro s Q E st k
  refine h.run s _ _ st fun v s₁ m₁ h₁ => ?_
  have st1 := st.mv m₁
  cases h₁ with
  | list i1 n1 hl =>
    rename_i ax vs
    have hne : ax ≠ s₁.heap.objs.size := by
      obtain ⟨n, e⟩ := i1
      exact Nat.ne_of_lt (Heap.lt_size e)
    refine wpAny_pyIter_list i1.isList ?_
    have W := Walks.list (prog := f.prog) (w := f.w) st.ok.hh s₁.heap.objs.size ax hne vs.toArray
    have hlen : vs.toArray.size = ds.length := by simp [hl.length]
    rw [hlen] at W
    refine k (.ref s₁.heap.objs.size) s₁ _ vs ds _ _ _ m₁ (.push _) hl (fun V hw => Itr.of_walks W hw (fun i v d h hv hd hh => ?_) (fun i h hJ b hb o e => ?_) (fun i h hJ b hb => ?_) fun i v s Q E hJ hQ => letgo_list hJ.1 hQ)
      ⟨⟨_, Heap.get?_push_size _ rfl, rfl, rfl⟩, (i1.at fun o e => Heap.get?_push_of_some _ e).isList⟩ (fun b hb => by rw [List.mem_singleton.mp hb]; exact Nat.le_refl _) (fun b hb hO => ?_) (size_up _ _)
    · obtain ⟨d', hd', hx⟩ := hh.getV (k := i) (by simpa using hv)
      rw [hd] at hd'; cases hd'; exact hx
    · obtain ⟨⟨oi, ei, ci, di⟩, ⟨ol, el, _, n, dl⟩⟩ := hJ
      rcases List.mem_cons.mp hb with rfl | hb
      · rw [ei] at e; cases e; exact keep_fields di ci
      · have hb' := List.mem_singleton.mp hb; rw [hb', el] at e; cases e; exact keep_seq dl
    · obtain ⟨⟨oi, ei, _, di⟩, ⟨ol, el, _⟩⟩ := hJ
      rcases List.mem_cons.mp hb with rfl | hb
      · exact ⟨_, ei⟩
      · rw [List.mem_singleton.mp hb]; exact ⟨_, el⟩
    · rcases List.mem_cons.mp hb with rfl | hb
      · exact st1.freshV (List.mem_append.mpr (.inl hO))
      · have hb' := List.mem_singleton.mp hb; subst hb'
        exact n1 (List.mem_append.mpr (.inl hO))

theorem It.str {x : List Nat} {nm : Str} {np : Pos} (h : Ev f O ρ iter (.str (S x))) : It f O ρ iter (.Name nm np) (x.map fun c => Dat.str (S [c])) := by
  first | apply Ev.mk | apply EvS.mk | apply Tr.mk | apply EvL.mk | apply Ex.mk | apply ExS.mk | apply It.mk | skip
  intro s Q E st k
  refine h.run s _ _ st fun v s₁ m₁ h₁ => ?_
  have st1 := st.mv m₁
  cases h₁
  rename_i tx
  have hlen : (S x).cps.size = (x.map fun c => Dat.str (S [c])).length := by simp [S]
  have fin : ∀ (ty : String) (ob : Obj), ty ≠ "code" → Walks f.prog f.w f.A s₁.heap.objs.size [s₁.heap.objs.size] [s₁.heap.objs.size] (S x).cps.size (SignAt (S x)) (fun i h => h.IsStrIter s₁.heap.objs.size ty (S x) tx i) → (s₁.heap.push ob).IsStrIter s₁.heap.objs.size ty (S x) tx 0 →
      Q (.ref s₁.heap.objs.size) { s₁ with heap := s₁.heap.push ob } := by
    intro ty ob hty W h0
    rw [hlen] at W
    refine k (.ref s₁.heap.objs.size) s₁ _ [] [] _ _ _ m₁ (.push _) .nil (fun V hw => Itr.of_walks W hw (fun i v d h hv hd hh => ?_) (fun i h hJ b hb o e => ?_) (fun i h hJ b hb => ?_) fun i v s Q E hJ hQ => wpAny_pure hQ)
      h0 (fun b hb => by rw [List.mem_singleton.mp hb]; exact Nat.le_refl _) (fun b hb hO => ?_) (size_up _ _)
    · obtain ⟨c, u, hc, rfl⟩ := hv
      have : d = .str (S [c]) := by
        have hc' : x[i]? = some c := by simpa [S] using hc
        rw [List.getElem?_map, hc'] at hd
        cases hd; rfl
      rw [this]; exact .str _ _
    · obtain ⟨oi, ei, ci, di⟩ := hJ
      rw [List.mem_singleton.mp hb, ei] at e; cases e; exact keep_fields di ci hty
    · obtain ⟨oi, ei, _, di⟩ := hJ
      rw [List.mem_singleton.mp hb]; exact ⟨_, ei⟩
    · rw [List.mem_singleton.mp hb] at hO
      exact st1.freshV (List.mem_append.mpr (.inl hO))
  cases ha : (S x).cps.all (· < 128)
  · exact wpAny_pyIter_wide ha (fin _ _ (by decide) (Walks.strWide st.ok.hh _ (S x) tx) ⟨_, Heap.get?_push_size _ rfl, rfl, rfl⟩)
  · exact wpAny_pyIter_ascii ha (fin _ _ (by decide) (Walks.strAscii st.ok.hh _ (S x) tx) ⟨_, Heap.get?_push_size _ rfl, rfl, rfl⟩)

/-- a range from a to b -/
theorem It.rangeV {a b : Int} {n : Nat} {nm : Str} {np : Pos} (hn : n = (b - a).toNat) (ha : -(2 ^ 62) ≤ a) (hb : b < 2 ^ 62) (ha' : a < 2 ^ 62) (hb' : -(2 ^ 62) ≤ b)
    (h : ∀ (s : Shared) (Q : Value → Shared → Prop) (E : Value → Shared → Prop), St f O ρ s → (∀ s₀ t u v tk, Mv f.G f.W s s₀ → Q (.ref s₀.heap.objs.size) { s₀ with heap := s₀.heap.push { cls := .type "range", data := .fields #[.int a t, .int b u, .int 1 v] }, toks := tk }) → wpAny f.M f.A (eval iter f.env) Q E s) :
    It f O ρ iter (.Name nm np) ((List.range n).map fun i => Dat.int (a + (i : Nat))) := by
  first | apply Ev.mk | apply EvS.mk | apply Tr.mk | apply EvL.mk | apply Ex.mk | apply ExS.mk | apply It.mk | skip
  intro s Q E st k
  refine h s _ _ st fun s₀ t u v tk m₀ => ?_
  have hsz : Builtin.Range.rangeSize a b 1 = (n : Int) := by rw [rangeSize_one]; split <;> omega
  let s₁ : Shared := { s₀ with heap := s₀.heap.push { cls := .type "range", data := .fields #[.int a t, .int b u, .int 1 v] }, toks := tk }
  have m₁ : Mv f.G f.W s s₁ := m₀.trans (.of_keep fun b o e => Heap.get?_push_of_some _ e)
  have st1 := st.mv m₁
  refine wpAny_pyIter_range (s := s₁) (IsRange.new ..) (small_one ha ha' hb' hb) ?_
  have W := Walks.range (prog := f.prog) (w := f.w) st.ok.hh s₁.heap.objs.size a 1 n
  have hlen : n = ((List.range n).map fun i => Dat.int (a + (i : Nat))).length := by simp
  rw [hlen] at W
  refine k (.ref s₁.heap.objs.size) s₁ _ [] [] _ _ _ m₁ (.push _) .nil (fun V hw => Itr.of_walks W hw (fun i v d h hv hd hh => ?_) (fun i h hJ b hb o e => ?_) (fun i h hJ b hb => ?_) fun i v s Q E hJ hQ => wpAny_pure hQ)
    ?_ (fun b hb => by rw [List.mem_singleton.mp hb]; exact Nat.le_refl _) (fun b hb hO => ?_) (size_up _ _)
  · obtain ⟨t, rfl⟩ := hv
    have hi : i < n := by have := (List.getElem?_eq_some_iff.mp hd).1; simpa using this
    have : d = .int (a + (i : Int) * 1) := by
      rw [List.getElem?_map, List.getElem?_range hi] at hd
      simp at hd; rw [← hd]; simp
    rw [this]; exact .int _ _
  · have hJ' : h.get? s₁.heap.objs.size = some _ := hJ
    rw [List.mem_singleton.mp hb, hJ'] at e; cases e; exact keep_fields rfl rfl
  · have hJ' : h.get? s₁.heap.objs.size = some _ := hJ
    rw [List.mem_singleton.mp hb]; exact ⟨_, hJ'⟩
  · have e1 : a + ((0 : Nat) : Int) * 1 = a := by simp
    show IsRangeIter _ _ _ _ _
    rw [e1, ← hlen, hsz]
    simp only [Int.natCast_zero, Int.sub_zero]
    exact Heap.get?_push_size _ rfl
  · rw [List.mem_singleton.mp hb] at hO
    exact st1.freshV (List.mem_append.mpr (.inl hO))
end
end Mine

namespace Mine

/-! ## comprehensions -/
/-- the frame of a comprehension -/
abbrev compF (f : Fm) (V : List Addr) (cl : List (Str × Addr)) (C : Addr) (scope : Scope) (s₁ : Shared) : Fm :=
  { f with env := compEnvC scope cl C f.env, V₀ := V, s₀ := s₁, Wc := f.W, own := false, K := [], D := [] }
abbrev tests (ifs : List Expr) (env : Env) : Sem Bool := forIn ifs true fun c r => if r = true then do let ok ← isTrue c env (eval c env); pure (ForInStep.yield ok) else pure (ForInStep.yield r)
def Ts (f : Fm) (O : List (Addr × List Dat)) (ρ : List (Str × Slot)) (ifs : List Expr) (b : Bool) : Prop :=
  ∀ (s : Shared) (Q : Bool → Shared → Prop) (E : Value → Shared → Prop), St f O ρ s → (∀ s', Mv f.G f.W s s' → Q b s') → wpAny f.M f.A (tests ifs f.env) Q E s
theorem Ts.none {f : Fm} {O : List (Addr × List Dat)} {ρ : List (Str × Slot)} : Ts f O ρ [] true := by
  first | apply Ev.mk | apply EvS.mk | apply Tr.mk | apply EvL.mk | apply It.mk | skip
  exact fun s Q E st k => wpAny_tests_nil (k s (.refl s))
theorem Ts.one {f : Fm} {O : List (Addr × List Dat)} {ρ : List (Str × Slot)} {c : Expr} {b : Bool} (h : Tr f O ρ c b) : Ts f O ρ [c] b := by
  first | apply Ev.mk | apply EvS.mk | apply Tr.mk | apply EvL.mk | apply It.mk | skip
  exact fun s Q E st k => wpAny_tests_one (h.run s _ _ st k)

section
variable {prog : Program} {w : World} {A : Around} {R : Result → Shared → Prop} {s : Shared}
theorem compTurn_gen (elt target iter : Expr) (ifs : List Expr) (scope : Scope) (pos : Pos) (it acc : Value) (env : Env) :
    compTurn (.ListComp elt [⟨target, iter, ifs, 0⟩] scope pos) 0 it acc env = (do
      standAt iter.pos
      match ← pyNext it with
      | none => pure (.done .next)
      | some v =>
        letOwnedTupleGo target it v
        assign target env v
        let mut ok := true
        for c in ifs do
          if ok then ok ← isTrue c env (eval c env)
        if ok then
          (do let _ ← call (.builtin "list.append") [acc, ← eval elt env])
        again (.compLoop (.ListComp elt [⟨target, iter, ifs, 0⟩] scope pos) 0 it acc env)) := by rfl
theorem codeAny_compLoop_gen {elt target iter : Expr} {ifs : List Expr} {scope : Scope} {pos : Pos} {it acc : Value} {env : Env} (I : Nat → Shared → Prop)
    (turn : ∀ n s, I n s → wpAny (model prog w) A (pyNext it) (fun r s₁ => match r with
      | none => R (.ok .next) s₁
      | some v => wpAny (model prog w) A (letOwnedTupleGo target it v) (fun _ s₁' => wpAny (model prog w) A (assign target env v) (fun _ s₂ =>
          wpAny (model prog w) A (tests ifs env) (fun ok s₃ =>
            if ok = true then wpAny (model prog w) A (eval elt env) (fun x s₄ =>
              wpAny (model prog w) A (call (.builtin "list.append") [acc, x]) (fun _ s₅ => ∃ m, m < n ∧ I m s₅) (notedBy (model prog w) A env fun e s' => R (.error e) s') s₄) (notedBy (model prog w) A env fun e s' => R (.error e) s') s₃
            else ∃ m, m < n ∧ I m s₃) (notedBy (model prog w) A env fun e s' => R (.error e) s') s₂) (notedBy (model prog w) A env fun e s' => R (.error e) s') s₁') (notedBy (model prog w) A env fun e s' => R (.error e) s') s₁) (notedBy (model prog w) A env fun e s' => R (.error e) s') s)
    (n : Nat) (h : I n s) : codeAny (model prog w) A (.compLoop (.ListComp elt [⟨target, iter, ifs, 0⟩] scope pos) 0 it acc env) R s := by
  refine codeAny_loop rfl I (fun n s hI => ?_) n h
  show wpAny _ A ((compTurn (.ListComp elt [⟨target, iter, ifs, 0⟩] scope pos) 0 it acc env).onRaise (fun x => do noteFrame x env; theTreesLotGoes x)) _ _ s
  refine wpAny_noted ?_
  rw [compTurn_gen]
  refine wpAny_bind (wpAny_standAt (wpAny_bind (wpAny_mono (turn n s hI) (fun r s₁ h₁ => ?_) fun _ _ h' => h')))
  cases r with
  | none => exact wpAny_pure h₁
  | some v =>
    refine wpAny_bind (wpAny_mono h₁ (fun _ s₁' h₁' => ?_) fun _ _ h' => h')
    refine wpAny_bind (wpAny_mono h₁' (fun _ s₂ h₂ => wpAny_bind (wpAny_mono h₂ (fun ok s₃ h₃ => ?_) fun _ _ h' => h')) fun _ _ h' => h')
    cases ok with
    | false => exact wpAny_pure ⟨rfl, h₃⟩
    | true => exact wpAny_bind (wpAny_bind (wpAny_mono h₃ (fun x s₄ h₄ => wpAny_bind (wpAny_mono h₄ (fun _ s₅ h₅ => wpAny_pure (wpAny_pure ⟨rfl, h₅⟩)) fun _ _ h' => h')) fun _ _ h' => h'))
end

/-- what a comprehension takes over from its block -/
def Cap (f : Fm) (scope : Scope) (cl : List (Str × Addr)) (ρ ρc : List (Str × Slot)) : Prop :=
  Sub ρc ρ ∧ (∀ x sl, ρc.lookup x = some sl → ∃ c, f.env.cells.lookup x = some c ∧ cl.lookup x = some c ∧ (f.env.kindOf x = some .cell ∨ f.env.kindOf x = some .free) ∧ ((relabel scope f.env).names.lookup x = some .cell ∨ (relabel scope f.env).names.lookup x = some .free)) ∧
  (∀ n c, cl.lookup n = some c → f.env.cells.lookup n = some c) ∧ cl.Pairwise (fun x y => x.2 ≠ y.2)

theorem Cap.nil {f : Fm} {scope : Scope} {ρ : List (Str × Slot)} : Cap f scope [] ρ [] := ⟨Sub.nilS ρ, fun x sl h => by simp at h, fun n c h => by simp at h, .nil⟩
theorem Cap.of {f : Fm} {scope : Scope} {cl : List (Str × Addr)} {ρ ρc : List (Str × Slot)} (hsub : Sub ρc ρ)
    (h : ∀ x ∈ ρc.map (·.1), ∃ c, f.env.cells.lookup x = some c ∧ cl.lookup x = some c ∧ (f.env.kindOf x = some .cell ∨ f.env.kindOf x = some .free) ∧ ((relabel scope f.env).names.lookup x = some .cell ∨ (relabel scope f.env).names.lookup x = some .free))
    (hcl : ∀ p ∈ cl, f.env.cells.lookup p.1 = some p.2) (hp : cl.Pairwise (fun x y => x.2 ≠ y.2)) : Cap f scope cl ρ ρc :=
  ⟨hsub, fun x sl hx => h x (List.mem_map.mpr ⟨_, mem_of_lookup hx, rfl⟩), fun n c hc => hcl _ (mem_of_lookup hc), hp⟩

/-- a comprehension's items -/
def picked {α : Type} (p : α → Bool) (g : α → Dat) (xs : List α) : List Dat := (xs.filter p).map g

section
variable {f : Fm} {O : List (Addr × List Dat)} {ρ ρc : List (Str × Slot)} {iter tgt elt : Expr} {ifs : List Expr} {scope : Scope} {pos : Pos} {cl : List (Str × Addr)} {ds : List Dat} {α : Type} {xs : List α} {j : α → Dat} {p : α → Bool} {g : α → Dat}

theorem picked_take {i : Nat} {d : α} (h : xs[i]? = some d) : picked p g (xs.take (i + 1)) = picked p g (xs.take i) ++ (if p d then [g d] else []) := by
  unfold picked
  rw [List.take_add_one, h]
  cases hp : p d <;> simp [hp]

theorem St.comp {s₁ s' s₄ : Shared} {wr fp : List Addr} {vs : List Value} {es : List Dat} {J : Nat → Heap → Prop} {it : Value} {Dd C : Addr} {V : List Addr} (st1 : St f O ρ s₁) (hcap : Cap f scope cl ρ ρc) (hkind : scope.kind = .function) (hd : HasL (f.V O) s₁.heap vs es)
    (IT : Itr f.prog f.w f.A V it tgt vs es ds J fp wr) (hJ : J 0 s'.heap) (hlo : ∀ b ∈ wr, s₁.heap.objs.size ≤ b) (m₂ : Mv f.G f.W s₁ s') (hDd : Dd = s'.heap.objs.size)
    (keep : ∀ b o, s'.heap.get? b = some o → s₄.heap.get? b = some o) (m₄ : Mv f.G f.W s₁ s₄) (hC : s'.heap.objs.size < C) (hns : s₄.heap.Ns C fun _ => none) (hpl : s₄.heap.PlainList Dd #[]) (hle : s₁.heap.objs.size ≤ s'.heap.objs.size) :
    J 0 s₄.heap ∧ Dd ∉ fp ∧ St (withF (compF f [] cl C scope s₁) (wr ++ f.V O) (objsAt s₄.heap fp) [(vs, es)]) [(Dd, [])] ρc s₄ := by
  have st4 := st1.mv m₄
  have nwr : ∀ a o, s₁.heap.get? a = some o → a ∉ wr := fun a o e hw => absurd (Heap.lt_size e) (Nat.not_lt.mpr (hlo a hw))
  have nD : ∀ a o, s₁.heap.get? a = some o → a ≠ Dd := fun a o e q => by
    have := Heap.lt_size e
    rw [q, hDd] at this
    exact absurd this (Nat.not_lt.mpr hle)
  have vlt : ∀ a ∈ f.V O, ∃ o, s₁.heap.get? a = some o := fun a ha => by
    rcases List.mem_append.mp ha with ha | ha
    · obtain ⟨p, hp, rfl⟩ := List.mem_map.mp ha
      obtain ⟨us, ⟨n, e⟩, _⟩ := st1.own p hp
      exact ⟨_, e⟩
    · exact st1.v0 a ha
  have dk : DKeep (f.V O) ([Dd] ++ (wr ++ f.V O)) s₁.heap s₄.heap := by
    have d0 := m₄.dkeep (V := f.V O)
    have nv : ∀ a o, s₁.heap.get? a = some o → a ∉ f.V O → a ∉ [Dd] ++ (wr ++ f.V O) := fun a o e h1 h => by
      rcases List.mem_append.mp h with h | h
      · exact nD a o e (List.mem_singleton.mp h)
      · rcases List.mem_append.mp h with h | h
        · exact nwr a o e h
        · exact h1 h
    refine ⟨fun a items ha hi => ⟨(d0.1 a items ha hi).1, ?_⟩, fun a items ha hi => ⟨(d0.2 a items ha hi).1, ?_⟩⟩
    · obtain ⟨o, e, _⟩ := hi
      exact nv a o e ha
    · obtain ⟨n, e⟩ := hi
      exact nv a _ e ha
  have Dfp : Dd ∉ fp := fun h => by
    obtain ⟨o, e⟩ := IT.ex 0 _ hJ _ h
    have := Heap.lt_size e
    rw [hDd] at this
    exact Nat.lt_irrefl _ this
  have Dnot : Dd ∉ wr ++ f.V O := fun h => by
    rcases List.mem_append.mp h with h | h
    · exact Dfp (IT.sub _ h)
    · obtain ⟨o, e⟩ := vlt _ h
      exact nD _ _ e rfl
  have hJ4 : J 0 s₄.heap := IT.frame _ _ _ hJ fun b _ o e => keep b o e
  refine ⟨hJ4, Dfp, { ok := ⟨st1.ok.hh, hkind, st1.ok.glob, st1.ok.bi, st1.ok.bas, st1.bel.stays, Nat.le_of_lt (Nat.lt_of_le_of_lt hle hC), hcap.2.2.2, (fun h => nomatch h), fun a ha => Or.inl ha⟩, bel := st4.bel, frm := m₄, loc := ⟨_, hns⟩, cel := fun n c hc => st4.cel n c (hcap.2.2.1 n c hc), vars := fun x sl hx => ?_, own := fun p hp => ?_, nod := by simp, fO := fun p hp => ?_, v0 := fun a ha => ?_, frD := st4.frD, kep := fun p hp => ?_, oV := fun p hp => ?_, dat := fun p hp => ?_, tab := st4.tab }⟩
  · obtain ⟨v, hv, hs⟩ := st1.vars x sl (hcap.1 x sl hx)
    obtain ⟨c, h1, h2, h3, h4⟩ := hcap.2.1 x sl hx
    refine ⟨v, .inr ⟨h4, c, h2, ?_⟩, hs.keep dk⟩
    rcases hv with ⟨hk, _⟩ | ⟨_, c', hc', hv'⟩
    · rcases h3 with h3 | h3 <;> (rw [h3] at hk; cases hk)
    · rw [h1] at hc'; cases hc'
      exact m₄.cell hv'
  · rw [List.mem_singleton.mp hp]
    exact ⟨[], hpl, .nil⟩
  · rw [List.mem_singleton.mp hp]
    show s₁.heap.objs.size ≤ Dd
    rw [hDd]; exact hle
  · rcases List.mem_append.mp ha with ha | ha
    · obtain ⟨o, e⟩ := IT.ex 0 _ hJ a (IT.sub a ha)
      exact ⟨o, keep a o e⟩
    · obtain ⟨o, e⟩ := vlt a ha
      exact m₄.there e
  · obtain ⟨h1, h2⟩ := objsAt_mem hp
    refine ⟨h2, IT.fpOk 0 _ hJ4 _ h1 _ h2, fun q => ?_⟩
    rw [List.mem_singleton.mp q] at h1
    exact Dfp h1
  · rw [List.mem_singleton.mp hp]; exact Dnot
  · rw [List.mem_singleton.mp hp]; exact hd.keep dk

/-- what a turn of a comprehension does -/
def Turn {α : Type} (f : Fm) (scope : Scope) (cl : List (Str × Addr)) (ρc : List (Str × Slot)) (tgt elt : Expr) (ifs : List Expr) (xs : List α) (j : α → Dat) (p : α → Bool) (g : α → Dat) : Prop :=
  ∀ (C : Addr) (s₁ : Shared) (V : List Addr) (K : List (Addr × Obj)) (D : List (List Value × List Dat)) (Dd : Addr) (acc : List Dat) (i : Nat) (d : α), xs[i]? = some d →
    ∃ ρ'', Sub ρc ρ'' ∧ As (withF (compF f [] cl C scope s₁) V K D) [(Dd, acc)] ρc tgt (j d) ρ'' ∧ Ts (withF (compF f [] cl C scope s₁) V K D) [(Dd, acc)] ρ'' ifs (p d) ∧
      (p d = true → Ev (withF (compF f [] cl C scope s₁) V K D) [(Dd, acc)] ρ'' elt (g d))

/-- the block of a comprehension -/
theorem comp_core {s₁ s' : Shared} {wr fp : List Addr} {vs : List Value} {es : List Dat} {J : Nat → Heap → Prop} {it : Value} {RR : Value → Addr → Result → Shared → Prop} {E : Value → Shared → Prop}
    (st1 : St f O ρ s₁) (hcap : Cap f scope cl ρ ρc) (hkind : scope.kind = .function) (hcell : ∀ y ∈ scope.names, y.2 ≠ .cell) (hd : HasL (f.V O) s₁.heap vs es)
    (ITA : ∀ V, (∀ b ∈ wr, b ∈ V) → Itr f.prog f.w f.A V it tgt vs es (xs.map j) J fp wr) (hJ : J 0 s'.heap) (hlo : ∀ b ∈ wr, s₁.heap.objs.size ≤ b) (hle : s₁.heap.objs.size ≤ s'.heap.objs.size) (m₂ : Mv f.G f.W s₁ s') (hsz : xs.length ≤ sizeLine) (turn : Turn f scope cl ρc tgt elt ifs xs j p g)
    (hRR : ∀ Dd C m s₅ us, s₁.heap.objs.size ≤ Dd → s₁.heap.objs.size ≤ C → Dd ≠ C → s₅.heap.Ns C m → Mv f.G f.W s₁ s₅ → s₅.heap.PlainList Dd us.toArray → HasL (f.V O) s₅.heap us (picked p g xs) → Dd ∉ f.V O → RR (.ref Dd) C (.ok .next) s₅) :
    wpAny f.M f.A (newList []) (fun acc s₃ => wpAny f.M f.A (newFunctionEnv scope f.env.globals cl [] f.env.qual none .none (some f.env)) (fun cenv s₄ =>
      codeAny f.M f.A (.compStart (.ListComp elt [⟨tgt, iter, ifs, 0⟩] scope pos) 0 it acc { cenv with scope := relabel scope f.env }) (RR acc cenv.locals) s₄) E s₃) E s' := by
  refine wpAny_newObj_type (wpAny_newFunctionEnv hcell (by intro y hy; simp at hy) (fun h₁ hns₁ hsb₁ => ?_) hkind)
  dsimp only at hns₁ hsb₁ ⊢
  generalize hH2 : s'.heap.push { cls := .type "list", dict := none, data := .seq ([] : List Value).toArray } = H2 at hns₁ hsb₁ ⊢
  have hC : H2.objs.size = s'.heap.objs.size + 1 := by rw [← hH2, Heap.size_push]
  have hDC : s'.heap.objs.size ≠ H2.objs.size := by rw [hC]; exact Nat.ne_of_lt (Nat.lt_succ_self _)
  have below : ∀ b, b < s'.heap.objs.size → b ≠ H2.objs.size := fun b hb => by rw [hC]; exact Nat.ne_of_lt (Nat.lt_succ_of_lt hb)
  have old : ∀ b o, s'.heap.get? b = some o → h₁.get? b = some o := fun b o e => hsb₁.extBut b o (below b (Heap.lt_size e)) (Heap.get?_push_of_some _ (hH2 ▸ Heap.get?_push_of_some _ e))
  have hacc : h₁.PlainList s'.heap.objs.size #[] := ⟨_, hsb₁.extBut _ _ hDC (Heap.get?_push_of_some _ (hH2 ▸ Heap.get?_push_size _ rfl))⟩
  let V : List Addr := [s'.heap.objs.size] ++ (wr ++ f.V O)
  have IT := ITA V fun b hb => List.mem_append.mpr (.inr (List.mem_append.mpr (.inl hb)))
  have lo0 : ∀ b ∈ wr, s₁.heap.objs.size ≤ b := hlo
  have loop : ∀ s₄ : Shared, s₄ = { s' with heap := h₁, toks := s'.toks + ([] : List (Str × Value)).length } →
      codeAny f.M f.A (.compLoop (.ListComp elt [⟨tgt, iter, ifs, 0⟩] scope pos) 0 it (.ref s'.heap.objs.size) (compEnvC scope cl H2.objs.size f.env)) (RR (.ref s'.heap.objs.size) H2.objs.size) s₄ := by
    rintro s₄ rfl
    have m₄ : Mv f.G f.W s₁ { s' with heap := h₁, toks := s'.toks + ([] : List (Str × Value)).length } := m₂.trans (.of_keep old)
    obtain ⟨hJ4, Dfp, st4⟩ := St.comp (scope := scope) (cl := cl) (ρc := ρc) (C := H2.objs.size) st1 hcap hkind hd IT hJ hlo m₂ rfl old m₄ (by rw [hC]; exact Nat.lt_succ_self _) hns₁ hacc hle
    refine codeAny_compLoop_gen (fun n s => ∃ i, n = xs.length + 1 - i ∧ i ≤ xs.length ∧ J i s.heap ∧ St (withF (compF f [] cl H2.objs.size scope s₁) (wr ++ f.V O) (objsAt s.heap fp) [(vs, es)]) [(s'.heap.objs.size, picked p g (xs.take i))] ρc s) ?_ (xs.length + 1)
      ⟨0, rfl, Nat.zero_le _, hJ4, by simpa [picked] using st4⟩
    rintro n s₂ ⟨i, rfl, hi, hJi, st3⟩
    have vex : ∀ a ∈ V, ∃ o, s₂.heap.get? a = some o := fun a ha => by
      rcases List.mem_append.mp ha with ha | ha
      · obtain ⟨us, ⟨n, e⟩, _⟩ := st3.own _ (List.mem_singleton.mpr rfl)
        rw [List.mem_singleton.mp ha]; exact ⟨_, e⟩
      · exact st3.v0 a ha
    rcases Nat.lt_or_ge i xs.length with hlt | hge
    · have hd0 : xs[i]? = some xs[i] := List.getElem?_eq_getElem hlt
      have hd' : (xs.map j)[i]? = some (j xs[i]) := by rw [List.getElem?_map, hd0]; rfl
      have hdata : HasL V s₂.heap vs es := st3.dat (vs, es) (List.mem_singleton.mpr rfl)
      refine wpAny_mono (IT.item i (j xs[i]) s₂ (fun v s₄ => ∃ h' tk, s₄ = { s₂ with heap := h', toks := tk } ∧ J (i + 1) h' ∧ Has V h' v (j xs[i]) ∧ (∀ b o, b ∉ wr → s₂.heap.get? b = some o → h'.get? b = some o)) (notedBy (model f.prog f.w) f.A (compEnvC scope cl H2.objs.size f.env) _) hd' hJi hdata vex
        (fun v h' tk hJ' hv' hk' => ⟨h', tk, rfl, hJ', hv', hk'⟩)) (fun r s₄ hr => ?_) fun _ _ x => x
      obtain ⟨v, rfl, hr⟩ := hr
      refine wpAny_mono hr (fun _ s₅ h5 => ?_) fun _ _ x => x
      obtain ⟨h', tk, rfl, hJ', hv', hk'⟩ := h5
      have st4 : St (withF (compF f [] cl H2.objs.size scope s₁) (wr ++ f.V O) (objsAt h' fp) [(vs, es)]) [(s'.heap.objs.size, picked p g (xs.take i))] ρc { s₂ with heap := h', toks := tk } := by
        refine St.foreign (f := compF f [] cl H2.objs.size scope s₁) st3 lo0 (fun b hb => List.mem_append.mpr (.inl hb)) (fun a ha => ha) (fun a ha => ?_) (fun p hp => hp) (fun p hp => ?_) (fun b hb o e => IT.fpOk i _ hJi b (IT.sub b hb) o e) hk'
        · by_cases hw : a ∈ wr
          · exact IT.ex (i + 1) _ hJ' a (IT.sub a hw)
          · obtain ⟨o, e⟩ := st3.v0 a ha
            exact ⟨o, hk' a o hw e⟩
        · obtain ⟨h1, h2⟩ := objsAt_mem hp
          refine ⟨h2, IT.fpOk (i + 1) _ hJ' _ h1 _ h2, fun q => ?_⟩
          rw [List.mem_singleton.mp q] at h1
          exact Dfp h1
      obtain ⟨ρ'', hsub, has, hts, hel⟩ := turn H2.objs.size s₁ (wr ++ f.V O) (objsAt h' fp) [(vs, es)] s'.heap.objs.size (picked p g (xs.take i)) i xs[i] hd0
      have fin : ∀ (acc' : List Dat) (s₇ : Shared), acc' = picked p g (xs.take (i + 1)) → St (withF (compF f [] cl H2.objs.size scope s₁) (wr ++ f.V O) (objsAt h' fp) [(vs, es)]) [(s'.heap.objs.size, acc')] ρ'' s₇ →
          ∃ m, m < xs.length + 1 - i ∧ ∃ i, m = xs.length + 1 - i ∧ i ≤ xs.length ∧ J i s₇.heap ∧ St (withF (compF f [] cl H2.objs.size scope s₁) (wr ++ f.V O) (objsAt s₇.heap fp) [(vs, es)]) [(s'.heap.objs.size, picked p g (xs.take i))] ρc s₇ := by
        rintro acc' s₇ rfl st7
        have st7' := st7.weak hsub
        have kfp : ∀ b ∈ fp, ∀ o, h'.get? b = some o → s₇.heap.get? b = some o := fun b hb o e => (st7.kep (b, o) (mem_objsAt hb e)).1
        have hJ7 : J (i + 1) s₇.heap := IT.frame _ _ _ hJ' kfp
        refine ⟨xs.length + 1 - (i + 1), by omega, i + 1, rfl, hlt, hJ7, ?_⟩
        refine St.foreign (f := compF f [] cl H2.objs.size scope s₁) (wr := []) (h' := s₇.heap) (tk := s₇.toks) st7' (fun _ h => nomatch h) (fun _ h => nomatch h) (fun a ha => ha) (fun a ha => st7.v0 a ha) (fun p hp => hp) (fun p hp => ?_) (fun _ h => nomatch h) fun _ _ _ e => e
        obtain ⟨h1, h2⟩ := objsAt_mem hp
        refine ⟨h2, IT.fpOk (i + 1) _ hJ7 _ h1 _ h2, fun q => ?_⟩
        rw [List.mem_singleton.mp q] at h1
        exact Dfp h1
      refine has _ v _ _ st4 hv' fun s₆ st6 => ?_
      refine hts s₆ _ _ st6 fun s₆' m₆ => ?_
      have st6' := st6.mv m₆
      have ptk := picked_take (p := p) (g := g) hd0
      cases hp : p xs[i] with
      | false =>
        rw [hp] at ptk
        exact fin _ _ (by rw [ptk]; simp) st6'
      | true =>
        rw [hp] at ptk
        refine (hel hp).run s₆' _ _ st6' fun y s₈ m₈ hy => ?_
        have st8 := st6'.mv m₈
        obtain ⟨us, iu, hu⟩ := st8.own _ (List.mem_singleton.mpr rfl)
        have hul : us.length ≤ sizeLine := by
          rw [hu.length]
          refine Nat.le_trans ?_ hsz
          unfold picked
          rw [List.length_map]
          exact Nat.le_trans (List.length_filter_le _ _) (by rw [List.length_take]; exact Nat.min_le_right _ _)
        refine wpAny_list_append_plain (hsz := by simpa using hul) iu fun h₉ hp₉ hs₉ => ?_
        refine fin _ _ (by rw [ptk]; rfl) (st8.ownSet (i := 0) (vs' := us ++ [y]) rfl hs₉ (by simpa using hp₉) (hu.append (.one hy)))
    · have hie : i = xs.length := Nat.le_antisymm hi hge
      subst hie
      refine wpAny_mono (IT.done s₂ (fun s₄ => ∃ h' tk, s₄ = { s₂ with heap := h', toks := tk } ∧ ∀ b o, b ∉ wr → s₂.heap.get? b = some o → h'.get? b = some o) (notedBy (model f.prog f.w) f.A (compEnvC scope cl H2.objs.size f.env) _) (by rw [List.length_map]; exact hJi) fun h' tk hk' => ⟨h', tk, rfl, hk'⟩) (fun r s₄ hr => ?_) fun _ _ x => x
      obtain ⟨rfl, h', tk, rfl, hk'⟩ := hr
      have st5 : St (withF (compF f [] cl H2.objs.size scope s₁) (f.V O) [] []) [(s'.heap.objs.size, picked p g (xs.take xs.length))] ρc { s₂ with heap := h', toks := tk } := by
        refine St.foreign (f := compF f [] cl H2.objs.size scope s₁) (V' := f.V O) (K' := []) (D' := []) st3 lo0 (fun b hb => List.mem_append.mpr (.inl hb)) (fun a ha => List.mem_append.mpr (.inr ha)) (fun a ha => ?_) (fun p hp => nomatch hp) (fun p hp => nomatch hp) (fun b hb o e => IT.fpOk _ _ hJi b (IT.sub b hb) o e) hk'
        obtain ⟨o, e⟩ : ∃ o, s₁.heap.get? a = some o := by
          rcases List.mem_append.mp ha with ha | ha
          · obtain ⟨p, hp, rfl⟩ := List.mem_map.mp ha
            obtain ⟨us, ⟨n, e⟩, _⟩ := st1.own p hp
            exact ⟨_, e⟩
          · exact st1.v0 a ha
        have hw : a ∉ wr := fun hw => absurd (Heap.lt_size e) (Nat.not_lt.mpr (hlo _ hw))
        obtain ⟨o', e'⟩ := st3.v0 a (List.mem_append.mpr (.inr ha))
        exact ⟨o', hk' a o' hw e'⟩
      obtain ⟨us, iu, hu⟩ := st5.own _ (List.mem_singleton.mpr rfl)
      obtain ⟨m, hm⟩ := st5.loc
      rw [List.take_length] at hu
      refine hRR _ _ m _ us (st5.fO _ (List.mem_singleton.mpr rfl)) st5.ok.fL hDC hm st5.frm iu (hu.keep ?_) (st5.oV _ (List.mem_singleton.mpr rfl))
      exact ⟨fun x items hx hi => ⟨hi, fun q => hx (List.mem_append.mpr (.inr q))⟩, fun x items hx hi => ⟨hi, fun q => hx (List.mem_append.mpr (.inr q))⟩⟩
  have hJ1 : J 0 h₁ := IT.frame _ _ _ hJ fun b _ o e => old b o e
  exact codeAny_compStart_list (loop _ rfl) (IT.self 0 _ _ _ hJ1 (loop _ rfl))

/-- what is left of the comprehension's names -/
theorem comp_gone {s₁ s₅ : Shared} {C Dd : Addr} {h' : Heap} {m : Str → Option Value} {us : List Value} {res : List Dat} (hC : s₁.heap.objs.size ≤ C) (hDC : Dd ≠ C) (hn : s₅.heap.Ns C m) (mv : Mv f.G f.W s₁ s₅) (hp : s₅.heap.PlainList Dd us.toArray) (hu : HasL (f.V O) s₅.heap us res) (hDV : Dd ∉ f.V O)
    (hs : Heap.SameBut C s₅.heap h') : Mv f.G f.W s₁ { s₅ with heap := h' } ∧ Has (f.V O) h' (.ref Dd) (.list res) := by
  refine ⟨?_, ?_⟩
  · have ck : CKeep s₅.heap h' := by
      obtain ⟨oL, es, ep, eL, dL, _⟩ := id hn
      exact ckeep_at hs ⟨oL, eL, fun vs h => by rw [dL] at h; cases h⟩
    obtain ⟨⟨h1, t1, g1, rfl, c1⟩, g, k⟩ := mv
    refine ⟨⟨h', t1, g1, rfl, c1⟩, g, fun b o e => ?_⟩
    have q := k b o e
    have : b ≠ C := by rintro rfl; exact absurd (Heap.lt_size e) (Nat.not_lt.mpr hC)
    split
    · rename_i hb
      rw [if_pos hb] at q
      obtain ⟨o', e', c1, c2⟩ := q
      exact ⟨o', hs.extBut b _ this e', c1, fun q => (c2 q).up ck⟩
    rename_i hb
    rw [if_neg hb] at q
    obtain ⟨sl, e', c⟩ := q
    exact ⟨sl, hs.extBut b _ this e', c⟩
  · obtain ⟨oL, es, ep, eL, dL, _⟩ := id hn
    have dk : DKeep (f.V O) (f.V O) s₅.heap h' := dkeep_at hs (.inr ⟨oL, eL, fun items n q => by rw [dL] at q; cases q⟩)
    exact .list (dk.2 _ _ hDV hp).1 hDV (hu.keep dk)

/-- the names of a comprehension go -/
theorem St.letC {s : Shared} {C : Addr} {m : Str → Option Value} {h' : Heap} (st : St f O ρ s) (hn : s.heap.Ns C m) (hlo : f.s₀.heap.objs.size ≤ C) (hCL : f.env.locals ≠ C) (hW : C ∉ f.W) (hV : C ∉ f.V₀) (hs : Heap.SameBut C s.heap h') : St f O ρ { s with heap := h' } := by
  obtain ⟨oL, es, ep, eL, dL, _⟩ := id hn
  have dk : ∀ V, DKeep V V s.heap h' := fun V => dkeep_at hs (.inr ⟨oL, eL, fun items n q => by rw [dL] at q; cases q⟩)
  have ncell : ∀ c v, s.heap.IsCell c v → c ≠ C := by
    rintro c v ⟨o, e, d⟩ rfl
    rw [eL] at e; cases e; rw [dL] at d; cases d
  refine { ok := st.ok, bel := ⟨st.bel.stack, fun c o e => hs.extBut c o ?_ (st.bel.stays c o e), ?_⟩, frm := frm_at (tk := s.toks) st.frm hlo hs ⟨oL, eL, fun vs h => by rw [dL] at h; cases h⟩, loc := ?_, cel := fun n c hc => ?_, vars := fun y sl' hy => ?_, own := fun p hp => ?_, nod := st.nod, fO := st.fO, v0 := fun a ha => ?_, frD := fun a ha => ?_, kep := fun p hp => ?_, dat := fun p hp => (st.dat p hp).keep (dk _), oV := st.oV, tab := tab_at st.tab hs ⟨oL, eL, fun vs h => by rw [dL] at h; cases h⟩ }
  · rintro rfl; rw [st.ok.notG hlo] at e; cases e
  · have go : ∀ l : List Env, (∀ a ∈ l.filterMap (·.frame), a ≠ C) → s.heap.FunFrames f.G l → h'.FunFrames f.G l := by
      intro l
      induction l with
      | nil => intro _ _; trivial
      | cons env r ih =>
        rintro hd ⟨hk, ⟨L, o, hf, hn, ho, hdd⟩, hr⟩
        refine ⟨hk, ⟨L, o, hf, hn, hs.extBut L o (hd L (by rw [List.filterMap_cons, hf]; exact List.mem_cons_self)) ho, hdd⟩, ih (fun a ha => hd a ?_) hr⟩
        rw [List.filterMap_cons, hf]; exact List.mem_cons_of_mem _ ha
    exact go _ (fun a ha q => hW (q ▸ ha)) st.bel.frames
  · obtain ⟨mm, nn⟩ := st.loc
    exact ⟨mm, nn.sameBut hs hCL⟩
  · obtain ⟨v, q⟩ := st.cel n c hc
    exact ⟨v, q.sameBut hs (ncell c v q)⟩
  · obtain ⟨u, hu, q⟩ := st.vars y sl' hy
    refine ⟨u, ?_, q.keep (dk _)⟩
    rcases hu with ⟨k1, m1, n1, e1⟩ | ⟨k1, c1, l1, e1⟩
    · exact .inl ⟨k1, m1, n1.sameBut hs hCL, e1⟩
    · exact .inr ⟨k1, c1, l1, e1.sameBut hs (ncell _ _ e1)⟩
  · obtain ⟨vs, ⟨n, e⟩, r⟩ := st.own p hp
    refine ⟨vs, ⟨n, hs.extBut _ _ ?_ e⟩, r.keep (dk _)⟩
    rintro hpL
    rw [hpL, eL] at e; cases e; cases dL
  · obtain ⟨o, e⟩ := st.v0 a ha
    exact ⟨o, hs.extBut _ _ (fun q => hV (q ▸ ha)) e⟩
  · obtain ⟨o, es, ep, e, d⟩ := st.frD a ha
    exact ⟨o, es, ep, hs.extBut _ _ (fun q => hW (q ▸ ha)) e, d⟩
  · obtain ⟨e, b, c⟩ := st.kep p hp
    refine ⟨hs.extBut _ _ ?_ e, b, c⟩
    rintro hpL
    rw [hpL, eL] at e; cases e; exact b.1 _ _ dL

/-- a comprehension -/
theorem Ev.comp {p : α → Bool} {g : α → Dat} (hit : It f O ρ iter tgt (xs.map j)) (hclos : closureFor scope f.env = pure cl) (hcap : Cap f scope cl ρ ρc) (turn : Turn f scope cl ρc tgt elt ifs xs j p g) (hsz : xs.length ≤ sizeLine) (hkind : scope.kind = .function := by rfl) (hcell : ∀ y ∈ scope.names, y.2 ≠ .cell := by decide)
    (hnames : ∀ y ∈ scope.names, y.2 = .local → scope.names.lookup y.1 = some .local := by decide) (hs : ∀ x, foldedSetIterable iter f.env x = pure x := by intro _; rfl) : Ev f O ρ (.ListComp elt [⟨tgt, iter, ifs, 0⟩] scope pos) (.list (picked p g xs)) := by
  first | apply Ev.mk | apply EvS.mk | apply Tr.mk | apply EvL.mk | apply Ex.mk | apply ExS.mk | apply It.mk | skip
  intro s Q E st k
  rw [eval_ListComp]
  refine wpAny_comprehension_free (use := none) rfl hs hclos hkind hnames ?_
  refine hit.run s _ _ st fun it s₁ s' vs es J fp wr m₁ m₂ hd ITA hJ hlo hfO hle => ?_
  refine comp_core (RR := fun acc C => compPost _ _ E none Q acc C) (st.mv m₁) hcap hkind hcell hd ITA hJ hlo hle m₂ hsz turn ?_
  intro Dd C m s₅ us hDd hC hDC hn mv hp hu hDV
  refine ⟨m, hn, fun h' hs' => ?_⟩
  obtain ⟨h1, h2⟩ := comp_gone hC hDC hn mv hp hu hDV hs'
  exact k _ _ (m₁.trans h1) h2

/-- a comprehension that a name takes at once -/
theorem ExS.assignComp {p : α → Bool} {g : α → Dat} {y : Str} {py cpos : Pos} {Φ : Ot → Prop} (hk : f.env.kindOf y = some .local) (hit : It f O ρ iter tgt (xs.map j)) (hclos : closureFor scope f.env = pure cl) (hcap : Cap f scope cl ρ ρc) (turn : Turn f scope cl ρc tgt elt ifs xs j p g) (hsz : xs.length ≤ sizeLine)
    (hΦ : Φ (.next O (put ρ y (.dat (.list (picked p g xs)))))) (hsw : swapsWith (.ListComp elt [⟨tgt, iter, ifs, 0⟩] scope cpos) (some (.Name y py)) pos.line f.env = pure true := by rfl) (hkind : scope.kind = .function := by rfl) (hcell : ∀ y ∈ scope.names, y.2 ≠ .cell := by decide)
    (hnames : ∀ y ∈ scope.names, y.2 = .local → scope.names.lookup y.1 = some .local := by decide) (hs : ∀ x, foldedSetIterable iter f.env x = pure x := by intro _; rfl) : ExS f O ρ (.Assign [.Name y py] (.ListComp elt [⟨tgt, iter, ifs, 0⟩] scope cpos) pos) Φ := by
  first | apply Ev.mk | apply EvS.mk | apply Tr.mk | apply EvL.mk | apply Ex.mk | apply ExS.mk | apply It.mk | skip
  intro s E st
  rw [exec_Assign_Name_used _ _ _ _ hsw]
  refine wpAny_bind (wpAny_standAt (wpAny_bind ?_))
  show wpAny _ _ (do let _ ← comprehension (.ListComp elt [⟨tgt, iter, ifs, 0⟩] scope cpos) scope f.env _ (newList []) false (eval iter f.env) (some (PySem.assign (.Name y py) f.env))) _ _ s
  refine wpAny_bind (wpAny_mono (wpAny_comprehension_free (use := some (PySem.assign (.Name y py) f.env)) (Q := fun _ s' => Out f Φ .next s') rfl hs hclos hkind hnames ?_) (fun _ s' hq => wpAny_pure (wpAny_pure hq)) fun _ _ e => e)
  refine hit.run s _ _ st fun it s₁ s' vs es J fp wr m₁ m₂ hd ITA hJ hlo hfO hle => ?_
  refine comp_core (RR := fun acc C => compPost _ _ E (some (PySem.assign (.Name y py) f.env)) (fun _ s' => Out f Φ .next s') acc C) (st.mv m₁) hcap hkind hcell hd ITA hJ hlo hle m₂ hsz turn ?_
  intro Dd C m s₅ us hDd hC hDC hn mv hp hu hDV
  have st1 := st.mv m₁
  have st5 := st1.mv mv
  obtain ⟨mL, hL⟩ := st5.loc
  have hLC : f.env.locals ≠ C := by
    rintro e
    obtain ⟨_, n1⟩ := st1.loc
    exact absurd n1.lt (Nat.not_lt.mpr (by rw [e]; exact hC))
  show wpAny _ _ (PySem.assign (.Name y py) f.env (.ref Dd)) _ _ _
  refine wpAny_assign_Name (wpAny_storeName_local hk hL (fun h₂ hn₂ hs₂ => ?_) (by rw [st.ok.kind]; rfl))
  have hv : Has (f.V O) s₅.heap (.ref Dd) (.list (picked p g xs)) := .list hp hDV hu
  have st6 := st5.storeL (sl := .dat (.list (picked p g xs))) (tk := s₅.toks + 1) hk hv hL hn₂ hs₂
  refine ⟨m, hn.sameBut hs₂ (Ne.symm hLC), fun h₃ hs₃ => ⟨O, _, hΦ, ?_⟩⟩
  refine st6.letC (C := C) (m := m) (hn.sameBut hs₂ (Ne.symm hLC)) ?_ hLC (fun hw => ?_) (fun hw => ?_) hs₃
  · obtain ⟨_, n1⟩ := st1.loc
    exact Nat.le_trans (Nat.le_trans st1.ok.fL (Nat.le_of_lt n1.lt)) hC
  · obtain ⟨o, _, _, e, _⟩ := st1.frD C hw
    exact absurd (Heap.lt_size e) (Nat.not_lt.mpr hC)
  · obtain ⟨o, e⟩ := st1.v0 C hw
    exact absurd (Heap.lt_size e) (Nat.not_lt.mpr hC)

/-- a comprehension without tests -/
def TurnA {α : Type} (f : Fm) (scope : Scope) (cl : List (Str × Addr)) (ρc : List (Str × Slot)) (tgt elt : Expr) (xs : List α) (j : α → Dat) (g : α → Dat) : Prop :=
  ∀ (C : Addr) (s₁ : Shared) (V : List Addr) (K : List (Addr × Obj)) (D : List (List Value × List Dat)) (Dd : Addr) (acc : List Dat) (x : α), x ∈ xs →
    ∃ ρ'', Sub ρc ρ'' ∧ As (withF (compF f [] cl C scope s₁) V K D) [(Dd, acc)] ρc tgt (j x) ρ'' ∧ Ev (withF (compF f [] cl C scope s₁) V K D) [(Dd, acc)] ρ'' elt (g x)
theorem TurnA.turn (h : TurnA f scope cl ρc tgt elt xs j g) : Turn f scope cl ρc tgt elt [] xs j (fun _ => true) g := fun C s₁ V K D Dd acc i d hd =>
  let ⟨ρ'', a, b, c⟩ := h C s₁ V K D Dd acc d (List.mem_of_getElem? hd)
  ⟨ρ'', a, b, Ts.none, fun _ => c⟩
theorem picked_all : picked (fun _ => true) g xs = xs.map g := by unfold picked; rw [List.filter_eq_self.mpr fun _ _ => rfl]
theorem Ev.compA {g : α → Dat} (hit : It f O ρ iter tgt (xs.map j)) (hclos : closureFor scope f.env = pure cl) (hcap : Cap f scope cl ρ ρc) (turn : TurnA f scope cl ρc tgt elt xs j g) (hsz : xs.length ≤ sizeLine) (hkind : scope.kind = .function := by rfl) (hcell : ∀ y ∈ scope.names, y.2 ≠ .cell := by decide)
    (hnames : ∀ y ∈ scope.names, y.2 = .local → scope.names.lookup y.1 = some .local := by decide) (hs : ∀ x, foldedSetIterable iter f.env x = pure x := by intro _; rfl) : Ev f O ρ (.ListComp elt [⟨tgt, iter, [], 0⟩] scope pos) (.list (xs.map g)) :=
  Ev.of (Ev.comp hit hclos hcap turn.turn hsz hkind hcell hnames hs) (by rw [picked_all])
theorem ExS.assignCompA {g : α → Dat} {y : Str} {py cpos : Pos} {Φ : Ot → Prop} (hk : f.env.kindOf y = some .local) (hit : It f O ρ iter tgt (xs.map j)) (hclos : closureFor scope f.env = pure cl) (hcap : Cap f scope cl ρ ρc) (turn : TurnA f scope cl ρc tgt elt xs j g) (hsz : xs.length ≤ sizeLine)
    (hΦ : Φ (.next O (put ρ y (.dat (.list (xs.map g)))))) (hsw : swapsWith (.ListComp elt [⟨tgt, iter, [], 0⟩] scope cpos) (some (.Name y py)) pos.line f.env = pure true := by rfl) (hkind : scope.kind = .function := by rfl) (hcell : ∀ y ∈ scope.names, y.2 ≠ .cell := by decide)
    (hnames : ∀ y ∈ scope.names, y.2 = .local → scope.names.lookup y.1 = some .local := by decide) (hs : ∀ x, foldedSetIterable iter f.env x = pure x := by intro _; rfl) : ExS f O ρ (.Assign [.Name y py] (.ListComp elt [⟨tgt, iter, [], 0⟩] scope cpos) pos) Φ :=
  ExS.assignComp hk hit hclos hcap turn.turn hsz (by rw [picked_all]; exact hΦ) hsw hkind hcell hnames hs
end
end Mine

namespace Mine

/-! ## tuple targets -/
def puts : List (Str × Slot) → List (Str × Pos) → List Dat → List (Str × Slot)
  | ρ, x :: xs, d :: ds => puts (put ρ x.1 (.dat d)) xs ds
  | ρ, _, _ => ρ
section
variable {f : Fm} {O : List (Addr × List Dat)} {ρ : List (Str × Slot)} {pos : Pos} {ds : List Dat} {d : Dat}

/-- data that go along -/
theorem St.addD {s : Shared} {vs : List Value} {es : List Dat} (st : St f O ρ s) (h : HasL (f.V O) s.heap vs es) : St (withF f f.V₀ f.K ((vs, es) :: f.D)) O ρ s :=
  { ok := { st.ok with }, bel := st.bel, frm := st.frm, loc := st.loc, cel := st.cel, vars := st.vars, own := st.own, nod := st.nod, fO := st.fO, v0 := st.v0, frD := st.frD, kep := st.kep, oV := st.oV, tab := st.tab,
    dat := fun p hp => by
      rcases List.mem_cons.mp hp with rfl | hp
      · exact h
      · exact st.dat p hp }
theorem St.dropD {s : Shared} {D : List (List Value × List Dat)} (hD : ∀ p ∈ f.D, p ∈ D) (st : St (withF f f.V₀ f.K D) O ρ s) : St f O ρ s := st.drop (fun _ h => h) (fun _ h => h) hD

theorem assignEach_names (env : Env) : ∀ xs : List (Str × Pos), assignEach (xs.map fun p => Expr.Name p.1 p.2) env = xs.map fun p => (false, PySem.assign (.Name p.1 p.2) env)
  | [] => rfl
  | x :: xs => by
    show (false, PySem.assign (.Name x.1 x.2) env) :: assignEach (xs.map fun p => Expr.Name p.1 p.2) env = _
    rw [assignEach_names env xs]; rfl

theorem names_run {D : List (List Value × List Dat)} {E : Value → Shared → Prop} : ∀ (xs : List (Str × Pos)) (vs : List Value) (ds : List Dat) (ρ : List (Str × Slot)) (s : Shared) (Q : Unit → Shared → Prop), (∀ x ∈ xs, Binds f x.1) → xs.length = ds.length → vs.length = ds.length →
    (∀ (i : Nat) v d, vs[i]? = some v → ds[i]? = some d → ∃ p ∈ D, ∃ j : Nat, p.1[j]? = some v ∧ p.2[j]? = some d) → St (withF f f.V₀ f.K D) O ρ s → (∀ s', St (withF f f.V₀ f.K D) O (puts ρ xs ds) s' → Q () s') →
    wpAny f.M f.A (assignInOrder (xs.map fun p => PySem.assign (.Name p.1 p.2) f.env) vs) Q E s
  | [], [], [], _, s, Q, _, _, _, _, st, k => wpAny_assignInOrder_none (k s st)
  | x :: xs, v :: vs, d :: ds, ρ, s, Q, hb, h1, h2, hD, st, k => by
    refine wpAny_assignInOrder_more ?_
    obtain ⟨p, hp, j, hj1, hj2⟩ := hD 0 v d rfl rfl
    obtain ⟨d', e1, e2⟩ := (st.dat p hp).getV hj1
    rw [hj2] at e1; cases e1
    refine As.name (f := withF f f.V₀ f.K D) (d := d) (hb x List.mem_cons_self) s v _ _ st e2 fun s₁ st1 => ?_
    exact names_run xs vs ds _ s₁ Q (fun y hy => hb y (List.mem_cons_of_mem _ hy)) (by simpa using h1) (by simpa using h2) (fun i v d hv hd => hD (i + 1) v d (by simpa using hv) (by simpa using hd)) st1 k
  | [], v :: vs, [], _, _, _, _, _, h, _, _, _ => by simp at h
  | [], _, d :: ds, _, _, _, _, h, _, _, _, _ => by simp at h
  | x :: xs, _, [], _, _, _, _, h, _, _, _, _ => by simp at h
  | x :: xs, [], d :: ds, _, _, _, _, _, h, _, _, _ => by simp at h

theorem As.names {xs : List (Str × Pos)} {k : Nat} (hb : ∀ x ∈ xs, Binds f x.1) (hl : xs.length = ds.length) : As f O ρ (.Tuple (xs.map fun p => Expr.Name p.1 p.2) k pos) (.tuple ds) (puts ρ xs ds) := by
  intro s v Q E st hv kk
  cases hv with
  | tuple i1 n1 h1 =>
    rename_i a vs
    refine wpAny_assign_Tuple st.ok.hh i1 (by rw [assignEach_names]; simp [h1.length, hl]) ?_ fun h' hx => ?_
    · rw [assignEach_names]
      clear hb hl
      rw [List.findIdx?_eq_none_iff]
      intro y hy
      obtain ⟨p, _, rfl⟩ := List.mem_map.mp hy
      rfl
    · have m : Mv f.G f.W s { s with heap := h' } := Mv.of_keepH fun b o e => hx b o (Nat.ne_of_lt (Heap.lt_size e)) e
      have st1 := (st.mv m).addD (h1.mv m)
      have e1 : (assignEach (xs.map fun p => Expr.Name p.1 p.2) f.env).map (·.2) = xs.map fun p => PySem.assign (.Name p.1 p.2) f.env := by rw [assignEach_names, List.map_map]; rfl
      rw [e1]
      refine names_run (D := (vs, ds) :: f.D) xs vs ds ρ _ Q hb hl h1.length (fun i v d hv hd => ⟨(vs, ds), List.mem_cons_self, i, hv, hd⟩) st1 fun s' st' => ?_
      exact kk s' (st'.dropD fun p hp => List.mem_cons_of_mem _ hp)

theorem As.tuple2 {x y : Str} {px py : Pos} {k : Nat} {d1 d2 : Dat} (hx : Binds f x) (hy : Binds f y) : As f O ρ (.Tuple [.Name x px, .Name y py] k pos) (.tuple [d1, d2]) (put (put ρ x (.dat d1)) y (.dat d2)) :=
  As.names (xs := [(x, px), (y, py)]) (ds := [d1, d2]) (fun z hz => by
    rcases List.mem_cons.mp hz with rfl | hz
    · exact hx
    · rw [List.mem_singleton.mp hz]; exact hy) rfl
theorem As.tuple3 {x y z : Str} {px py pz : Pos} {k : Nat} {d1 d2 d3 : Dat} (hx : Binds f x) (hy : Binds f y) (hz : Binds f z) : As f O ρ (.Tuple [.Name x px, .Name y py, .Name z pz] k pos) (.tuple [d1, d2, d3]) (put (put (put ρ x (.dat d1)) y (.dat d2)) z (.dat d3)) :=
  As.names (xs := [(x, px), (y, py), (z, pz)]) (ds := [d1, d2, d3]) (fun w hw => by
    rcases List.mem_cons.mp hw with rfl | hw
    · exact hx
    · rcases List.mem_cons.mp hw with rfl | hw
      · exact hy
      · rw [List.mem_singleton.mp hw]; exact hz) rfl
end

/-! ## iterators that give tuples -/
theorem Itr.of_walksT {prog : Program} {w : World} {A : Around} {V : List Addr} {I : Addr} {elts : List Expr} {k : Nat} {pos : Pos} {vs : List Value} {es ds : List Dat} {fp wr : List Addr} {P : Nat → Array Value → Prop} {J : Nat → Heap → Prop} {Mid : Nat → Addr → Heap → Prop}
    (W : WalksT prog w A I fp wr ds.length P J Mid) (hw : ∀ b ∈ wr, b ∈ V)
    (hP : ∀ i vals d h, P i vals → ds[i]? = some d → HasL V h vs es → ∃ l, d = .tuple l ∧ HasL V h vals.toList l) (hok : ∀ i h, J i h → ∀ b ∈ fp, ∀ o, h.get? b = some o → KeepOk o) (hex : ∀ i h, J i h → ∀ b ∈ fp, ∃ o, h.get? b = some o) :
    Itr prog w A V (.ref I) (.Tuple elts k pos) vs es ds J fp wr where
  sub := W.sub
  frame := W.frame
  fpOk := hok
  ex := hex
  item := fun i d s Q E hd hJ hv hV k' => by
    have hlt : i < ds.length := (List.getElem?_eq_some_iff.mp hd).1
    refine W.item i s _ E hlt hJ fun T vals h' tk hPv hT hTup hMid hk => ⟨.ref T, rfl, W.go elts k pos i T _ _ _ hMid fun h'' hSt hk' => ?_⟩
    have hTw := W.apart i T _ hMid
    have hTV : T ∉ V := fun q => by
      obtain ⟨o, e⟩ := hV T q
      exact absurd (Heap.lt_size e) (Nat.not_lt.mpr hT)
    have keep : ∀ b o, b ∉ wr → s.heap.get? b = some o → h''.get? b = some o := fun b o hb e => hk' b o hb (hk b o hb e)
    obtain ⟨l, rfl, hl⟩ := hP i vals d h'' hPv hd (hv.out hw keep)
    refine k' (.ref T) h'' tk hSt ?_ keep
    obtain ⟨o, e, c, n, q⟩ := hTup
    exact .tuple (vs := vals.toList) ⟨o, hk' T o hTw e, c, n, by simpa using q⟩ hTV hl
  done := fun s Q E hJ k => W.done s _ E hJ fun h' tk hk => ⟨rfl, k h' tk hk⟩
  self := W.self

section
variable {f : Fm} {O : List (Addr × List Dat)} {ρ : List (Str × Slot)} {iter : Expr} {pos : Pos} {elts : List Expr} {k : Nat}

theorem Has.lists {V : List Addr} {h : Heap} {v : Value} {ds : List Dat} (x : Has V h v (.list ds)) : ∃ a vs, v = .ref a ∧ h.PlainList a vs.toArray ∧ a ∉ V ∧ HasL V h vs ds := by
  cases x with
  | list i n l => exact ⟨_, _, rfl, i, n, l⟩

/-- the pairs of two lists -/
theorem It.zip2 {ds₁ ds₂ : List Dat} (h : ∀ (s : Shared) (Q : Value → Shared → Prop) (E : Value → Shared → Prop), St f O ρ s → (∀ v₁ v₂ s', Mv f.G f.W s s' → Has (f.V O) s'.heap v₁ (.list ds₁) → Has (f.V O) s'.heap v₂ (.list ds₂) → wpAny f.M f.A (call (.type "zip") [v₁, v₂]) Q E s') → wpAny f.M f.A (eval iter f.env) Q E s) :
    It f O ρ iter (.Tuple elts k pos) ((ds₁.zip ds₂).map fun p => Dat.tuple [p.1, p.2]) := by
  first | apply Ev.mk | apply EvS.mk | apply Tr.mk | apply EvL.mk | apply Ex.mk | apply ExS.mk | apply It.mk | skip
  intro s Q E st kk
  refine h s _ _ st fun v₁ v₂ s₁ m₁ h₁ h₂ => ?_
  have st1 := st.mv m₁
  obtain ⟨a₁, vs₁, rfl, i₁, n₁, l₁⟩ := h₁.lists
  obtain ⟨a₂, vs₂, rfl, i₂, n₂, l₂⟩ := h₂.lists
  have lt₁ : a₁ < s₁.heap.objs.size := by obtain ⟨n, e⟩ := i₁; exact Heap.lt_size e
  have lt₂ : a₂ < s₁.heap.objs.size := by obtain ⟨n, e⟩ := i₂; exact Heap.lt_size e
  refine call_zip_2 i₁.isList i₂.isList fun h' hz hTI hTO hi1 hi2 hsz hkeep => ?_
  generalize hN : s₁.heap.objs.size = N at *
  have D : ZipApart (N + 4) (N + 2) (N + 3) N (N + 1) a₁ a₂ := by constructor <;> (show @Ne Nat _ _) <;> (have := lt₁; have := lt₂; simp only [Addr] at *; omega)
  have W := WalksT.zip2 (prog := f.prog) (w := f.w) st.ok.hh (N + 4) (N + 2) (N + 3) N (N + 1) a₁ a₂ D vs₁.toArray vs₂.toArray
  have hlen : min vs₁.toArray.size vs₂.toArray.size = ((ds₁.zip ds₂).map fun p => Dat.tuple [p.1, p.2]).length := by simp [l₁.length, l₂.length]
  rw [hlen] at W
  have hz0 : IsZip h' (N + 4) (N + 2) (N + 3) .none := hz
  refine W.self 0 _ _ _ ⟨hz, hTI, ⟨_, _, hTO⟩, hi1, hi2, i₁.isList.at fun o e => hkeep _ o e, i₂.isList.at fun o e => hkeep _ o e⟩ ?_
  refine kk (.ref (N + 4)) s₁ _ (vs₁ ++ vs₂) (ds₁ ++ ds₂) _ _ _ m₁ (Mv.of_keepH hkeep) (l₁.append l₂) (fun V hw => Itr.of_walksT W hw (fun i vals d h hv hd hh => ?_) (fun i h hJ b hb o e => ?_) fun i h hJ b hb => ?_)
    ⟨hz, hTI, ⟨_, _, hTO⟩, hi1, hi2, i₁.isList.at fun o e => hkeep _ o e, i₂.isList.at fun o e => hkeep _ o e⟩ (fun b hb => ?_) (fun b hb hO => ?_) (by rw [hN, hsz]; exact Nat.le_add_right _ _)
  · obtain ⟨x, y, hx, hy, rfl⟩ := hv
    have hx' : vs₁[i]? = some x := by simpa using hx
    have hy' : vs₂[i]? = some y := by simpa using hy
    have hil : i < vs₁.length := (List.getElem?_eq_some_iff.mp hx').1
    obtain ⟨d₁, e1, q1⟩ := hh.getV (k := i) (v := x) (by rw [List.getElem?_append_left hil]; exact hx')
    obtain ⟨d₂, e2, q2⟩ := hh.getV (k := vs₁.length + i) (v := y) (by rw [List.getElem?_append_right (Nat.le_add_right _ _), Nat.add_sub_cancel_left]; exact hy')
    rw [List.getElem?_append_left (by rw [← l₁.length]; exact hil)] at e1
    rw [l₁.length, List.getElem?_append_right (Nat.le_add_right _ _), Nat.add_sub_cancel_left] at e2
    refine ⟨[d₁, d₂], ?_, .cons q1 (.cons q2 .nil)⟩
    have ez : (ds₁.zip ds₂)[i]? = some (d₁, d₂) := List.getElem?_zip_eq_some.mpr ⟨e1, e2⟩
    rw [List.getElem?_map, ez] at hd
    simpa using hd.symm
  · obtain ⟨z1, z2, ⟨_, _, z3⟩, ⟨o4, z4, c4, d4⟩, ⟨o5, z5, c5, d5⟩, ⟨o6, z6, _, n6, d6⟩, ⟨o7, z7, _, n7, d7⟩⟩ := hJ
    simp only [List.mem_cons, List.not_mem_nil, or_false] at hb
    rcases hb with rfl | rfl | rfl | rfl | rfl | rfl | rfl
    · rw [z1] at e; cases e; exact keep_fields rfl rfl
    · rw [z2] at e; cases e; exact keep_seq rfl
    · rw [z3] at e; cases e; exact keep_seq rfl
    · rw [z4] at e; cases e; exact keep_fields d4 c4
    · rw [z5] at e; cases e; exact keep_fields d5 c5
    · rw [z6] at e; cases e; exact keep_seq d6
    · rw [z7] at e; cases e; exact keep_seq d7
  · obtain ⟨z1, z2, ⟨_, _, z3⟩, ⟨o4, z4, c4, d4⟩, ⟨o5, z5, c5, d5⟩, ⟨o6, z6, _, n6, d6⟩, ⟨o7, z7, _, n7, d7⟩⟩ := hJ
    simp only [List.mem_cons, List.not_mem_nil, or_false] at hb
    rcases hb with rfl | rfl | rfl | rfl | rfl | rfl | rfl
    · exact ⟨_, z1⟩
    · exact ⟨_, z2⟩
    · exact ⟨_, z3⟩
    · exact ⟨_, z4⟩
    · exact ⟨_, z5⟩
    · exact ⟨_, z6⟩
    · exact ⟨_, z7⟩
  · rw [hN]
    simp only [List.mem_cons, List.not_mem_nil, or_false] at hb
    rcases hb with rfl | rfl | rfl | rfl <;> first | exact Nat.le_refl _ | exact Nat.le_add_right _ _
  · have old : ∀ c, c ∈ O.map (·.1) → c < N := fun c hc => by
      obtain ⟨p, hp, rfl⟩ := List.mem_map.mp hc
      obtain ⟨us, ⟨n, e⟩, _⟩ := st1.own p hp
      rw [← hN]; exact Heap.lt_size e
    have hbN := old b hO
    simp only [List.mem_cons, List.not_mem_nil, or_false] at hb
    rcases hb with rfl | rfl | rfl | rfl | rfl | rfl | rfl
    · exact absurd hbN (Nat.not_lt.mpr (Nat.le_add_right _ _))
    · exact absurd hbN (Nat.not_lt.mpr (Nat.le_add_right _ _))
    · exact absurd hbN (Nat.not_lt.mpr (Nat.le_add_right _ _))
    · exact absurd hbN (Nat.lt_irrefl _)
    · exact absurd hbN (Nat.not_lt.mpr (Nat.le_add_right _ _))
    · exact n₁ (List.mem_append.mpr (.inl hO))
    · exact n₂ (List.mem_append.mpr (.inl hO))

/-- the numbered items of a list -/
theorem It.enumerate {ds : List Dat} (h : ∀ (s : Shared) (Q : Value → Shared → Prop) (E : Value → Shared → Prop), St f O ρ s → (∀ v s', Mv f.G f.W s s' → Has (f.V O) s'.heap v (.list ds) → wpAny f.M f.A (call (.type "enumerate") [v]) Q E s') → wpAny f.M f.A (eval iter f.env) Q E s) :
    It f O ρ iter (.Tuple elts k pos) (ds.zipIdx.map fun p => Dat.tuple [.int (p.2 : Nat), p.1]) := by
  first | apply Ev.mk | apply EvS.mk | apply Tr.mk | apply EvL.mk | apply Ex.mk | apply ExS.mk | apply It.mk | skip
  intro s Q E st kk
  refine h s _ _ st fun v s₁ m₁ h₁ => ?_
  have st1 := st.mv m₁
  obtain ⟨a, vs, rfl, i₁, n₁, l₁⟩ := h₁.lists
  have lt₁ : a < s₁.heap.objs.size := by obtain ⟨n, e⟩ := i₁; exact Heap.lt_size e
  refine call_enumerate_list i₁.isList fun h' he hit hsz hkeep => ?_
  generalize hN : s₁.heap.objs.size = N at *
  have W := WalksT.enumerate (prog := f.prog) (w := f.w) st.ok.hh (N + 1) N a (Nat.ne_of_gt (Nat.lt_succ_self _)) (Nat.ne_of_lt (Nat.lt_succ_of_lt lt₁)) (Nat.ne_of_lt lt₁) vs.toArray
  have hlen : vs.toArray.size = (ds.zipIdx.map fun p => Dat.tuple [.int (p.2 : Nat), p.1]).length := by simp [l₁.length]
  rw [hlen] at W
  have hJ0 : (∃ old, IsEnum h' (N + 1) N ((0 : Nat) : Int) old) ∧ h'.IsListIter N a 0 ∧ h'.IsList a vs.toArray := ⟨⟨_, he⟩, hit, i₁.isList.at fun o e => hkeep _ o e⟩
  refine W.self 0 _ _ _ hJ0 ?_
  refine kk (.ref (N + 1)) s₁ _ vs ds _ _ _ m₁ (Mv.of_keepH hkeep) l₁ (fun V hw => Itr.of_walksT W hw (fun i vals d h hv hd hh => ?_) (fun i h hJ b hb o e => ?_) fun i h hJ b hb => ?_)
    hJ0 (fun b hb => ?_) (fun b hb hO => ?_) (by rw [hN, hsz]; exact Nat.le_add_right _ _)
  · obtain ⟨t, x, hx, rfl⟩ := hv
    obtain ⟨d₁, e1, q1⟩ := hh.getV (k := i) (v := x) (by simpa using hx)
    refine ⟨[.int (i : Nat), d₁], ?_, .cons (.int _ _) (.cons q1 .nil)⟩
    rw [List.getElem?_map, List.getElem?_zipIdx, e1] at hd
    simpa using hd.symm
  · obtain ⟨⟨_, z1⟩, ⟨o4, z4, c4, d4⟩, ⟨o6, z6, _, n6, d6⟩⟩ := hJ
    simp only [List.mem_cons, List.not_mem_nil, or_false] at hb
    rcases hb with rfl | rfl | rfl
    · rw [z1] at e; cases e; exact keep_fields rfl rfl
    · rw [z4] at e; cases e; exact keep_fields d4 c4
    · rw [z6] at e; cases e; exact keep_seq d6
  · obtain ⟨⟨_, z1⟩, ⟨o4, z4, c4, d4⟩, ⟨o6, z6, _, n6, d6⟩⟩ := hJ
    simp only [List.mem_cons, List.not_mem_nil, or_false] at hb
    rcases hb with rfl | rfl | rfl
    · exact ⟨_, z1⟩
    · exact ⟨_, z4⟩
    · exact ⟨_, z6⟩
  · rw [hN]
    simp only [List.mem_cons, List.not_mem_nil, or_false] at hb
    rcases hb with rfl | rfl
    · exact Nat.le_add_right _ _
    · exact Nat.le_refl _
  · have old : ∀ c, c ∈ O.map (·.1) → c < N := fun c hc => by
      obtain ⟨p, hp, rfl⟩ := List.mem_map.mp hc
      obtain ⟨us, ⟨n, e⟩, _⟩ := st1.own p hp
      rw [← hN]; exact Heap.lt_size e
    have hbN := old b hO
    simp only [List.mem_cons, List.not_mem_nil, or_false] at hb
    rcases hb with rfl | rfl | rfl
    · exact absurd hbN (Nat.not_lt.mpr (Nat.le_add_right _ _))
    · exact absurd hbN (Nat.lt_irrefl _)
    · exact n₁ (List.mem_append.mpr (.inl hO))
end
end Mine

namespace Mine

/-! ## texts joined and cut -/
def jn (sep : List Nat) : List (List Nat) → List Nat
  | [] => []
  | [p] => p
  | p :: q :: r => p ++ sep ++ jn sep (q :: r)
def cut (c : Nat) : List Nat → List (List Nat)
  | [] => [[]]
  | x :: r => if x = c then [] :: cut c r else match cut c r with
    | p :: ps => (x :: p) :: ps
    | [] => [[x]]
theorem jn_S (sep : List Nat) : ∀ ps : List (List Nat), Str.join (S sep) (ps.map S) = S (jn sep ps)
  | [] => rfl
  | [p] => rfl
  | p :: q :: r => by
    show S p ++ S sep ++ Str.join (S sep) ((q :: r).map S) = _
    rw [jn_S sep (q :: r), S_append, S_append]; rfl
theorem cut_ne (c : Nat) : ∀ l, cut c l ≠ []
  | [] => by simp [cut]
  | x :: r => by
    unfold cut
    split
    · simp
    · split <;> simp
theorem cut_free (c : Nat) : ∀ l, c ∉ l → cut c l = [l]
  | [], _ => rfl
  | x :: r, h => by
    have h1 : ¬ x = c := fun e => h (e ▸ List.mem_cons_self)
    rw [cut, if_neg h1, cut_free c r fun m => h (List.mem_cons_of_mem _ m)]
theorem cut_app (c : Nat) (r : List Nat) : ∀ l, c ∉ l → cut c (l ++ c :: r) = l :: cut c r
  | [], _ => by simp [cut]
  | x :: l, h => by
    have h1 : ¬ x = c := fun e => h (e ▸ List.mem_cons_self)
    rw [List.cons_append, cut, if_neg h1, cut_app c r l fun m => h (List.mem_cons_of_mem _ m)]
theorem cut_jn (c : Nat) : ∀ ps : List (List Nat), ps ≠ [] → (∀ p ∈ ps, c ∉ p) → cut c (jn [c] ps) = ps
  | [], h, _ => absurd rfl h
  | [p], _, h => cut_free c p (h p (List.mem_singleton.mpr rfl))
  | p :: q :: r, _, h => by
    show cut c (p ++ [c] ++ jn [c] (q :: r)) = _
    rw [List.append_assoc, List.singleton_append, cut_app c _ p (h p List.mem_cons_self), cut_jn c (q :: r) (by simp) fun x hx => h x (List.mem_cons_of_mem _ hx)]
theorem cut_len (c : Nat) : ∀ l, (cut c l).length ≤ l.length + 1
  | [] => by simp [cut]
  | x :: r => by
    have ih := cut_len c r
    unfold cut
    split
    · simp; omega
    · split
      · rename_i p ps e; rw [e] at ih; simp at ih ⊢; omega
      · simp
theorem split_S (x : List Nat) (c : Nat) : Txt.split (S x) (S [c]) = (cut c x).map S := by
  have h1 := StrLaws.join_split (S x) (S [c])
  have h2 : ∀ p ∈ Txt.split (S x) (S [c]), c ∉ p.cps.toList := StrLaws.split_free (S x) c
  have hne : Txt.split (S x) (S [c]) ≠ [] := by
    unfold Txt.split
    split
    · simp
    · split
      · simp
      · rw [StrLaws.partsBetween_eq]
        obtain ⟨p, r, e⟩ := StrLaws.partsFrom_ne (S x) (S [c]).length 0 (Builtin.Str.occurrences (S x) (S [c]) 0 (S x).length ((S x).length + 1))
        rw [e]; simp
  generalize hT : Txt.split (S x) (S [c]) = T at *
  have hm : (T.map (·.cps.toList)).map S = T := by
    rw [List.map_map]
    conv => rhs; rw [← List.map_id T]
    apply List.map_congr_left
    intro a _
    exact (S_of a).symm
  have hx : x = jn [c] (T.map (·.cps.toList)) := by
    apply S_inj.mp
    rw [← jn_S, hm, h1]
  rw [hx, cut_jn c _ (by simpa using hne) ?_, hm]
  intro p hp
  obtain ⟨a, ha, rfl⟩ := List.mem_map.mp hp
  exact h2 a ha
theorem replace_S (x z : List Nat) (c : Nat) : Txt.replace (S x) (S [c]) (S z) = S (jn z (cut c x)) := by
  have h := StrLaws.replace_one (S x) (S z) c
  have e : (⟨#[c]⟩ : Str) = S [c] := rfl
  rw [e] at h
  rw [h, split_S, jn_S]
theorem count_aux (x : Str) (c : Nat) : ∀ (cuts : List Nat) (a f : Nat), StrLaws.ChainG x ⟨#[c]⟩ x.length a cuts f → (∀ k, f ≤ k → ¬ StrLaws.At x ⟨#[c]⟩ x.length k) → cuts.length = (x.cps.toList.drop a).count c
  | [], a, f, h, hn => by
    have e : f = a := h
    subst e
    symm
    rw [List.length_nil, List.count_eq_zero]
    intro hm
    obtain ⟨j, hj⟩ := List.getElem?_of_mem hm
    rw [List.getElem?_drop] at hj
    exact hn (f + j) (Nat.le_add_right _ _) ((StrLaws.subAt_one x c (f + j)).mpr hj)
  | d :: r, a, f, h, hn => by
    obtain ⟨h1, h2, h3, h4⟩ := h
    have ih := count_aux x c r _ f h4 hn
    have hd := (StrLaws.subAt_one x c d).mp h2
    have hdl : d < x.cps.toList.length := (List.getElem?_eq_some_iff.mp hd).1
    have e1 : x.cps.toList.drop a = (x.cps.toList.drop a).take (d - a) ++ x.cps.toList.drop d := by
      conv => lhs; rw [← List.take_append_drop (d - a) (x.cps.toList.drop a)]
      rw [List.drop_drop]
      congr 2; omega
    have e2 : x.cps.toList.drop d = c :: x.cps.toList.drop (d + 1) := by
      rw [List.drop_eq_getElem_cons hdl]
      congr 1
      rw [List.getElem?_eq_getElem hdl] at hd
      exact Option.some.inj hd
    have e3 : ((x.cps.toList.drop a).take (d - a)).count c = 0 := by
      rw [List.count_eq_zero]
      intro hm
      obtain ⟨j, hj⟩ := List.getElem?_of_mem hm
      have hlt : j < d - a := by
        have := (List.getElem?_eq_some_iff.mp hj).1
        rw [List.length_take] at this
        omega
      rw [List.getElem?_take_of_lt hlt, List.getElem?_drop] at hj
      exact h3 (a + j) (Nat.le_add_right _ _) (by omega) ((StrLaws.subAt_one x c (a + j)).mpr hj)
    have e4 : d + (⟨#[c]⟩ : Str).length = d + 1 := rfl
    rw [e4] at ih
    rw [e1, e2, List.count_append, e3, List.count_cons_self, List.length_cons, ih]
    omega
theorem count_S (x : List Nat) (c : Nat) : Txt.count (S x) (S [c]) = ((x.count c : Nat) : Int) := by
  obtain ⟨f, h1, h2⟩ := StrLaws.occ_tight (S x) ⟨#[c]⟩ (Nat.le_refl 1)
  have := count_aux (S x) c _ 0 f h1 h2
  unfold Txt.count
  have e : S [c] = (⟨#[c]⟩ : Str) := rfl
  rw [e, this]
  simp [S]

section
variable {f : Fm} {O : List (Addr × List Dat)} {ρ : List (Str × Slot)} {o e : Expr} {ap pos : Pos} {c d : Dat}

/-- a method of a text, with one argument -/
theorem Ev.methS {x : Str} {name : Str} {id : String} (ho : Ev f O ρ o (.str x)) (he : Ev f O ρ e d) (slot : PySem.Slot "str" name id) (ty : typeOf (.builtin id) = pure (.type "method_descriptor")) (h : Op2 f O ρ (fun a b => call (.builtin id) [a, b]) (.str x) d c)
    (hbase : attributeBase o name f.env (eval o f.env) = eval o f.env := by rfl) (hs : starEach [e] f.env = [(false, eval e f.env)] := by rfl) (hline : (ap.endLine == pos.line) = true := by rfl) : Ev f O ρ (.Call (.Attribute o name ap) [e] [] pos) c := by
  first | apply Ev.mk | apply EvS.mk | apply Tr.mk | apply EvL.mk | apply Ex.mk | apply ExS.mk | apply It.mk | skip
  intro s Q E st k
  refine Call_method1 hbase hs hline (ho.run s _ _ st fun v s₁ m₁ h₁ => ?_)
  cases h₁
  rename_i tx
  refine ⟨"str", id, F.plainAttrs_str, slot, ty, typeIs_str _ _ _, (fun a q => nomatch q), ?_⟩
  refine PySem.Calls.callWith_builtin rfl (PySem.Calls.evalArgs_plain (PySem.Calls.spliced_cons (he.run s₁ _ _ (st.mv m₁) fun v s₂ m₂ h₂ => PySem.Calls.spliced_nil ?_)))
  exact h s₂ _ v _ _ (st.mv (m₁.trans m₂)) (.str x tx) h₂ fun u s₃ m₃ h₃ => k u s₃ (m₁.trans (m₂.trans m₃)) h₃

theorem HasL.strs {V : List Addr} {h : Heap} : ∀ {vs : List Value} {ps : List (List Nat)}, HasL V h vs (ps.map fun p => Dat.str (S p)) → ∃ l : List (Str × Tok), vs = strValues l ∧ l.map (·.1) = ps.map S
  | _, [], .nil => ⟨[], rfl, rfl⟩
  | _, p :: ps, .cons a b => by
    obtain ⟨l, rfl, e⟩ := HasL.strs b
    cases a with
    | str x t => exact ⟨(S p, t) :: l, rfl, by simp [e]⟩

theorem joinOk_of (sep : Str) (ts : List Str) (h : (ts.map (·.length)).sum + ts.length * sep.length ≤ sizeLine) : JoinOk sep ts = true := by
  have go : ∀ (ts : List Str) (n : Nat), ts.foldl (fun a (x : Str) => a + x.length + sep.length) n = n + (ts.map (·.length)).sum + ts.length * sep.length := by
    intro ts
    induction ts with
    | nil => intro n; simp
    | cons t ts ih => intro n; rw [List.foldl_cons, ih]; simp only [List.map_cons, List.sum_cons, List.length_cons, Nat.add_mul, Nat.one_mul]; omega
  unfold JoinOk Builtin.Str.tooLong
  rw [List.foldl_toArray' (h := rfl), go]
  simp; omega

theorem Op2.joinL {sep : List Nat} {ds : List Dat} (ps : List (List Nat)) (hds : ds = ps.map fun p => Dat.str (S p)) (hsz : (ps.map (·.length)).sum + ps.length * sep.length ≤ sizeLine) : Op2 f O ρ (fun a b => call (.builtin "str.join") [a, b]) (.str (S sep)) (.list ds) (.str (S (jn sep ps))) := by
  subst hds
  intro s va vb Q E st ha hb k
  cases ha
  obtain ⟨a, vs, rfl, i1, n1, l1⟩ := hb.lists
  obtain ⟨l, rfl, e⟩ := l1.strs
  refine SC.join i1.isList e (joinOk_of _ _ ?_) fun t' tk => ?_
  · have e1 : (ps.map S).map (·.length) = ps.map (·.length) := by rw [List.map_map]; apply List.map_congr_left; intro p _; exact S_length p
    rw [e1, List.length_map, S_length]; exact hsz
  · have : Txt.join (S sep) (ps.map S) = S (jn sep ps) := by
      unfold Txt.join; rw [StrLaws.glued_eq_join, jn_S]
    rw [this]
    exact k _ _ (.toks _) (.str _ _)

theorem newStrs {s : Shared} {tk : Nat} (st : St f O ρ s) {l : List (Str × Tok)} {ps : List (List Nat)} (hl : l.map (·.1) = ps.map S) : Has (f.V O) (s.heap.push { cls := .type "list", data := .seq (strValues l).toArray }) (.ref s.heap.objs.size) (.list (ps.map fun p => Dat.str (S p))) := by
  refine newL st ?_
  induction ps generalizing l with
  | nil => cases l with | nil => exact .nil | cons a b => simp at hl
  | cons p ps ih =>
    cases l with
    | nil => simp at hl
    | cons a l =>
      simp only [List.map_cons, List.cons.injEq] at hl
      show HasL _ _ (Value.str a.1 a.2 :: strValues l) (Dat.str (S p) :: ps.map fun p => Dat.str (S p))
      rw [hl.1]
      exact .cons (.str _ _) (ih hl.2)

theorem Op2.splitOne {x : List Nat} {y : Nat} (hsz : x.length + 1 ≤ sizeLine) : Op2 f O ρ (fun a b => call (.builtin "str.split") [a, b]) (.str (S x)) (.str (S [y])) (.list ((cut y x).map fun p => Dat.str (S p))) := by
  intro s va vb Q E st ha hb k
  cases ha; cases hb
  rename_i t u
  have hx : (S x).length ≤ sizeLine := by rw [S_length]; omega
  have hy : ((S [y]).length == 0) = false := rfl
  have hsp := split_S x y
  cases h1 : (decide ((S x).length < (S [y]).length) || decide (Builtin.Str.strKind (S x) < Builtin.Str.strKind (S [y])))
  · cases hf : (Builtin.Str.occurrences (S x) (S [y]) 0 (S x).length ((S x).length + 1)).isEmpty
    · have e : Txt.split (S x) (S [y]) = Builtin.Str.partsBetween (S x) (Builtin.Str.occurrences (S x) (S [y]) 0 (S x).length ((S x).length + 1)) (S [y]).length := by
        unfold Txt.split; rw [h1, hf]; rfl
      have hn : (Builtin.Str.partsBetween (S x) (Builtin.Str.occurrences (S x) (S [y]) 0 (S x).length ((S x).length + 1)) (S [y]).length).length ≤ sizeLine := by
        rw [← e, hsp, List.length_map]
        exact Nat.le_trans (cut_len y x) hsz
      refine call_meets F.slot_str_split (typeIs_str _ _ _) F.entry_str_split (F.args_str_split_2 _ _) (meets_str_split_sep (S x) (S [y]) t u h1 hy hf hx hn) ?_
      show wants Q E _ { s with toks := _, heap := s.heap.push { cls := .type "list", data := .seq (strsFrom s.toks (Builtin.Str.partsBetween (S x) (Builtin.Str.occurrences (S x) (S [y]) 0 (S x).length ((S x).length + 1)) (S [y]).length)).toArray } }
      rw [strsFrom_eq]
      exact k _ _ (.of_keep fun b o e => Heap.get?_push_of_some _ e) (newStrs (tk := 0) st (by rw [numbered_texts, ← e, hsp]))
    · have e : Txt.split (S x) (S [y]) = [S x] := by unfold Txt.split; rw [h1, hf]; rfl
      exact call_meets F.slot_str_split (typeIs_str _ _ _) F.entry_str_split (F.args_str_split_2 _ _) (meets_str_split_not_found (S x) (S [y]) t u h1 hy hf)
        (k _ _ (.of_keep fun b o e => Heap.get?_push_of_some _ e) (newStrs (tk := 0) st (l := [(S x, t)]) (by rw [← hsp, e]; rfl)))
  · have e : Txt.split (S x) (S [y]) = [S x] := by unfold Txt.split; rw [h1]; rfl
    exact call_meets F.slot_str_split (typeIs_str _ _ _) F.entry_str_split (F.args_str_split_2 _ _) (meets_str_split_cannot_occur (S x) (S [y]) t u h1)
      (k _ _ (.of_keep fun b o e => Heap.get?_push_of_some _ e) (newStrs (tk := 0) st (l := [(S x, t)]) (by rw [← hsp, e]; rfl)))

theorem Op2.countOne {x : List Nat} {y : Nat} : Op2 f O ρ (fun a b => call (.builtin "str.count") [a, b]) (.str (S x)) (.str (S [y])) (.int ((x.count y : Nat) : Int)) := by
  intro s va vb Q E st ha hb k
  cases ha; cases hb
  refine SC.count ?_
  rw [count_S]
  exact k _ _ (.toks _) (.int _ _)

/-! ### in -/
theorem Op2.inStr1 {x : List Nat} {y : Nat} : Op2 f O ρ (compareOp .In) (.str (S [y])) (.str (S x)) (.bool (decide (y ∈ x))) := by
  intro s va vb Q E st ha hb k
  cases ha; cases hb
  refine P.in_str ?_
  have := StrLaws.found_one (S x) y
  have e : S [y] = (⟨#[y]⟩ : Str) := rfl
  rw [e, this]
  have e2 : (S x).cps.toList = x := by simp [S]
  rw [e2]
  exact k _ _ (.refl s) (.bool _)
theorem Op2.notInStr1 {x : List Nat} {y : Nat} : Op2 f O ρ (compareOp .NotIn) (.str (S [y])) (.str (S x)) (.bool (!decide (y ∈ x))) := by
  intro s va vb Q E st ha hb k
  cases ha; cases hb
  refine PyProof.Rows.notIn_str ?_
  have := StrLaws.found_one (S x) y
  have e : S [y] = (⟨#[y]⟩ : Str) := rfl
  rw [e, this]
  have e2 : (S x).cps.toList = x := by simp [S]
  rw [e2]
  exact k _ _ (.refl s) (.bool _)
theorem HasL.strsAre {V : List Addr} {h : Heap} : ∀ {vs : List Value} {ps : List Str}, HasL V h vs (ps.map Dat.str) → StrsAre vs ps
  | _, [], .nil => .nil
  | _, p :: ps, .cons a b => by
    cases a with
    | str x t => exact .cons _ _ (HasL.strsAre b)
theorem HasL.intsAre {V : List Addr} {h : Heap} : ∀ {vs : List Value} {ps : List Int}, HasL V h vs (ps.map Dat.int) → IntsAre vs ps
  | _, [], .nil => .nil
  | _, p :: ps, .cons a b => by
    cases a with
    | int x t => exact .cons _ _ (HasL.intsAre b)
theorem Op2.inStrs {x : Str} {ys : List Str} : Op2 f O ρ (compareOp .In) (.str x) (.tuple (ys.map Dat.str)) (.bool (ys.any (· == x))) := by
  intro s va vb Q E st ha hb k
  cases ha
  cases hb with
  | tuple i1 n1 h1 => exact in_tuple_strs i1 (by simpa using h1.strsAre) (k _ _ (.refl s) (.bool _))
theorem Op2.inInts {x : Int} {ys : List Int} : Op2 f O ρ (compareOp .In) (.int x) (.tuple (ys.map Dat.int)) (.bool (ys.any (· == x))) := by
  intro s va vb Q E st ha hb k
  cases ha
  cases hb with
  | tuple i1 n1 h1 => exact in_tuple_ints i1 (by simpa using h1.intsAre) (k _ _ (.refl s) (.bool _))

/-! ### equal data -/
mutual
theorem Has.reads {V : List Addr} {h : Heap} : ∀ {v : Value} {d : Dat} (n : Nat), Has V h v d → kqdOk n d = true → ∃ as, Reads h v (kqdP d) as
  | _, _, _, .none, _ => ⟨_, Reads.none⟩
  | _, _, _, .bool b, _ => ⟨_, Reads.bool b⟩
  | _, _, _, .int i t, _ => ⟨_, Reads.int i t⟩
  | _, _, _, .str x t, _ => ⟨_, Reads.str x t⟩
  | _, _, 0, .tuple _ _ _, hk => by simp [kqdOk] at hk
  | _, _, 0, .list _ _ _, hk => by simp [kqdOk] at hk
  | _, _, n + 1, .tuple ⟨o, e, c, m, dd⟩ _ r, hk => by
    obtain ⟨as, q⟩ := HasL.reads n r (by simpa [kqdOk] using hk)
    rw [kqdP]
    exact ⟨as, Reads.tuple e c dd (by simpa using q)⟩
  | _, _, n + 1, .list ⟨m, e⟩ _ r, hk => by
    obtain ⟨as, q⟩ := HasL.reads n r (by simpa [kqdOk] using hk)
    rw [kqdP]
    exact ⟨_, Reads.list e rfl rfl (by simpa using q)⟩
theorem HasL.reads {V : List Addr} {h : Heap} : ∀ {vs : List Value} {ds : List Dat} (n : Nat), HasL V h vs ds → (∀ d ∈ ds, kqdOk n d = true) → ∃ as, ReadsAll h vs (kqdPs ds) as
  | _, _, _, .nil, _ => ⟨_, ReadsAll.nil⟩
  | _, _, n, .cons hd r, hk => by
    obtain ⟨as, q⟩ := Has.reads n hd (hk _ (.head _))
    obtain ⟨bs, p⟩ := HasL.reads n r fun d hm => hk d (.tail _ hm)
    rw [kqdPs]
    exact ⟨_, ReadsAll.cons q p⟩
end
theorem kqd_bool {d e : Dat} {b : Bool} (h1 : kqdOk 8 d = true) (h2 : kqdOk 8 e = true) (hb : b = true ↔ d = e) : PyData.eqv (kqdP d) (kqdP e) = b := by
  have q := kqd_eqv 8 d e 8 h1 h2
  rw [Bool.eq_iff_iff, q, hb]
theorem kqd_shaped {d : Dat} (h1 : kqdOk 8 d = true) : SeqAt.shaped (kqdP d) = true := by
  have l := kqd_lay 8 d h1
  unfold SeqAt.shaped; rw [l.1, Bool.true_and]; exact decide_eq_true (Nat.le_trans l.2 (by decide))
theorem Op2.eqD {a e : Dat} {b : Bool} (h1 : kqdOk 8 a = true) (h2 : kqdOk 8 e = true) (hu : f.A.units + 64 < cLine) (hb : b = true ↔ a = e) : Op2 f O ρ (compareOp .Eq) a e (.bool b) := by
  intro s va vb Q E st ha hb' k
  obtain ⟨as, ra⟩ := ha.reads 8 h1
  obtain ⟨bs, rb⟩ := hb'.reads 8 h2
  refine eq_dataH ra rb (kqd_shaped h1) (kqd_shaped h2) hu ?_
  rw [kqd_bool h1 h2 hb]
  exact k _ _ (.refl s) (.bool _)
theorem Op2.neD {a e : Dat} {b : Bool} (h1 : kqdOk 8 a = true) (h2 : kqdOk 8 e = true) (hu : f.A.units + 64 < cLine) (hb : b = true ↔ a = e) : Op2 f O ρ (compareOp .NotEq) a e (.bool (!b)) := by
  intro s va vb Q E st ha hb' k
  obtain ⟨as, ra⟩ := ha.reads 8 h1
  obtain ⟨bs, rb⟩ := hb'.reads 8 h2
  refine ne_dataH ra rb (kqd_shaped h1) (kqd_shaped h2) hu ?_
  rw [kqd_bool h1 h2 hb]
  exact k _ _ (.refl s) (.bool _)
end
end Mine

namespace Mine

/-! ## the reader, plainly -/
def scanQ (q : Nat) : List Nat → List Nat
  | [] => []
  | c :: r => if c = q then (match r with | d :: r' => if d = q then q :: scanQ q r' else [] | [] => []) else c :: scanQ q r
theorem scanQ_nil (q : Nat) : scanQ q [] = [] := by simp [scanQ]
theorem scanQ_qq (q : Nat) (r : List Nat) : scanQ q (q :: q :: r) = q :: scanQ q r := by simp [scanQ]
theorem scanQ_one (q : Nat) : scanQ q [q] = [] := by simp [scanQ]
theorem scanQ_q (q : Nat) {d : Nat} (r : List Nat) (h : ¬ d = q) : scanQ q (q :: d :: r) = [] := by simp [scanQ, h]
theorem scanQ_ne (q : Nat) {c : Nat} (r : List Nat) (h : ¬ c = q) : scanQ q (c :: r) = c :: scanQ q r := by
  cases r <;> simp [scanQ, h]
theorem scanQ_induct {q : Nat} {P : List Nat → Prop} (h0 : P []) (h1 : P [q]) (h2 : ∀ r, P r → P (q :: q :: r)) (h3 : ∀ d r, ¬ d = q → P (q :: d :: r)) (h4 : ∀ c r, ¬ c = q → P r → P (c :: r)) : ∀ l, P l := by
  intro l
  induction hn : l.length using Nat.strongRecOn generalizing l with
  | ind n ih =>
    match l, hn with
    | [], _ => exact h0
    | [c], hn =>
      by_cases hc : c = q
      · rw [hc]; exact h1
      · exact h4 c [] hc h0
    | c :: d :: r, hn =>
      by_cases hc : c = q
      · rw [hc]
        by_cases hd : d = q
        · rw [hd]; exact h2 r (ih r.length (by simp at hn; omega) r rfl)
        · exact h3 d r hd
      · exact h4 c (d :: r) hc (ih (d :: r).length (by simp at hn ⊢; omega) (d :: r) rfl)
theorem scan_eq : ∀ l, scan l = scanQ 34 l := by
  refine scanQ_induct (q := 34) ?_ ?_ ?_ ?_ ?_
  · rw [scan_nil, scanQ_nil]
  · rw [scan_q _ (by simp), scanQ_one]
  · intro r h; rw [scan_qq, scanQ_qq, h]
  · intro d r h; rw [scan_q _ (by simpa using h), scanQ_q _ _ h]
  · intro c r h ih; rw [scan_ne _ h, scanQ_ne _ _ h, ih]
theorem scanQ_len (q : Nat) : ∀ l, (scanQ q l).length ≤ l.length := by
  refine scanQ_induct (q := q) ?_ ?_ ?_ ?_ ?_
  · rw [scanQ_nil]; exact Nat.le_refl _
  · rw [scanQ_one]; simp
  · intro r h; rw [scanQ_qq]; simp; omega
  · intro d r h; rw [scanQ_q _ _ h]; simp
  · intro c r h ih; rw [scanQ_ne _ _ h]; simpa using ih
def trn (c : Nat) : Nat := if c = 34 then 39 else if c = 39 then 34 else c
def turn (l : List Nat) : List Nat := l.map trn
theorem trn_trn (c : Nat) : trn (trn c) = c := by
  unfold trn
  by_cases h : c = 34
  · simp [h]
  · by_cases h' : c = 39
    · simp [h']
    · simp [h, h']
theorem turn_turn (l : List Nat) : turn (turn l) = l := by
  unfold turn
  rw [List.map_map]
  conv => rhs; rw [← List.map_id l]
  exact List.map_congr_left fun a _ => trn_trn a
theorem turn_length (l : List Nat) : (turn l).length = l.length := by simp [turn]
theorem trn_34 {c : Nat} : trn c = 34 ↔ c = 39 := by
  unfold trn
  by_cases h : c = 34
  · simp [h]
  · by_cases h' : c = 39
    · simp [h']
    · simp [h, h']
theorem turn_scan : ∀ l, turn (scanQ 34 (turn l)) = scanQ 39 l := by
  refine scanQ_induct (q := 39) ?_ ?_ ?_ ?_ ?_
  · simp [turn, scanQ_nil]
  · show turn (scanQ 34 [34]) = _
    rw [scanQ_one, scanQ_one]; rfl
  · intro r h
    show turn (scanQ 34 (34 :: 34 :: turn r)) = _
    rw [scanQ_qq, scanQ_qq, ← h]; rfl
  · intro d r h
    show turn (scanQ 34 (34 :: trn d :: turn r)) = _
    rw [scanQ_q _ _ (fun e => h (trn_34.mp e)), scanQ_q _ _ h]; rfl
  · intro c r h ih
    show turn (scanQ 34 (trn c :: turn r)) = _
    rw [scanQ_ne _ _ (fun e => h (trn_34.mp e)), scanQ_ne _ _ h, ← ih]
    show trn (trn c) :: turn (scanQ 34 (turn r)) = _
    rw [trn_trn]

/-- the last word goes on -/
def app (ws : List (Nat × List Nat)) (st : List Nat) : List (Nat × List Nat) :=
  match ws.getLast? with
  | some p => ws.dropLast ++ [(p.1, p.2 ++ st)]
  | none => ws
/-- a word begins -/
def beg (fresh : Bool) (c : Nat) (ws : List (Nat × List Nat)) : List (Nat × List Nat) := if fresh then ws ++ [(if c = 34 then 1 else 0, [])] else ws
def rdN : Nat → List Nat → Bool → List (Nat × List Nat) → List (Nat × List Nat)
  | 0, _, _, ws => ws
  | _ + 1, [], _, ws => ws
  | n + 1, c :: r, fresh, ws =>
    if c = 39 ∨ c = 34 then rdN n (r.drop ((scanQ c r).length + (scanQ c r).count c + 1)) false (app (beg fresh c ws) (scanQ c r))
    else if c = 32 then rdN n r true (beg fresh c ws) else rdN n r false (app (beg fresh c ws) [c])
theorem rdN_more : ∀ (n m : Nat) (l : List Nat) (fr : Bool) (ws : List (Nat × List Nat)), l.length ≤ n → l.length ≤ m → rdN n l fr ws = rdN m l fr ws
  | 0, 0, _, _, _, _, _ => rfl
  | 0, m + 1, [], _, _, _, _ => rfl
  | 0, m + 1, c :: r, _, _, h, _ => by simp at h
  | n + 1, 0, [], _, _, _, _ => rfl
  | n + 1, 0, c :: r, _, _, _, h => by simp at h
  | n + 1, m + 1, [], _, _, _, _ => rfl
  | n + 1, m + 1, c :: r, fr, ws, h1, h2 => by
    have h1' : r.length ≤ n := by simpa using h1
    have h2' : r.length ≤ m := by simpa using h2
    have hd : ∀ k, (r.drop k).length ≤ r.length := fun k => by rw [List.length_drop]; omega
    unfold rdN
    split
    · exact rdN_more n m _ _ _ (Nat.le_trans (hd _) h1') (Nat.le_trans (hd _) h2')
    · split
      · exact rdN_more n m _ _ _ h1' h2'
      · exact rdN_more n m _ _ _ h1' h2'
def rdL (l : List Nat) (fr : Bool) (ws : List (Nat × List Nat)) : List (Nat × List Nat) := rdN l.length l fr ws
theorem rdL_nil (fr : Bool) (ws : List (Nat × List Nat)) : rdL [] fr ws = ws := rfl
theorem rdL_mark {c : Nat} (r : List Nat) (fr : Bool) (ws : List (Nat × List Nat)) (h : c = 39 ∨ c = 34) : rdL (c :: r) fr ws = rdL (r.drop ((scanQ c r).length + (scanQ c r).count c + 1)) false (app (beg fr c ws) (scanQ c r)) := by
  unfold rdL
  rw [List.length_cons, rdN, if_pos h]
  exact rdN_more _ _ _ _ _ (by rw [List.length_drop]; omega) (Nat.le_refl _)
theorem rdL_blank (r : List Nat) (fr : Bool) (ws : List (Nat × List Nat)) : rdL (32 :: r) fr ws = rdL r true (beg fr 32 ws) := by
  unfold rdL
  rw [List.length_cons, rdN, if_neg (by decide), if_pos rfl]
theorem rdL_sign {c : Nat} (r : List Nat) (fr : Bool) (ws : List (Nat × List Nat)) (h : ¬ (c = 39 ∨ c = 34)) (h' : ¬ c = 32) : rdL (c :: r) fr ws = rdL r false (app (beg fr c ws) [c]) := by
  unfold rdL
  rw [List.length_cons, rdN, if_neg h, if_neg h']
def rd (l : List Nat) : List (Nat × List Nat) := rdL l true []

theorem app_length (ws : List (Nat × List Nat)) (st : List Nat) : (app ws st).length = ws.length := by
  unfold app
  cases h : ws.getLast? with
  | none => rfl
  | some p =>
    have : ws ≠ [] := by rintro rfl; simp at h
    have : 0 < ws.length := List.length_pos_iff.mpr this
    simp; omega
theorem app_ne {ws : List (Nat × List Nat)} (st : List Nat) (h : ws ≠ []) : app ws st ≠ [] := by
  intro e
  have := app_length ws st
  rw [e] at this
  exact h (List.length_eq_zero_iff.mp this.symm)
theorem app_eq {ws : List (Nat × List Nat)} {p : Nat × List Nat} (st : List Nat) (h : ws.getLast? = some p) : app ws st = ws.dropLast ++ [(p.1, p.2 ++ st)] := by
  unfold app; rw [h]
def wsum (ws : List (Nat × List Nat)) : Nat := (ws.map (·.2.length)).sum
theorem wsum_app {ws : List (Nat × List Nat)} (st : List Nat) : wsum (app ws st) ≤ wsum ws + st.length := by
  unfold app
  cases h : ws.getLast? with
  | none => exact Nat.le_add_right _ _
  | some p =>
    obtain ⟨as, rfl⟩ : ∃ as, ws = as ++ [p] := by
      have : ws ≠ [] := by rintro rfl; simp at h
      refine ⟨ws.dropLast, ?_⟩
      rw [List.getLast?_eq_some_getLast this] at h
      have h' := Option.some.inj h
      rw [← h']
      exact (List.dropLast_concat_getLast this).symm
    simp only [List.dropLast_concat, wsum, List.map_append, List.sum_append, List.map_cons, List.map_nil, List.sum_cons, List.sum_nil, List.length_append]
    omega
theorem wsum_beg (fr : Bool) (c : Nat) (ws : List (Nat × List Nat)) : wsum (beg fr c ws) = wsum ws := by
  unfold beg; cases fr <;> simp [wsum]
theorem beg_length (fr : Bool) (c : Nat) (ws : List (Nat × List Nat)) : (beg fr c ws).length ≤ ws.length + 1 := by
  unfold beg; cases fr <;> simp
theorem beg_ne {fr : Bool} {c : Nat} {ws : List (Nat × List Nat)} (h : fr = false → ws ≠ []) : beg fr c ws ≠ [] := by
  unfold beg; cases fr with
  | true => simp
  | false => simpa using h rfl
theorem wsum_last {ws : List (Nat × List Nat)} {p : Nat × List Nat} (h : ws.getLast? = some p) : p.2.length ≤ wsum ws := by
  have hm : p ∈ ws := List.mem_of_getLast? h
  unfold wsum
  clear h
  induction ws with
  | nil => cases hm
  | cons a r ih =>
    simp only [List.map_cons, List.sum_cons]
    rcases List.mem_cons.mp hm with rfl | hm
    · omega
    · have := ih hm; omega
end Mine

namespace Mine
/-- a statement's one way on, beside those that leave the block -/
def orNext (O₁ : List (Addr × List Dat)) (ρ₁ : List (Str × Slot)) (Φ : Ot → Prop) : Ot → Prop
  | .next O ρ => O = O₁ ∧ Sub ρ₁ ρ
  | .brk O ρ => Φ (.brk O ρ)
  | .cont O ρ => Φ (.cont O ρ)
  | .ret d => Φ (.ret d)
section
variable {f : Fm} {O O₁ : List (Addr × List Dat)} {ρ ρ₁ : List (Str × Slot)} {e l r t value : Expr} {pos p : Pos} {a b c d : Dat} {Φ Ψ : Ot → Prop} {stm : Stmt} {rest : List Stmt}
theorem ExS.mono (h : ExS f O ρ stm Φ) (hi : ∀ o, Φ o → Ψ o) : ExS f O ρ stm Ψ := by
  first | apply Ex.mk | apply ExS.mk
  exact fun s E st => wpAny_mono (h.run s E st) (fun _ _ x => x.mono hi) fun _ _ x => x
theorem Ex.consM (O₁ : List (Addr × List Dat)) (ρ₁ : List (Str × Slot)) (h : ExS f O ρ stm (orNext O₁ ρ₁ Φ)) (hr : Ex f O₁ ρ₁ rest Φ) : Ex f O ρ (stm :: rest) Φ := by
  refine Ex.consX (h.mono fun o ho => ?_)
  cases o with
  | next O' ρ' => obtain ⟨rfl, hs⟩ := ho; exact hr.weak hs
  | brk O' ρ' => exact ho
  | cont O' ρ' => exact ho
  | ret d => exact ho
theorem nextN (h : Sub ρ₁ ρ) : orNext O₁ ρ₁ Φ (.next O₁ ρ) := ⟨rfl, h⟩
theorem nilN (h : Sub ρ₁ ρ) : Ex f O₁ ρ [] (orNext O₁ ρ₁ Φ) := Ex.nilX ⟨rfl, h⟩
end
end Mine

namespace Mine
/-! ## the search for an unsafe sign -/
def CODE : Array Nat := #[14, 17, 4, 1, 1, 21, 9, 0, 604043296, 1, 0, 0, 0, 0, 0, 8, 4, 0, 13, 14, 21, 9, 0, 604043296, 1, 0, 0, 0, 0, 0, 8, 4, 0, 1]
def chset (c : Nat) : Bool := decide (c < 256) && (CODE.getD (6 + (1 + c / 32)) 0).testBit (c % 32)
def safeN (c : Nat) : Bool := chset c || Sre.isWord c
theorem cs2 (c : Nat) (h : c < 256) : CODE.getD (21 + (1 + c / 32)) 0 = CODE.getD (6 + (1 + c / 32)) 0 := by
  have h8 : c / 32 < 8 := by omega
  generalize c / 32 = k at h8
  have : ∀ k, k < 8 → CODE.getD (21 + (1 + k)) 0 = CODE.getD (6 + (1 + k)) 0 := by decide
  exact this k h8
theorem inSet5 (c : Nat) (seen : Sre.Seen) : ∃ seen', Sre.inSet CODE c 34 5 true seen = .ok (!safeN c, seen') := by
  unfold Sre.inSet
  show ∃ seen', Sre.inSet CODE c 33 6 false _ = .ok (!safeN c, seen')
  unfold Sre.inSet
  show ∃ seen', (if chset c = true then _ else Sre.inSet CODE c 32 15 false _) = .ok (!safeN c, seen')
  by_cases h : chset c = true
  · rw [if_pos h]; exact ⟨_, by rw [safeN, h]; rfl⟩
  · rw [if_neg h]
    unfold Sre.inSet
    show ∃ seen', (do if ← (Except.ok (Sre.isWord c)).map (· != (4 % 2 == 1)) then pure (false, _) else Sre.inSet CODE c 31 17 false _ : Except String (Bool × Sre.Seen)) = .ok (!safeN c, seen')
    have h' : chset c = false := by simpa using h
    cases hw : Sre.isWord c
    · show ∃ seen', Sre.inSet CODE c 31 17 false _ = .ok (!safeN c, seen')
      unfold Sre.inSet
      exact ⟨_, by rw [safeN, h', hw]; rfl⟩
    · exact ⟨_, by rw [safeN, h', hw]; rfl⟩
theorem inSet20 (c : Nat) (seen : Sre.Seen) : ∃ seen', Sre.inSet CODE c 34 20 true seen = .ok (!safeN c, seen') := by
  unfold Sre.inSet
  show ∃ seen', Sre.inSet CODE c 33 21 false _ = .ok (!safeN c, seen')
  unfold Sre.inSet
  show ∃ seen', (if (decide (c < 256) && (CODE.getD (21 + (1 + c / 32)) 0).testBit (c % 32)) = true then _ else Sre.inSet CODE c 32 30 false _) = .ok (!safeN c, seen')
  have e : (decide (c < 256) && (CODE.getD (21 + (1 + c / 32)) 0).testBit (c % 32)) = chset c := by
    unfold chset
    by_cases hc : c < 256
    · rw [cs2 c hc]
    · simp [hc]
  rw [e]
  by_cases h : chset c = true
  · rw [if_pos h]; exact ⟨_, by rw [safeN, h]; rfl⟩
  · rw [if_neg h]
    unfold Sre.inSet
    show ∃ seen', (do if ← (Except.ok (Sre.isWord c)).map (· != (4 % 2 == 1)) then pure (false, _) else Sre.inSet CODE c 31 32 false _ : Except String (Bool × Sre.Seen)) = .ok (!safeN c, seen')
    have h' : chset c = false := by simpa using h
    cases hw : Sre.isWord c
    · show ∃ seen', Sre.inSet CODE c 31 32 false _ = .ok (!safeN c, seen')
      unfold Sre.inSet
      exact ⟨_, by rw [safeN, h', hw]; rfl⟩
    · exact ⟨_, by rw [safeN, h', hw]; rfl⟩

theorem admitted_spec (m : Sre.M) (l : List Nat) (hc : m.code = CODE) (ht : m.text = l.toArray) (hl : m.lim = l.length) : ∀ (fuel s : Nat) (seen : Sre.Seen), l.length + 1 ≤ fuel + s →
    (if (l.drop s).all safeN then ∃ seen', m.admitted fuel s seen = .ok (none, seen') else ∃ p seen', m.admitted fuel s seen = .ok (some p, seen') ∧ ∃ c, l[p]? = some c ∧ safeN c = false)
  | 0, s, seen, h => by
    rw [List.drop_of_length_le (by omega)]
    exact ⟨_, rfl⟩
  | fuel + 1, s, seen, h => by
    unfold Sre.M.admitted
    rw [hl, hc, ht]
    by_cases hs : s ≥ l.length
    · rw [if_pos hs, List.drop_of_length_le hs]
      exact ⟨_, rfl⟩
    · rw [if_neg hs]
      have hs' : s < l.length := Nat.lt_of_not_ge hs
      rw [List.drop_eq_getElem_cons hs', List.all_cons]
      have e1 : l.toArray.getD s 0 = l[s] := by simp [Array.getD, hs']
      rw [e1]
      obtain ⟨sn, hsn⟩ := inSet5 l[s] seen
      have e2 : Sre.inSet CODE l[s] CODE.size 5 true seen = .ok (!safeN l[s], sn) := hsn
      rw [e2]
      have ih := admitted_spec m l hc ht hl fuel (s + 1) sn (by omega)
      cases hsf : safeN l[s]
      · simp only [Bool.false_and, Bool.false_eq_true, if_false]
        exact ⟨s, sn, rfl, l[s], List.getElem?_eq_getElem hs', hsf⟩
      · simp only [Bool.true_and]
        exact ih

def M0 (l : List Nat) : Sre.M := { code := CODE, text := l.toArray, lim := l.length, start := 0, lastStart := l.length, pc := 18, pos := 0, handed := 0, marks := Array.replicate (2 * 0) none, mustAdvance := false, seen := ({} : Sre.Seen).add 14 }
/-- the search's end -/
theorem search_end (l : List Nat) : (l.all safeN = true → ((Sre.forSearch CODE l.toArray 0 0 l.length false).runFor 4).outcome = some .failed) ∧
    (l.all safeN = false → ((Sre.forSearch CODE l.toArray 0 0 l.length false).runFor 4).outcome = some .matched) := by
  cases l with
  | nil => exact ⟨fun _ => by rfl, fun h => nomatch h⟩
  | cons a r =>
    generalize hL : a :: r = l
    have hlen : 0 < l.length := by rw [← hL]; simp
    have e0 : Sre.forSearch CODE l.toArray 0 0 l.length false = if (decide (0 > l.length) || decide (l.length - 0 < 1)) = true then (M0 l).say false else (M0 l).attemptFrom 0 true := by
      have : Sre.forSearch CODE l.toArray 0 0 l.length false = if (decide (0 > l.length) || decide (l.length - 0 < 1)) = true then ({ M0 l with lastStart := 0 } : Sre.M).say false else (M0 l).attemptFrom 0 true := rfl
      rw [this]
      have hf : ¬ ((decide (0 > l.length) || decide (l.length - 0 < 1)) = true) := by intro h; rw [Bool.or_eq_true, decide_eq_true_eq, decide_eq_true_eq] at h; omega
      rw [if_neg hf, if_neg hf]
    have hf : ¬ ((decide (0 > l.length) || decide (l.length - 0 < 1)) = true) := by intro h; rw [Bool.or_eq_true, decide_eq_true_eq, decide_eq_true_eq] at h; omega
    rw [e0, if_neg hf]
    have e1 : (M0 l).attemptFrom 0 true = match (M0 l).admitted (l.length + 1) 0 (M0 l).seen with
      | .ok (some s, seen) => { M0 l with mustAdvance := false, seen }.attemptAt s true
      | .ok (none, seen) => { M0 l with seen }.say false
      | .error why => (M0 l).stick why := by rfl
    rw [e1]
    have sp := admitted_spec (M0 l) l rfl rfl rfl (l.length + 1) 0 (M0 l).seen (by omega)
    rw [List.drop_zero] at sp
    cases hall : l.all safeN
    · rw [hall, if_neg (by decide)] at sp
      obtain ⟨p, seen', ha, c, hc, hs⟩ := sp
      refine ⟨(fun h => nomatch h), fun _ => ?_⟩
      rw [ha]
      have hp : p < l.length := (List.getElem?_eq_some_iff.mp hc).1
      dsimp only
      generalize hm1 : ({ M0 l with mustAdvance := false, seen := seen' } : Sre.M).attemptAt p true = m1
      have hst : m1.step = m1.exec := by rw [← hm1]; rfl
      have hex : ∃ sn, m1.exec = { m1 with seen := sn, pc := 33, pos := p + 1 } := by
        have hm1' : m1.exec = if m1.pos ≥ m1.lim then ({ m1 with seen := m1.seen.add (m1.word 0) } : Sre.M).say false else
            match Sre.accepts CODE 18 (l.toArray.getD p 0) (m1.seen.add 13) with
            | .error why => ({ m1 with seen := m1.seen.add (m1.word 0) } : Sre.M).stick why
            | .ok (false, seen) => { m1 with seen }.say false
            | .ok (true, seen) => { m1 with seen, pc := m1.pc + Sre.itemWidth m1.code m1.pc, pos := m1.pos + 1 } := by rw [← hm1]; rfl
        have hpos : m1.pos = p := by rw [← hm1]; rfl
        have hlim : m1.lim = l.length := by rw [← hm1]; rfl
        rw [hm1', hpos, hlim, if_neg (Nat.not_le.mpr hp)]
        have eg : l.toArray.getD p 0 = c := by
          have := (List.getElem?_eq_some_iff.mp hc).2
          simp [Array.getD, hp, this]
        rw [eg]
        obtain ⟨sn, hsn⟩ := inSet20 c (m1.seen.add 13)
        have ea : Sre.accepts CODE 18 c (m1.seen.add 13) = .ok (true, sn) := by
          rw [hs] at hsn
          exact hsn
        rw [ea]
        refine ⟨sn, ?_⟩
        dsimp only
        rw [← hm1]; rfl
      obtain ⟨sn, hex⟩ := hex
      have h1 : m1.runFor 4 = ({ m1 with seen := sn, pc := 33, pos := p + 1 } : Sre.M).runFor 3 := by
        have : m1.runFor 4 = if m1.outcome.isSome = true then m1 else m1.step.runFor 3 := rfl
        rw [this, if_neg (by rw [← hm1]; exact Bool.false_ne_true), hst, hex]
      rw [h1, ← hm1]
      rfl
    · rw [hall, if_pos rfl] at sp
      obtain ⟨seen', ha⟩ := sp
      refine ⟨fun _ => ?_, (fun h => nomatch h)⟩
      rw [ha]
      rfl
end Mine

namespace Mine
/-! ## the call of a pattern's search -/
theorem entry_search : entryFor table "re.Pattern.search" = some Builtin.«re.Pattern.search» := entryFor_of_tree (by kernel_rfl)
theorem quiet_search {as : Args} : (Code.builtin "re.Pattern.search" as).quiet = true := Code.quiet_builtin _ (by decide +kernel)
def boundObj (pa : Addr) : Obj := { cls := .type "builtin_function_or_method", data := .fields #[.builtin "re.Pattern.search", .ref pa] }
/-- a pattern's heap -/
structure PatIs (h : Heap) (fa pa ca : Addr) : Prop where
  f : h.get? fa = some (boundObj pa)
  p : ∃ a b c d e t, h.get? pa = some { cls := .type "re.Pattern", data := .fields #[a, b, .int 0 c, d, e, .ref ca, .int 0 t] }
  c : ∃ items n cls, h.get? ca = some { cls := cls, data := .seq items n } ∧ (items.map Builtin.Re.reRawOf).map (·.toNat) = CODE
section
variable {prog : Program} {w : World} {M : Model} {A : Around} {E : Value → Shared → Prop} {s : Shared}
theorem wpAny_says {m : Sre.M} {Q : Unit → Shared → Prop} (l : List Nat) (h : Q () s) : wpAny M A (forIn l PUnit.unit fun i r => if m.seen.has i = true then do rule (Sre.names.getD i ""); pure (ForInStep.yield PUnit.unit) else pure (ForInStep.yield PUnit.unit)) Q E s := by
  induction l with
  | nil => exact wpAny_pure h
  | cons a r ih =>
    rw [List.forIn_cons]
    refine wpAny_bind ?_
    split
    · exact wpAny_bind (wpAny_rule (wpAny_pure ih))
    · exact wpAny_pure ih
theorem wpAny_reRun {m : Sre.M} {Q : Option Sre.M → Shared → Prop} (hf : (m.runFor 4).outcome = some .failed) (h : Q none s) : wpAny M A (Builtin.Re.reRunToEnd m) Q E s := by
  unfold Builtin.Re.reRunToEnd
  have e : Builtin.Re.reDrive (2 ^ 64) m = pure (m.runFor 4) := by
    show Builtin.Re.reDrive (18446744073709551615 + 1) m = _
    unfold Builtin.Re.reDrive
    show (if (m.runFor 4).outcome.isSome = true then pure (m.runFor 4) else _) = _
    rw [hf]; rfl
  rw [e]
  refine wpAny_bind (wpAny_pure (wpAny_bind (wpAny_says _ ?_)))
  rw [hf]
  exact wpAny_pure h
theorem wpAny_reRunM {m : Sre.M} {Q : Option Sre.M → Shared → Prop} (hf : (m.runFor 4).outcome = some .matched) (h : Q (some (m.runFor 4)) s) : wpAny M A (Builtin.Re.reRunToEnd m) Q E s := by
  unfold Builtin.Re.reRunToEnd
  have e : Builtin.Re.reDrive (2 ^ 64) m = pure (m.runFor 4) := by
    show Builtin.Re.reDrive (18446744073709551615 + 1) m = _
    unfold Builtin.Re.reDrive
    show (if (m.runFor 4).outcome.isSome = true then pure (m.runFor 4) else _) = _
    rw [hf]; rfl
  rw [e]
  refine wpAny_bind (wpAny_pure (wpAny_bind (wpAny_says _ ?_)))
  rw [hf]
  exact wpAny_pure h

theorem search_tree {fa pa ca : Addr} {l : List Nat} {t : Tok} {P : PySem.Fin → Shared → Prop} (hsz : l.length ≤ sizeLine) (X : PatIs s.heap fa pa ca) (h0 : l.all safeN = true → P (.done (.ret .none)) s)
    (h1 : l.all safeN = false → ∀ a h', (∀ b o, s.heap.get? b = some o → h'.get? b = some o) → P (.done (.ret (.ref a))) { s with heap := h' }) :
    wpAny M A (Builtin.«re.Pattern.search» ⟨[.ref pa, .str (S l) t], []⟩) P E s := by
  obtain ⟨a, b, c, d, e, t2, hp⟩ := X.p
  obtain ⟨items, n, cls, hc, hcode⟩ := X.c
  unfold Builtin.«re.Pattern.search»
  refine wpAny_bind (m := Builtin.Re.reTarget "re.Pattern.search" "search" ⟨[.ref pa, .str (S l) t], []⟩) ?_
  unfold Builtin.Re.reTarget
  dsimp only
  refine wpAny_bind (wpAny_of_eq (a := [some (.str (S l) t), none, none]) (by first | rfl | kernel_rfl) ?_)
  dsimp only
  refine wpAny_bind (wpAny_pure (wpAny_bind (wpAny_pure (wpAny_bind (wpAny_fieldsOf hp rfl ?_)))))
  refine wpAny_bind (wpAny_of_eq (a := ((S l).cps, 0)) (by rfl) ?_)
  refine KFB.if_not (by rfl) ?_
  refine KFB.if_not (by rfl) ?_
  refine wpAny_bind (wpAny_of_eq (a := ()) (by rfl) ?_)
  refine wpAny_bind (wpAny_bind (wpAny_seqItems hc rfl (wpAny_pure ?_)))
  refine wpAny_pure ?_
  have e1 : min (0 : Int).toNat (S l).cps.size = 0 := by simp
  have e2 : min ((2 : Int) ^ 63 - 1).toNat (S l).cps.size = l.length := by
    rw [sizeLine_eq] at hsz
    have : (S l).cps.size = l.length := by simp [S]
    rw [this]; omega
  dsimp only
  have e3 : Builtin.Re.reRawNat (#[a, b, Value.int 0 c, d, e, Value.ref ca, Value.int 0 t2].getD 2 Value.none) = 0 := rfl
  have e4 : Array.map (fun x => x.toNat) (Array.map Builtin.Re.reRawOf ((some items).getD #[])) = CODE := hcode
  rw [e4, e3, e1, e2]
  unfold Builtin.Re.reAnswer
  have se := search_end l
  cases hall : l.all safeN
  · refine wpAny_bind (wpAny_reRunM (se.2 hall) ?_)
    show wpAny M A (Builtin.Re.reNewMatch (.ref pa) (.str (S l) t) 0 0 l.length _ >>= fun v => ret v) P E s
    refine wpAny_bind ?_
    unfold Builtin.Re.reNewMatch
    dsimp only
    refine KFB.if_not (by rfl) ?_
    refine wpAny_bind (wpAny_newTuple ?_ ?_)
    · exact wpAny_newObj_type (wpAny_pure (h1 hall _ _ fun b o hb => Heap.get?_push_of_some _ (Heap.get?_push_of_some _ hb)))
    · show 2 ≤ sizeLine
      rw [sizeLine_eq]; omega
  · exact wpAny_bind (wpAny_reRun (se.1 hall) (wpAny_pure (h0 hall)))
def SIG : Manifest.Signature := ⟨.keywords, "Pattern.search", "search", .self, [⟨"string", .posOrKw, true⟩, ⟨"pos", .posOrKw, false⟩, ⟨"endpos", .posOrKw, false⟩]⟩
theorem check_search {pa ca fa : Addr} {x : PySem.Str} {t : Tok} {Q : Unit → Shared → Prop} (X : PatIs s.heap fa pa ca) (h : Q () s) : wpAny M A (checkBoundCall "re.Pattern.search" ⟨[.ref pa, .str x t], []⟩) Q E s := by
  obtain ⟨a, b, c, d, e, t2, hp⟩ := X.p
  have hty : s.TypeIs (.ref pa) "re.Pattern" := ⟨_, hp, rfl⟩
  unfold checkBoundCall
  have e1 : Manifest.signature? "re.Pattern.search" = some SIG := by kernel_rfl
  have e2 : builtinKind "re.Pattern.search" = some .method := by kernel_rfl
  rw [e1, e2]
  dsimp only
  refine KFB.if_not (by decide) ?_
  refine wpAny_bind (wpAny_isInstance hty (b := false) (by rw [isSubtype_type]; kernel_rfl) ?_)
  refine KFB.if_not (by kernel_rfl) ?_
  refine wpAny_bind (m := isType (.ref pa)) (wpAny_bind (wpAny_load hp (wpAny_pure ?_)))
  dsimp only
  refine KFB.if_not (by rfl) ?_
  refine wpAny_bind (wpAny_typeOf hty ?_)
  exact wpAny_of_eq (a := ()) (by kernel_rfl) h
theorem callWith_search {pos : Pos} {fa pa : Addr} {args : List (Bool × Sem Value)} {Q : Value → Shared → Prop} (hplain : args.any (·.1) = false)
    (h : wpAny M A (evalArgs (.ref fa) true args []) (fun x s₁ => s₁.heap.get? fa = some (boundObj pa) ∧ wpAny M A (call (.ref fa) x.pos x.kw) Q E s₁) E s) : wpAny M A (callWith pos (.ref fa) [] args []) Q E s := by
  unfold callWith
  refine wpAny_bind (wpAny_holding (wpAny_mono h (fun x s₁ h₁ => wpAny_bind (wpAny_standAt ?_)) fun _ _ x => x))
  obtain ⟨ho, hcall⟩ := h₁
  simp only [hplain, List.any_nil, Bool.or_false]
  refine wpAny_bind (m := keeperOf (.ref fa)) ?_
  unfold keeperOf
  refine wpAny_bind (wpAny_load ho ?_)
  simp only [boundObj, show (Value.type "builtin_function_or_method" != Value.type "method") = true by decide, show (Value.type "builtin_function_or_method" == Value.type "builtin_function_or_method" || Value.type "builtin_function_or_method" == Value.type "method-wrapper") = true by decide, if_true]
  refine wpAny_pure ?_
  exact wpAny_bind (wpAny_mono hcall (fun r s₂ hr => wpAny_bind (wpAny_holding (wpAny_point (wpAny_pure hr)))) fun _ _ x => x)
theorem call_search {fa pa ca : Addr} {l : List Nat} {t : Tok} {Q : Value → Shared → Prop} (hsz : l.length ≤ sizeLine) (X : PatIs s.heap fa pa ca) (h0 : l.all safeN = true → Q .none s)
    (h1 : l.all safeN = false → ∀ a h', (∀ b o, s.heap.get? b = some o → h'.get? b = some o) → Q (.ref a) { s with heap := h' }) : wpAny (model prog w) A (call (.ref fa) [.str (S l) t]) Q E s := by
  refine wpAny_call (codeAny_of_tree ?_)
  show wpAny _ A.in1 (callAny (.ref fa) ⟨[.str (S l) t], []⟩) _ _ s
  simp only [callAny]
  refine wpAny_bind (wpAny_load X.f ?_)
  simp only [boundObj, show (Value.type "builtin_function_or_method" == Value.type "method" || Value.type "builtin_function_or_method" == Value.type "builtin_function_or_method" || Value.type "builtin_function_or_method" == Value.type "method-wrapper") = true by decide, if_true]
  refine KFB.if_so (by decide) ?_
  refine wpAny_bind (check_search X ?_)
  refine wpAny_bind (wpAny_pure (wpAny_pure ?_))
  exact ⟨quiet_search, codeAny_builtin entry_search (search_tree hsz X h0 h1)⟩
end
end Mine

namespace Mine
/-- each y is written as z -/
def rep (y : Nat) (z l : List Nat) : List Nat := l.flatMap fun c => if c = y then z else [c]
theorem jn_cons (sep p : List Nat) (ps : List (List Nat)) (h : ps ≠ []) : jn sep (p :: ps) = p ++ sep ++ jn sep ps := by
  cases ps with
  | nil => exact absurd rfl h
  | cons q r => rfl
theorem jn_head (sep : List Nat) (x : Nat) (p : List Nat) (ps : List (List Nat)) : jn sep ((x :: p) :: ps) = x :: jn sep (p :: ps) := by
  cases ps <;> simp [jn]
theorem jn_cut (z : List Nat) (y : Nat) : ∀ l, jn z (cut y l) = rep y z l
  | [] => rfl
  | x :: r => by
    have ih := jn_cut z y r
    unfold cut
    split
    · rename_i h
      rw [jn_cons _ _ _ (cut_ne y r), ih]
      simp [rep, h]
    · rename_i h
      split
      · rename_i p ps e
        rw [e] at ih
        rw [jn_head, ih]
        simp [rep, h]
      · rename_i e
        exact absurd e (cut_ne y r)
theorem rep_length (y : Nat) (z : List Nat) : ∀ l, (rep y z l).length ≤ l.length * (z.length + 1)
  | [] => by simp [rep]
  | x :: r => by
    have ih := rep_length y z r
    have : rep y z (x :: r) = (if x = y then z else [x]) ++ rep y z r := rfl
    rw [this, List.length_append, List.length_cons, Nat.add_mul]
    have : (if x = y then z else [x]).length ≤ z.length + 1 := by split <;> simp
    omega
section
variable {f : Fm} {O : List (Addr × List Dat)} {ρ : List (Str × Slot)} {o e : Expr} {ap pos cp np pn : Pos} {c d : Dat} {kn : Nat}
theorem Tr.findUnsafe {x : Str} {fa pa ca : Addr} {l : List Nat} (hf : EvS f O ρ (.Name x np) (.val (.ref fa))) (X : PatIs f.G fa pa ca) (he : Ev f O ρ e (.str (S l))) (hsz : l.length ≤ sizeLine)
    (hns : starEach [e] f.env = (false, eval e f.env) :: starEach [] f.env := by rfl) (hpl : (backTo cp (starEach [e] f.env)).any (·.1) = false := by rfl) (hm : behindInMarks .Is (.Constant .none kn pn) = false := by with_unfolding_all rfl) :
    Tr f O ρ (.Compare (.Call (.Name x np) [e] [] cp) [.Is] [.Constant .none kn pn] pos) (l.all safeN) := by
  first | apply Ev.mk | apply EvS.mk | apply Tr.mk | apply EvL.mk | apply Ex.mk | apply ExS.mk | apply It.mk | skip
  intro s Q E st k
  refine wpAny_isTrue_Compare1 (wpAny_Call_NameR (hf.run s _ _ st fun fv s₁ m₁ h₁ => ?_)) hm
  have h₁' : fv = .ref fa := h₁
  subst h₁'
  have st1 := st.mv m₁
  refine callWith_search (pa := pa) hpl ?_
  refine EvL.args (ds := [.str (S l)]) (EvL.consE he EvL.nilE hns) st1 hns fun vs s₂ m₂ hv => ?_
  have st2 := st1.mv m₂
  have X2 : PatIs s₂.heap fa pa ca := by
    obtain ⟨a, b, c, d, e, t, hp⟩ := X.p
    obtain ⟨items, n, cls, hc, hcc⟩ := X.c
    exact ⟨st2.bel.stays _ _ X.f, ⟨a, b, c, d, e, t, st2.bel.stays _ _ hp⟩, ⟨items, n, cls, st2.bel.stays _ _ hc, hcc⟩⟩
  refine ⟨X2.f, ?_⟩
  cases hv with
  | cons ha hn =>
    cases hn
    cases ha
    refine call_search hsz X2 (fun hall => ?_) fun hall a h' hk => ?_
    · refine Constant_none (wpAny_is_self rfl (wpAny_truthy_bool ?_))
      rw [← hall]
      exact k _ (m₁.trans m₂)
    · refine Constant_none (is_ref_none (wpAny_truthy_bool ?_))
      rw [← hall]
      exact k _ (m₁.trans (m₂.trans (.of_keepH hk)))
/-- quote's first sum -/
theorem Ev.replC {x a : Str} {l z : List Nat} {y k1 k2 k3 : Nat} {p1 p2 p3 p4 : Pos} (hx : ρ.lookup x = some (.dat (.str (S l)))) (hyz : (S [y] == S z) = false) (hsz : l.length ≤ 100000) (hz : z.length ≤ 14) (hj : a.length + (jn z (cut y l)).length ≤ sizeLine)
    (hbase : attributeBase (.Name x np) "replace" f.env (eval (.Name x np) f.env) = eval (.Name x np) f.env := by rfl) (hline : (ap.endLine == cp.line) = true := by rfl)
    (hd : (x == ("__debug__" : Str)) = false := by decide) (hcl : (x == ("__classdict__" : Str)) = false := by decide) :
    Ev f O ρ (.BinOp (.Constant (.str a) k1 p1) .Add (.Call (.Attribute (.Name x np) "replace" ap) [.Constant (.str (S [y])) k2 p2, .Constant (.str (S z)) k3 p3] [] cp) p4) (.str (a ++ S (jn z (cut y l)))) := by
  first | apply Ev.mk | apply EvS.mk | apply Tr.mk | apply EvL.mk | apply Ex.mk | apply ExS.mk | apply It.mk | skip
  intro s Q E st k
  refine wpAny_BinOp (PySem.Calls.Constant_str ?_)
  let s1 : Shared := { s with toks := s.toks + 1 }
  have m1 : Mv f.G f.W s s1 := .toks _
  have st1 := st.mv m1
  refine Call_method2 hbase (by rfl) hline ?_
  obtain ⟨v, hv, hs⟩ := st1.vars x _ hx
  refine wpAny_Name (VarIs.load st1 hv hcl ?_) hd
  cases hs
  rename_i tx
  refine ⟨"str", _, F.plainAttrs_str, F.slot_str_replace, F.type_str_replace, typeIs_str _ _ _, (fun a q => nomatch q), ?_⟩
  refine PySem.Calls.callWith_builtin rfl (PySem.Calls.evalArgs_plain (PySem.Calls.spliced_cons (PySem.Calls.Constant_str (PySem.Calls.spliced_cons (PySem.Calls.Constant_str (PySem.Calls.spliced_nil ?_))))))
  refine SC.replaceW (u := s1.toks) (v := s1.toks + 1) (Nat.succ_ne_zero _) (Nat.succ_ne_zero _) (Nat.ne_of_lt (Nat.lt_succ_self _)) hyz (by rw [S_length]; omega) (by rw [S_length]; exact hz) fun t' tk => ?_
  rw [replace_S]
  exact add_str (fun t'' tk' => k _ _ (.toks _) (.str _ _)) (by rw [S_length]; exact hj)
end
end Mine

namespace Mine
/-- a code whose table of places may grow -/
def CodeIs (G : Heap) (c P : Addr) : Prop :=
  (∃ o vs file tf flags tg inF text tt, G.get? c = some o ∧ o.cls = .type "code" ∧ o.data = .fields vs ∧ vs[11]? = some (.ref P) ∧ vs.getD 18 .none = .str file tf ∧
    vs.getD 7 .none = .int flags tg ∧ vs.getD 9 .none = .bool inF ∧ vs.getD 10 .none = .int text tt) ∧ c ≠ P ∧ grows G P
theorem Mv.of_tab {X : Heap} {W : List Addr} {s : Shared} {P : Addr} {op op' : Obj} {h' : Heap} {tk : Nat} (ho : s.heap.get? P = some op) (hok : TabOk s.heap op) (hg : grows X P) (hx : Heap.ExtBut P s.heap h') (hP : h'.get? P = some op') (hgr : Grown op op') (ht : TabOk h' op') :
    Mv X W s { s with heap := h', toks := tk } := by
  have ck : CKeep s.heap h' := fun c o vs e x y => by
    refine ⟨o, hx c o ?_ e, x, y⟩
    rintro rfl
    rw [ho] at e; cases e
    obtain ⟨ps, rfl, _⟩ := hok
    cases x
  refine ⟨⟨h', tk, s.gens, rfl, .inl rfl⟩, id, fun b o e => ?_⟩
  by_cases hb : b = P
  · subst hb
    rw [ho] at e; cases e
    rw [if_pos ⟨hok.b, hg⟩]
    exact ⟨_, hP, hgr, fun _ => ht⟩
  · split
    · rename_i h; exact ⟨o, hx b o hb e, .refl h.1, fun q => q.up ck⟩
    · exact ⟨o.slots, hx b o hb e, .inr rfl⟩
theorem codeAmong_more {pos : Pos} {l c : Nat} {v cv : Value} (ps : List Value) (h : TriplesOk ps) (hc : codeAmong pos (ps ++ [rawInt l, rawInt c, v]) = some cv) : codeAmong pos ps = some cv ∨ cv = v := by
  fun_induction TriplesOk ps with
  | case1 =>
    simp only [List.nil_append, codeAmong, rawInt] at hc
    split at hc
    · exact .inr (Option.some.inj hc).symm
    · simp at hc
  | case2 i t j u x rest ih =>
    simp only [List.cons_append, codeAmong] at hc ⊢
    split at hc
    · rename_i hh; rw [if_pos hh]; exact .inl hc
    · rename_i hh; rw [if_neg hh]; exact ih h hc
  | case3 => exact absurd h id
theorem TabOk.more {h h' : Heap} {P l cl c' P' : Nat} {ps : Array Value} {q : Str} (x : TabOk h { cls := .none, data := .fields ps }) (hP : h.get? P = some { cls := .none, data := .fields ps }) (hx : Heap.ExtBut P h h') (hr : h'.CodeRec (.ref c') q) (ht : h'.TableAt c' P' #[]) :
    TabOk h' { cls := .none, data := .fields (ps ++ #[rawInt l, rawInt cl, .ref c']) } := by
  obtain ⟨ps', e, h1, h2⟩ := x
  cases e
  have ck : CKeep h h' := fun c o vs e x y => by
    refine ⟨o, hx c o ?_ e, x, y⟩
    rintro rfl
    rw [hP] at e; cases e
    cases x
  have e1 : (ps ++ #[rawInt l, rawInt cl, Value.ref c']).toList = ps.toList ++ [rawInt l, rawInt cl, .ref c'] := by simp
  refine ⟨_, rfl, by rw [e1]; exact TriplesOk_snoc _ _ _ _ h1, fun pos cv hc => ?_⟩
  rw [e1] at hc
  rcases codeAmong_more _ h1 hc with hc | rfl
  · exact (h2 pos cv hc).up ck
  · obtain ⟨c₂, o₂, vs₂, t₂, e₂, g₂, d2, r₂⟩ := hr
    cases e₂
    obtain ⟨⟨oc, vc, hoc, hcc, hdc, h11c⟩, _⟩ := ht
    rw [g₂] at hoc; cases hoc
    exact ⟨_, _, _, _, _, rfl, g₂, hcc, d2, r₂⟩
section
variable {f : Fm} {O : List (Addr × List Dat)} {ρ : List (Str × Slot)}
theorem codeAt_of {c P : Addr} {s : Shared} (st : St f O ρ s) (C : CodeIs f.G c P) : ∃ ps, s.heap.IsCode c P ps ∧ s.heap.TableAt c P ps := by
  obtain ⟨⟨o, vs, file, tf, flags, tg, inF, text, tt, ho, hcl, hd, h11, h18, h7, h9, h10⟩, hne, hg⟩ := C
  obtain ⟨op, hop, ps, rfl, ht⟩ := st.tab P hg
  have e11 : vs.getD 11 .none = .ref P := by
    rw [Array.getD_eq_getD_getElem?, h11]; rfl
  have hs := st.bel.stays _ _ ho
  exact ⟨ps, ⟨o, vs, file, tf, flags, tg, inF, text, tt, _, hs, hd, e11, h18, h7, h9, h10, hop, rfl, ht.1, hne⟩, ⟨⟨o, vs, hs, hcl, hd, h11⟩, hop⟩⟩
theorem genCode {c P : Addr} {pos : Pos} {q : Str} {scope : Scope} {s : Shared} {Q : Value → Shared → Prop} {E : Value → Shared → Prop} (st : St f O ρ s) (C : CodeIs f.G c P) (hc : f.env.code = .ref c)
    (k : ∀ code h' tk, Mv f.G f.W s { s with heap := h', toks := tk } → s.heap.objs.size ≤ h'.objs.size → (∀ b o, b ≠ P → s.heap.get? b = some o → h'.get? b = some o) → Q code { s with heap := h', toks := tk }) : wpAny f.M f.A (genexprCode f.env pos q scope) Q E s := by
  obtain ⟨ps, hi, htab⟩ := codeAt_of st C
  have hg := C.2.2
  cases hn : codeAmong pos ps.toList with
  | none =>
    refine wpAny_genexprCodeX hc hi htab hn fun c' h' tk hx hle hlt hi' hr htab' hP' => ?_
    obtain ⟨op, eop, hok⟩ := st.tab P hg
    have eop' := htab.2
    rw [eop] at eop'; cases eop'
    obtain ⟨P', _, _, hP2⟩ := hP'
    exact k _ _ _ (.of_tab eop hok hg hx htab'.2 ⟨_, _, rfl, rfl⟩ (hok.more eop hx hr hP2)) (Nat.le_trans hle (Nat.le_of_lt hlt)) fun b o hb e => hx b o hb e
  | some cv =>
    obtain ⟨o, vs, file, tf, flags, tg, inF, text, tt, op, ho, hd, h11, h2, h7, h9, h10, hop, hpd, htr, hne⟩ := hi
    unfold genexprCode codeAt
    rw [hc, if_neg (show ¬ ((Value.ref c == Value.none) = true) from Bool.false_ne_true)]
    refine wpAny_bind (wpAny_fieldsOf ho hd ?_)
    rw [h11]
    refine wpAny_bind (wpAny_fieldsOf hop hpd ?_)
    rw [hn]
    exact wpAny_pure (k _ s.heap s.toks (.refl s) (Nat.le_refl _) fun _ _ _ e => e)
end

/-! ### the top without its marks -/
def erase (G : Heap) : Heap := { G with objs := G.objs.map fun o => if isMark o then { o with slots := #[] } else o }
theorem erase_get (G : Heap) (a : Addr) : (erase G).get? a = G.get? a := by
  unfold Heap.get? erase
  simp only [Array.getElem?_map]
  cases h : G.objs[a]? with
  | none => rfl
  | some o =>
    simp only [Option.map_some]
    by_cases hm : isMark o = true
    · rw [if_pos hm]
      obtain ⟨c, d, dd, sl⟩ := o
      cases c <;> cases dd <;> first | rfl | (simp [isMark] at hm)
    · rw [if_neg hm]
theorem erase_grows (G : Heap) (a : Addr) : ¬ grows (erase G) a := by
  unfold grows growsB erase
  simp only [Array.getElem?_map]
  cases h : G.objs[a]? with
  | none => simp
  | some o =>
    simp only [Option.map_some]
    split
    · rename_i hm
      obtain ⟨c, d, dd, sl⟩ := o
      cases c <;> cases dd <;> simp [isMark] at hm ⊢
    · rename_i hm; exact hm
theorem erase_bas {mg mb : Str → Option Value} {G : Heap} (b : Bas mg mb G) : Bas mg mb (erase G) where
  g := b.g.keeps fun a o e => by rw [erase_get]; exact e
  b := b.b.keeps fun a o e => by rw [erase_get]; exact e
  boot := b.boot
  lim := b.lim.keeps fun a o e => by rw [erase_get]; exact e
  noTab := fun a o e => b.noTab a o (by rw [erase_get] at e; exact e)
theorem erase_in {K : Frag} {G : Heap} (h : K.In G) : K.In (erase G) := fun a o e => by rw [erase_get]; exact h a o e
/-- a move that no mark lets grow keeps all -/
theorem Mv.keeps {G : Heap} {s s' : Shared} (m : Mv (erase G) [] s s') : Keeps s s' := by
  obtain ⟨⟨h', tk, gs, rfl, c⟩, _, k⟩ := m
  rcases c with rfl | ⟨P, c⟩
  · refine ⟨h', tk, rfl, fun b o e => ?_⟩
    have q := k b o e
    rw [if_neg (fun h => erase_grows G b h.2)] at q
    obtain ⟨sl, e', c⟩ := q
    rcases c with c | c
    · exact absurd c.1 (by simp)
    · rw [e', c]
  · exact absurd c (erase_grows G P)
end Mine

namespace Mine
theorem passing_all (n : Nat) : passing (fun _ => true) n 0 = List.range n := by
  unfold passing; rw [List.drop_zero, List.filter_eq_self.mpr fun _ _ => rfl]
/-- the module that holds the builtins -/
structure BuiltM (mg : Str → Option Value) (G : Heap) : Prop where
  ex : ∃ bm ob, mg "__builtins__" = some (.ref bm) ∧ bm ≠ builtinsNs ∧ G.get? bm = some ob ∧ ob.cls = .type "module" ∧ ob.dict = some builtinsNs ∧ ob.data = .plain
def trunc (h : Heap) (n : Nat) : Heap := { h with objs := h.objs.extract 0 n }
theorem trunc_size (h : Heap) (n : Nat) : (trunc h n).objs.size ≤ n := by show (h.objs.extract 0 n).size ≤ n; rw [Array.size_extract]; omega
theorem trunc_get (h : Heap) (n b : Nat) : (trunc h n).objs[b]? = if b < n then h.objs[b]? else none := by
  show (h.objs.extract 0 n)[b]? = _
  rw [Array.getElem?_extract]
  simp only [Nat.zero_add, Nat.sub_zero]
  by_cases h1 : b < n
  · rw [if_pos h1]
    by_cases h2 : b < h.objs.size
    · rw [if_pos (by omega)]
    · rw [if_neg (by omega), Array.getElem?_eq_none (by omega)]
  · rw [if_neg (by omega), if_neg h1]
theorem trunc_sub {h : Heap} {n : Nat} {b : Addr} {o : Obj} (e : (trunc h n).get? b = some o) : h.get? b = some o := by
  unfold Heap.get? at e ⊢
  rw [trunc_get] at e
  by_cases h1 : b < n
  · rw [if_pos h1] at e; exact e
  · rw [if_neg h1] at e; exact nomatch e
theorem trunc_up {h : Heap} {n : Nat} {b : Addr} {o : Obj} (hb : b < n) (e : h.get? b = some o) : (trunc h n).get? b = some o := by
  unfold Heap.get? at e ⊢
  rw [trunc_get, if_pos hb]
  exact e
section
variable {f : Fm} {O : List (Addr × List Dat)} {ρ : List (Str × Slot)}
theorem cstat_lt {s : Shared} (st : St f O ρ s) : cStatics < f.s₀.heap.objs.size := by
  obtain ⟨_, ⟨o, es, ep, e, _⟩, _⟩ := st.ok.bas.lim
  exact Heap.lt_size (st.ok.hG _ _ e)
theorem s0_le {s : Shared} (st : St f O ρ s) : f.s₀.heap.objs.size < s.heap.objs.size := by
  obtain ⟨mm, nn⟩ := st.loc
  exact Nat.lt_of_le_of_lt st.ok.fL nn.lt
theorem Ev.joinGen {c P qa : Addr} {oq : Obj} {fd : FuncData} {q x it : Str} {R : List Dat → Dat → Prop} {sep : List Nat} {ps : List (List Nat)} {gf : List Nat → List Nat} {scope : Scope} {k1 : Nat} {p1 ap qp xp cp px ip gp pos : Pos}
    (C : CodeIs f.G c P) (hc : f.env.code = .ref c) (B : BuiltM f.mg f.G) (hit : ρ.lookup it = some (.dat (.list (ps.map fun p => .str (S p))))) (con : Con f.prog f.w f.mg f.mb (erase f.G) 1 qa R) (hR : ∀ p ∈ ps, R [.str (S p)] (.str (S (gf p))))
    (ho : f.G.get? qa = some oq) (hod : oq.data = .func fd) (hqg : scope.names.lookup q = some .globalImplicit) (hmq : f.mg q = some (.ref qa)) (hclos : closureFor scope f.env = pure [])
    (hco : scope.isCoroutine = false) (hcell : ∀ y ∈ scope.names, y.2 ≠ .cell) (h0 : scope.names.lookup (".0" : Str) = some NameKind.local) (hx : scope.names.lookup x = some .local) (hkind : scope.kind = .function)
    (hd : f.A.depth + 2 < recursionLimit) (hu : f.A.units + 8 + 40 + 100 < cLine) (hn : ps.length ≤ sizeLine) (hj : ((ps.map gf).map List.length).sum + ps.length * sep.length ≤ sizeLine)
    (hbase : attributeBase (.Constant (.str (S sep)) k1 p1) "join" f.env (eval (.Constant (.str (S sep)) k1 p1) f.env) = eval (.Constant (.str (S sep)) k1 p1) f.env := by rfl)
    (hfold : ∀ v, genFold (.Name it ip) f.env v = pure v := by intro _; rfl) (hline : (ap.endLine == pos.line) = true := by rfl)
    (hqd : (q == ("__debug__" : Str)) = false := by decide) (hxd : (x == ("__debug__" : Str)) = false := by decide) (hxc : (x == ("__classdict__" : Str)) = false := by decide) (hid : (it == ("__debug__" : Str)) = false := by decide) (hic : (it == ("__classdict__" : Str)) = false := by decide) :
    Ev f O ρ (.Call (.Attribute (.Constant (.str (S sep)) k1 p1) "join" ap) [.GeneratorExp (.Call (.Name q qp) [.Name x xp] [] cp) [⟨.Name x px, .Name it ip, [], 0⟩] scope gp] [] pos) (.str (S (jn sep (ps.map gf)))) := by
  first | apply Ev.mk | apply EvS.mk | apply Tr.mk | apply EvL.mk | apply Ex.mk | apply ExS.mk | apply It.mk | skip
  intro s Q E st k
  refine Call_method1 hbase (by rfl) hline (PySem.Calls.Constant_str ?_)
  let s1 : Shared := { s with toks := s.toks + 1 }
  have m1 : Mv f.G f.W s s1 := .toks _
  have st1 := st.mv m1
  refine ⟨"str", _, F.plainAttrs_str, F.slot_str_join, F.type_str_join, typeIs_str _ _ _, (fun a q => nomatch q), ?_⟩
  refine PySem.Calls.callWith_builtin rfl (PySem.Calls.evalArgs_plain (PySem.Calls.spliced_cons ?_))
  refine wpAny_GeneratorExp_walksQD st.ok.hh hco hclos hcell h0 hx hkind (Nat.lt_of_le_of_lt (Nat.le_add_right _ 2) hd) ?_ hfold
  refine (Ev.name hit hid hic).run s1 _ _ st1 fun v s2 m2 h2 => ?_
  have st2 := st1.mv m2
  obtain ⟨ax, vs, rfl, i2, n2, l2⟩ := h2.lists
  refine wpAny_pyIter_list i2.isList ?_
  let s3 : Shared := { s2 with heap := s2.heap.push { cls := .type "list_iterator", data := .fields #[.ref ax, .int 0 0] } }
  have m3 : Mv f.G f.W s2 s3 := .push _
  have st3 := st2.mv m3
  refine ⟨st3.ok.bas.lim.keeps st3.bel.stays, ?_⟩
  refine genCode st3 C hc fun code h4 tk4 m4 hle4 hx4 => ?_
  have st4 := st3.mv m4
  obtain ⟨bm, ob, hb1, hb2, hb3, hb4, hb5, hb6⟩ := B.ex
  have hglob : s3.heap.Ns f.env.globals f.mg := by rw [st3.ok.glob]; exact st3.ok.bas.g.keeps st3.bel.stays
  refine wpAny_builtinsFor (m := f.mg) (by rw [st4.ok.glob]; exact st4.ok.bas.g.keeps st4.bel.stays) hb1 hb2 (st4.bel.stays _ _ hb3) hb4 hb5 hb6 ?_
  have hax : ax < s2.heap.objs.size := by obtain ⟨n, e⟩ := i2; exact Heap.lt_size e
  have hne : ax ≠ s2.heap.objs.size := Nat.ne_of_lt hax
  have hs2 : s2.heap.objs.size < h4.objs.size := Nat.lt_of_lt_of_le (by show _ < (s2.heap.push _).objs.size; rw [Heap.size_push]; exact Nat.lt_succ_self _) hle4
  obtain ⟨l, hl1, hl2⟩ := l2.strs
  have hvl : vs.toArray.size = ps.length := by rw [List.size_toArray, l2.length, List.length_map]
  have hP : ∀ b o, s3.heap.get? b = some o → tabB o = false → h4.get? b = some o := fun b o e hb => hx4 b o (by
    rintro rfl
    obtain ⟨op, e', ok⟩ := st3.tab _ C.2.2
    rw [e] at e'; cases e'
    rw [ok.b] at hb; cases hb) e
  have it0 : s3.heap.IsListIter s2.heap.objs.size ax 0 := ⟨_, Heap.get?_push_size _ rfl, rfl, rfl⟩
  have li0 : s3.heap.IsList ax vs.toArray := i2.isList.at fun o e => Heap.get?_push_of_some _ e
  have it4 : h4.IsListIter s2.heap.objs.size ax 0 := by
    obtain ⟨o, e, c1, d1⟩ := it0
    exact ⟨o, hP _ _ e (tabB_cls (by rw [c1]; exact fun h => nomatch h)), c1, d1⟩
  have li4 : h4.IsList ax vs.toArray := by
    obtain ⟨o, e, c1, d1⟩ := li0
    exact ⟨o, hP _ _ e (tabB_cls (by rw [c1]; exact fun h => nomatch h)), c1, d1⟩
  have lim4 : h4.NoLimit := st4.ok.bas.lim.keeps st4.bel.stays
  have cst := cstat_lt st
  have s0l : f.s₀.heap.objs.size < s2.heap.objs.size := s0_le st2
  refine ⟨s2.heap.objs.size, [s2.heap.objs.size, ax], [s2.heap.objs.size], vs.toArray.size, _, _, fun _ => true, fun i y => ∃ p t, ps[i]? = some p ∧ y = .str (S (gf p)) t, rfl, fun A' hA => Walks.list hA _ _ hne vs.toArray, ⟨it4, li4⟩, ?_, lim4, ?_, fun href hhref => ⟨?_, ?_⟩, fun a h5 tk gs hgb hag hsz5 hk5 W hat => ?_⟩
  · intro b hb
    simp only [List.mem_cons, List.not_mem_nil, or_false] at hb
    rcases hb with rfl | rfl
    · exact hs2
    · exact Nat.lt_trans hax hs2
  · intro h
    rw [List.mem_singleton.mp h] at cst
    exact Nat.lt_asymm cst s0l
  · intro A' E' i v t m hA hD hU hPi hns hm hkp
    exact wpAny_pure ⟨rfl, t.heap, t.toks, rfl, fun _ _ e => e⟩
  · intro A' E' i v t m hA hD hU hPi _ hns hm hkp
    have hPi' : vs[i]? = some v := by simpa using hPi
    obtain ⟨p, u, hp, rfl⟩ : ∃ p u, ps[i]? = some p ∧ v = .str (S p) u := by
      rw [hl1] at hPi'
      simp only [strValues, List.getElem?_map] at hPi'
      obtain ⟨y, hy, rfl⟩ := Option.map_eq_some_iff.mp hPi'
      have e2 : (l.map (·.1))[i]? = some y.1 := by rw [List.getElem?_map, hy]; rfl
      rw [hl2, List.getElem?_map] at e2
      obtain ⟨p, hp, e3⟩ := Option.map_eq_some_iff.mp e2
      exact ⟨p, y.2, hp, by rw [e3]⟩
    have hpm : p ∈ ps := List.mem_of_getElem? hp
    have hk : ∀ b o, (erase f.G).get? b = some o → t.heap.get? b = some o := fun b o e => by
      rw [erase_get] at e
      have hb0 : b < f.s₀.heap.objs.size := Heap.lt_size (st.ok.hG b o e)
      have e4 : h4.get? b = some o := hP b o (st3.bel.stays b o e) (st.ok.bas.noTab b o e)
      refine hkp b (List.mem_range.mpr (Heap.lt_size e4)) ?_ o (hhref b o e4)
      intro hb
      rw [List.mem_singleton.mp hb] at hb0
      exact Nat.lt_asymm hb0 s0l
    let f' : Fm := { prog := f.prog, w := f.w, mg := f.mg, mb := f.mb, G := erase f.G, A := A', env := genEnv scope [] h4.objs.size code builtinsNs f.env, outer := [], V₀ := [], s₀ := { t with heap := trunc t.heap h4.objs.size }, Wc := [], own := false }
    have hsub : ∀ b o, f'.s₀.heap.get? b = some o → t.heap.get? b = some o := fun b o e => trunc_sub e
    have hup : ∀ b o, b < h4.objs.size → t.heap.get? b = some o → f'.s₀.heap.get? b = some o := fun b o hb e => trunc_up hb e
    have ok' : f'.Ok := {
      hh := hA
      kind := hkind
      glob := st.ok.glob
      bi := rfl
      bas := erase_bas st.ok.bas
      hG := fun b o e => hup b o (by
        rw [erase_get] at e
        exact Nat.lt_trans (Heap.lt_size (st.ok.hG b o e)) (Nat.lt_trans s0l hs2)) (hk b o e)
      fL := trunc_size _ _
      apa := .nil
      fC := fun h => nomatch h
      hW := fun a ha => by simp [f', Fm.W] at ha }
    have st' : St f' [] [(x, .dat (.str (S p)))] t := {
      ok := ok'
      bel := ⟨trivial, hk, trivial⟩
      frm := Mv.of_keep (s := f'.s₀) (h' := t.heap) (tk := t.toks) hsub
      loc := ⟨m, hns⟩
      cel := fun n c hc => by simp [f', genEnv] at hc
      vars := fun y sl hy => by
        have hyx : y = x := by
          by_cases h : y = x
          · exact h
          · have hb : (y == x) = false := by simpa using h
            simp [List.lookup_cons, hb] at hy
        subst hyx
        simp only [List.lookup_cons, beq_self_eq_true, Option.some.injEq] at hy
        subst hy
        exact ⟨_, .inl ⟨hx, m, hns, hm⟩, .str _ _⟩
      own := fun p hp => (nomatch hp)
      nod := List.nodup_nil
      fO := fun p hp => (nomatch hp)
      v0 := fun a ha => (nomatch ha)
      frD := fun a ha => by simp [f', Fm.W] at ha
      kep := fun p hp => (nomatch hp)
      oV := fun p hp => (nomatch hp)
      dat := fun p hp => (nomatch hp)
      tab := fun P hP => absurd hP (erase_grows _ _) }
    have ev : Ev f' [] [(x, .dat (.str (S p)))] (.Call (.Name q qp) [.Name x xp] [] cp) (.str (S (gf p))) := by
      refine Ev.callF (Ev.global (v := .ref qa) hqg hmq hqd) (show (erase f.G).get? qa = some oq by rw [erase_get]; exact ho) hod (EvL.consE (Ev.name (by simp [List.lookup_cons]) hxd hxc) EvL.nilE) (OpN.con con (hR p hpm) ?_ ?_)
      · show A'.depth + 1 < recursionLimit; omega
      · show A'.units + 40 * 1 + 100 < cLine; omega
    refine ev.run t _ _ st' fun y t' mm hy => ?_
    cases hy
    exact ⟨⟨p, _, hp, rfl⟩, Mv.keeps mm⟩
  · refine PySem.Calls.spliced_nil ?_
    rw [passing_all, List.length_range] at W
    refine SC.joinGen W.in4_2 (fun j s' hst => hst.1.typeIs) hat ?_ List.mem_cons_self (fun j v hv => let ⟨_, _, p, u, _, e⟩ := hv; ⟨_, u, e⟩) (fun s' lt hm hacc => ?_) (by rw [hvl]; exact hn)
    · intro b hb
      show b < h5.objs.size
      rw [hsz5]
      rcases List.mem_cons.mp hb with rfl | hb
      · exact Nat.lt_succ_self _
      · rcases List.mem_cons.mp hb with rfl | hb
        · exact Nat.lt_succ_of_lt hag
        · exact Nat.lt_succ_of_lt (Nat.lt_trans (List.mem_range.mp hb) hag)
    · have hle : lt.map (·.1) = (ps.map gf).map S := by
        apply List.ext_getElem?
        intro j
        have hlt : lt.length = ps.length := by have := hacc.1; rw [hvl] at this; simpa [strValues] using this
        by_cases hj2 : j < ps.length
        · have hj' : j < lt.length := hlt ▸ hj2
          obtain ⟨i, hi, p, u, hp, hv⟩ := hacc.2 j (.str lt[j].1 lt[j].2) (by simp [strValues, List.getElem?_eq_getElem hj'])
          have hij : i = j := by
            rw [List.getElem?_range (by rw [hvl]; exact hj2)] at hi
            exact (Option.some.inj hi).symm
          subst hij
          injection hv with h1 _
          simp only [List.getElem?_map, List.getElem?_eq_getElem hj', hp, Option.map_some, h1]
        · rw [List.getElem?_eq_none (by simpa [hlt] using Nat.le_of_not_lt hj2), List.getElem?_eq_none (by simpa using Nat.le_of_not_lt hj2)]
      rw [hle]
      refine ⟨joinOk_of _ _ ?_, fun t' tk' => ?_⟩
      · have e1 : ((ps.map gf).map S).map (·.length) = (ps.map gf).map List.length := by rw [List.map_map]; apply List.map_congr_left; intro p _; exact S_length p
        rw [e1, List.length_map, List.length_map, S_length]; exact hj
      · have e2 : Txt.join (S sep) ((ps.map gf).map S) = S (jn sep (ps.map gf)) := by
          unfold Txt.join; rw [StrLaws.glued_eq_join, jn_S]
        rw [e2]
        refine k _ _ ?_ (.str _ _)
        obtain ⟨hmH, hmG, hmD, hmO, _⟩ := hm
        refine (m1.trans m2).trans ?_
        refine ⟨⟨s'.heap, tk', s'.gens, ?_, .inr ⟨P, C.2.2⟩⟩, fun hb => ?_, fun b o e => ?_⟩
        · show ({ s' with toks := tk' } : Shared) = _
          cases s'
          simp only at hmD hmO
          simp [hmD, hmO, s3]
        · exact hmG.bare (AllBare.push hb hgb)
        · have ck : CKeep h4 s'.heap := fun c oc vs e4 hcc hdd => by
            refine ⟨oc, hmH c oc ?_ (hk5 c oc e4), hcc, hdd⟩
            intro hw
            rcases List.mem_cons.mp hw with h | h
            · have := Heap.lt_size e4
              rw [h] at this; exact Nat.lt_irrefl _ this
            · obtain ⟨oi, ei, ci, _⟩ := it4
              rw [List.mem_singleton.mp h, ei] at e4
              cases e4
              rw [ci] at hcc
              injection hcc with hcc
              exact absurd hcc (by decide)
          have hb2 : b < s2.heap.objs.size := Heap.lt_size e
          have up : ∀ o', h4.get? b = some o' → s'.heap.get? b = some o' := fun o' e' => hmH b o' (by
            intro hw
            rcases List.mem_cons.mp hw with h | h
            · rw [h] at hb2; exact Nat.lt_asymm hb2 hs2
            · rw [List.mem_singleton.mp h] at hb2; exact Nat.lt_irrefl _ hb2) (hk5 b o' e')
          have q := (m3.trans m4).2.2 b o e
          split
          · rename_i h
            rw [if_pos h] at q
            obtain ⟨o', e', r1, r2⟩ := q
            exact ⟨o', up _ e', r1, fun q => (r2 q).up ck⟩
          · rename_i h
            rw [if_neg h] at q
            obtain ⟨sl, e', r⟩ := q
            exact ⟨sl, up _ e', r⟩
end
end Mine

namespace Mine
/-! ## comprehensions with a second clause -/
def turnTree (target : Expr) (ifs : List Expr) (p : Pos) (it : Value) (env : Env) (emit : Sem Unit) (c : Code) : Sem Fin := do
  standAt p
  match ← pyNext it with
  | none => pure (.done .next)
  | some v =>
    letOwnedTupleGo target it v
    assign target env v
    let mut ok := true
    for c in ifs do
      if ok then ok ← isTrue c env (eval c env)
    if ok then emit
    again c
section
variable {prog : Program} {w : World} {A : Around} {R : Result → Shared → Prop} {s : Shared}
theorem codeAny_compLoop_emit {elt target : Expr} {gens : List Comprehension} {scope : Scope} {pos : Pos} {depth : Nat} {ifs : List Expr} {p : Pos} {it acc : Value} {env : Env} {emit : Sem Unit} (hT : compTurn (.ListComp elt gens scope pos) depth it acc env = turnTree target ifs p it env emit (.compLoop (.ListComp elt gens scope pos) depth it acc env)) (I : Nat → Shared → Prop)
    (turn : ∀ n s, I n s → wpAny (model prog w) A (pyNext it) (fun r s₁ => match r with
      | none => R (.ok .next) s₁
      | some v => wpAny (model prog w) A (letOwnedTupleGo target it v) (fun _ s₁' => wpAny (model prog w) A (assign target env v) (fun _ s₂ =>
          wpAny (model prog w) A (tests ifs env) (fun ok s₃ =>
            if ok = true then wpAny (model prog w) A emit (fun _ s₅ => ∃ m, m < n ∧ I m s₅) (notedBy (model prog w) A env fun e s' => R (.error e) s') s₃
            else ∃ m, m < n ∧ I m s₃) (notedBy (model prog w) A env fun e s' => R (.error e) s') s₂) (notedBy (model prog w) A env fun e s' => R (.error e) s') s₁') (notedBy (model prog w) A env fun e s' => R (.error e) s') s₁) (notedBy (model prog w) A env fun e s' => R (.error e) s') s)
    (n : Nat) (h : I n s) : codeAny (model prog w) A (.compLoop (.ListComp elt gens scope pos) depth it acc env) R s := by
  refine codeAny_loop rfl I (fun n s hI => ?_) n h
  show wpAny _ A ((compTurn (.ListComp elt gens scope pos) depth it acc env).onRaise (fun x => do noteFrame x env; theTreesLotGoes x)) _ _ s
  refine wpAny_noted ?_
  rw [hT]
  unfold turnTree
  refine wpAny_bind (wpAny_standAt (wpAny_bind (wpAny_mono (turn n s hI) (fun r s₁ h₁ => ?_) fun _ _ h' => h')))
  cases r with
  | none => exact wpAny_pure h₁
  | some v =>
    refine wpAny_bind (wpAny_mono h₁ (fun _ s₁' h₁' => ?_) fun _ _ h' => h')
    refine wpAny_bind (wpAny_mono h₁' (fun _ s₂ h₂ => wpAny_bind (wpAny_mono h₂ (fun ok s₃ h₃ => ?_) fun _ _ h' => h')) fun _ _ h' => h')
    cases ok with
    | false => exact wpAny_pure ⟨rfl, h₃⟩
    | true => exact wpAny_bind (wpAny_mono h₃ (fun _ s₅ h₅ => wpAny_pure ⟨rfl, h₅⟩) fun _ _ h' => h')
end
/-- what a turn gives out to the list Dd -/
def Em1 (f : Fm) (Dd : Addr) (ρ : List (Str × Slot)) (acc gs : List Dat) (tree : Sem Unit) : Prop :=
  ∀ (s : Shared) (Q : Unit → Shared → Prop) (E : Value → Shared → Prop), St f [(Dd, acc)] ρ s → (∀ s', St f [(Dd, acc ++ gs)] ρ s' → Q () s') → wpAny f.M f.A tree Q E s
def pickE {α : Type} (p : α → Bool) (gs : α → List Dat) (xs : List α) : List Dat := (xs.filter p).flatMap gs
def TurnE {α : Type} (f : Fm) (scope : Scope) (cl : List (Str × Addr)) (ρc : List (Str × Slot)) (tgt : Expr) (ifs : List Expr) (emit : Value → Env → Sem Unit) (xs : List α) (j : α → Dat) (p : α → Bool) (gs : α → List Dat) : Prop :=
  ∀ (C : Addr) (s₁ : Shared) (V : List Addr) (K : List (Addr × Obj)) (D : List (List Value × List Dat)) (Dd : Addr) (acc : List Dat) (i : Nat) (d : α), xs[i]? = some d → acc = pickE p gs (xs.take i) →
    ∃ ρ'', Sub ρc ρ'' ∧ As (withF (compF f [] cl C scope s₁) V K D) [(Dd, acc)] ρc tgt (j d) ρ'' ∧ Ts (withF (compF f [] cl C scope s₁) V K D) [(Dd, acc)] ρ'' ifs (p d) ∧
      (p d = true → Em1 (withF (compF f [] cl C scope s₁) V K D) Dd ρ'' acc (gs d) (emit (.ref Dd) (compEnvC scope cl C f.env)))
section
variable {f : Fm} {O : List (Addr × List Dat)} {ρ ρc : List (Str × Slot)} {iter tgt elt : Expr} {ifs : List Expr} {scope : Scope} {pos : Pos} {cl : List (Str × Addr)} {ds : List Dat} {α : Type} {xs : List α} {j : α → Dat} {p : α → Bool} {gs : α → List Dat} {rest : List Comprehension} {emit : Value → Env → Sem Unit}
theorem pickE_take {i : Nat} {d : α} (h : xs[i]? = some d) : pickE p gs (xs.take (i + 1)) = pickE p gs (xs.take i) ++ (if p d then gs d else []) := by
  unfold pickE
  rw [List.take_add_one, h]
  cases hp : p d <;> simp [hp]
/-- the block of a comprehension -/
theorem comp_coreE {s₁ s' : Shared} {wr fp : List Addr} {vs : List Value} {es : List Dat} {J : Nat → Heap → Prop} {it : Value} {RR : Value → Addr → Result → Shared → Prop} {E : Value → Shared → Prop}
    (st1 : St f O ρ s₁) (hcap : Cap f scope cl ρ ρc) (hkind : scope.kind = .function) (hcell : ∀ y ∈ scope.names, y.2 ≠ .cell) (hd : HasL (f.V O) s₁.heap vs es)
    (ITA : ∀ V, (∀ b ∈ wr, b ∈ V) → Itr f.prog f.w f.A V it tgt vs es (xs.map j) J fp wr) (hJ : J 0 s'.heap) (hlo : ∀ b ∈ wr, s₁.heap.objs.size ≤ b) (hle : s₁.heap.objs.size ≤ s'.heap.objs.size) (m₂ : Mv f.G f.W s₁ s') (hT : ∀ it acc env, compTurn (.ListComp elt (⟨tgt, iter, ifs, 0⟩ :: rest) scope pos) 0 it acc env = turnTree tgt ifs iter.pos it env (emit acc env) (.compLoop (.ListComp elt (⟨tgt, iter, ifs, 0⟩ :: rest) scope pos) 0 it acc env)) (turn : TurnE f scope cl ρc tgt ifs emit xs j p gs)
    (hRR : ∀ Dd C m s₅ us, s₁.heap.objs.size ≤ Dd → s₁.heap.objs.size ≤ C → Dd ≠ C → s₅.heap.Ns C m → Mv f.G f.W s₁ s₅ → s₅.heap.PlainList Dd us.toArray → HasL (f.V O) s₅.heap us (pickE p gs xs) → Dd ∉ f.V O → RR (.ref Dd) C (.ok .next) s₅) :
    wpAny f.M f.A (newList []) (fun acc s₃ => wpAny f.M f.A (newFunctionEnv scope f.env.globals cl [] f.env.qual none .none (some f.env)) (fun cenv s₄ =>
      codeAny f.M f.A (.compStart (.ListComp elt (⟨tgt, iter, ifs, 0⟩ :: rest) scope pos) 0 it acc { cenv with scope := relabel scope f.env }) (RR acc cenv.locals) s₄) E s₃) E s' := by
  refine wpAny_newObj_type (wpAny_newFunctionEnv hcell (by intro y hy; simp at hy) (fun h₁ hns₁ hsb₁ => ?_) hkind)
  dsimp only at hns₁ hsb₁ ⊢
  generalize hH2 : s'.heap.push { cls := .type "list", dict := none, data := .seq ([] : List Value).toArray } = H2 at hns₁ hsb₁ ⊢
  have hC : H2.objs.size = s'.heap.objs.size + 1 := by rw [← hH2, Heap.size_push]
  have hDC : s'.heap.objs.size ≠ H2.objs.size := by rw [hC]; exact Nat.ne_of_lt (Nat.lt_succ_self _)
  have below : ∀ b, b < s'.heap.objs.size → b ≠ H2.objs.size := fun b hb => by rw [hC]; exact Nat.ne_of_lt (Nat.lt_succ_of_lt hb)
  have old : ∀ b o, s'.heap.get? b = some o → h₁.get? b = some o := fun b o e => hsb₁.extBut b o (below b (Heap.lt_size e)) (Heap.get?_push_of_some _ (hH2 ▸ Heap.get?_push_of_some _ e))
  have hacc : h₁.PlainList s'.heap.objs.size #[] := ⟨_, hsb₁.extBut _ _ hDC (Heap.get?_push_of_some _ (hH2 ▸ Heap.get?_push_size _ rfl))⟩
  let V : List Addr := [s'.heap.objs.size] ++ (wr ++ f.V O)
  have IT := ITA V fun b hb => List.mem_append.mpr (.inr (List.mem_append.mpr (.inl hb)))
  have lo0 : ∀ b ∈ wr, s₁.heap.objs.size ≤ b := hlo
  have loop : ∀ s₄ : Shared, s₄ = { s' with heap := h₁, toks := s'.toks + ([] : List (Str × Value)).length } →
      codeAny f.M f.A (.compLoop (.ListComp elt (⟨tgt, iter, ifs, 0⟩ :: rest) scope pos) 0 it (.ref s'.heap.objs.size) (compEnvC scope cl H2.objs.size f.env)) (RR (.ref s'.heap.objs.size) H2.objs.size) s₄ := by
    rintro s₄ rfl
    have m₄ : Mv f.G f.W s₁ { s' with heap := h₁, toks := s'.toks + ([] : List (Str × Value)).length } := m₂.trans (.of_keep old)
    obtain ⟨hJ4, Dfp, st4⟩ := St.comp (scope := scope) (cl := cl) (ρc := ρc) (C := H2.objs.size) st1 hcap hkind hd IT hJ hlo m₂ rfl old m₄ (by rw [hC]; exact Nat.lt_succ_self _) hns₁ hacc hle
    refine codeAny_compLoop_emit (hT _ _ _) (fun n s => ∃ i, n = xs.length + 1 - i ∧ i ≤ xs.length ∧ J i s.heap ∧ St (withF (compF f [] cl H2.objs.size scope s₁) (wr ++ f.V O) (objsAt s.heap fp) [(vs, es)]) [(s'.heap.objs.size, pickE p gs (xs.take i))] ρc s) ?_ (xs.length + 1)
      ⟨0, rfl, Nat.zero_le _, hJ4, by simpa [pickE] using st4⟩
    rintro n s₂ ⟨i, rfl, hi, hJi, st3⟩
    have vex : ∀ a ∈ V, ∃ o, s₂.heap.get? a = some o := fun a ha => by
      rcases List.mem_append.mp ha with ha | ha
      · obtain ⟨us, ⟨n, e⟩, _⟩ := st3.own _ (List.mem_singleton.mpr rfl)
        rw [List.mem_singleton.mp ha]; exact ⟨_, e⟩
      · exact st3.v0 a ha
    rcases Nat.lt_or_ge i xs.length with hlt | hge
    · have hd0 : xs[i]? = some xs[i] := List.getElem?_eq_getElem hlt
      have hd' : (xs.map j)[i]? = some (j xs[i]) := by rw [List.getElem?_map, hd0]; rfl
      have hdata : HasL V s₂.heap vs es := st3.dat (vs, es) (List.mem_singleton.mpr rfl)
      refine wpAny_mono (IT.item i (j xs[i]) s₂ (fun v s₄ => ∃ h' tk, s₄ = { s₂ with heap := h', toks := tk } ∧ J (i + 1) h' ∧ Has V h' v (j xs[i]) ∧ (∀ b o, b ∉ wr → s₂.heap.get? b = some o → h'.get? b = some o)) (notedBy (model f.prog f.w) f.A (compEnvC scope cl H2.objs.size f.env) _) hd' hJi hdata vex
        (fun v h' tk hJ' hv' hk' => ⟨h', tk, rfl, hJ', hv', hk'⟩)) (fun r s₄ hr => ?_) fun _ _ x => x
      obtain ⟨v, rfl, hr⟩ := hr
      refine wpAny_mono hr (fun _ s₅ h5 => ?_) fun _ _ x => x
      obtain ⟨h', tk, rfl, hJ', hv', hk'⟩ := h5
      have st4 : St (withF (compF f [] cl H2.objs.size scope s₁) (wr ++ f.V O) (objsAt h' fp) [(vs, es)]) [(s'.heap.objs.size, pickE p gs (xs.take i))] ρc { s₂ with heap := h', toks := tk } := by
        refine St.foreign (f := compF f [] cl H2.objs.size scope s₁) st3 lo0 (fun b hb => List.mem_append.mpr (.inl hb)) (fun a ha => ha) (fun a ha => ?_) (fun p hp => hp) (fun p hp => ?_) (fun b hb o e => IT.fpOk i _ hJi b (IT.sub b hb) o e) hk'
        · by_cases hw : a ∈ wr
          · exact IT.ex (i + 1) _ hJ' a (IT.sub a hw)
          · obtain ⟨o, e⟩ := st3.v0 a ha
            exact ⟨o, hk' a o hw e⟩
        · obtain ⟨h1, h2⟩ := objsAt_mem hp
          refine ⟨h2, IT.fpOk (i + 1) _ hJ' _ h1 _ h2, fun q => ?_⟩
          rw [List.mem_singleton.mp q] at h1
          exact Dfp h1
      obtain ⟨ρ'', hsub, has, hts, hel⟩ := turn H2.objs.size s₁ (wr ++ f.V O) (objsAt h' fp) [(vs, es)] s'.heap.objs.size (pickE p gs (xs.take i)) i xs[i] hd0 rfl
      have fin : ∀ (acc' : List Dat) (s₇ : Shared), acc' = pickE p gs (xs.take (i + 1)) → St (withF (compF f [] cl H2.objs.size scope s₁) (wr ++ f.V O) (objsAt h' fp) [(vs, es)]) [(s'.heap.objs.size, acc')] ρ'' s₇ →
          ∃ m, m < xs.length + 1 - i ∧ ∃ i, m = xs.length + 1 - i ∧ i ≤ xs.length ∧ J i s₇.heap ∧ St (withF (compF f [] cl H2.objs.size scope s₁) (wr ++ f.V O) (objsAt s₇.heap fp) [(vs, es)]) [(s'.heap.objs.size, pickE p gs (xs.take i))] ρc s₇ := by
        rintro acc' s₇ rfl st7
        have st7' := st7.weak hsub
        have kfp : ∀ b ∈ fp, ∀ o, h'.get? b = some o → s₇.heap.get? b = some o := fun b hb o e => (st7.kep (b, o) (mem_objsAt hb e)).1
        have hJ7 : J (i + 1) s₇.heap := IT.frame _ _ _ hJ' kfp
        refine ⟨xs.length + 1 - (i + 1), by omega, i + 1, rfl, hlt, hJ7, ?_⟩
        refine St.foreign (f := compF f [] cl H2.objs.size scope s₁) (wr := []) (h' := s₇.heap) (tk := s₇.toks) st7' (fun _ h => nomatch h) (fun _ h => nomatch h) (fun a ha => ha) (fun a ha => st7.v0 a ha) (fun p hp => hp) (fun p hp => ?_) (fun _ h => nomatch h) fun _ _ _ e => e
        obtain ⟨h1, h2⟩ := objsAt_mem hp
        refine ⟨h2, IT.fpOk (i + 1) _ hJ7 _ h1 _ h2, fun q => ?_⟩
        rw [List.mem_singleton.mp q] at h1
        exact Dfp h1
      refine has _ v _ _ st4 hv' fun s₆ st6 => ?_
      refine hts s₆ _ _ st6 fun s₆' m₆ => ?_
      have st6' := st6.mv m₆
      have ptk := pickE_take (p := p) (gs := gs) hd0
      cases hp : p xs[i] with
      | false =>
        rw [hp] at ptk
        exact fin _ _ (by rw [ptk]; simp) st6'
      | true =>
        rw [hp] at ptk
        refine hel hp s₆' _ _ st6' fun s₈ st8 => ?_
        exact fin _ _ (by rw [ptk]; simp) st8
    · have hie : i = xs.length := Nat.le_antisymm hi hge
      subst hie
      refine wpAny_mono (IT.done s₂ (fun s₄ => ∃ h' tk, s₄ = { s₂ with heap := h', toks := tk } ∧ ∀ b o, b ∉ wr → s₂.heap.get? b = some o → h'.get? b = some o) (notedBy (model f.prog f.w) f.A (compEnvC scope cl H2.objs.size f.env) _) (by rw [List.length_map]; exact hJi) fun h' tk hk' => ⟨h', tk, rfl, hk'⟩) (fun r s₄ hr => ?_) fun _ _ x => x
      obtain ⟨rfl, h', tk, rfl, hk'⟩ := hr
      have st5 : St (withF (compF f [] cl H2.objs.size scope s₁) (f.V O) [] []) [(s'.heap.objs.size, pickE p gs (xs.take xs.length))] ρc { s₂ with heap := h', toks := tk } := by
        refine St.foreign (f := compF f [] cl H2.objs.size scope s₁) (V' := f.V O) (K' := []) (D' := []) st3 lo0 (fun b hb => List.mem_append.mpr (.inl hb)) (fun a ha => List.mem_append.mpr (.inr ha)) (fun a ha => ?_) (fun p hp => nomatch hp) (fun p hp => nomatch hp) (fun b hb o e => IT.fpOk _ _ hJi b (IT.sub b hb) o e) hk'
        obtain ⟨o, e⟩ : ∃ o, s₁.heap.get? a = some o := by
          rcases List.mem_append.mp ha with ha | ha
          · obtain ⟨p, hp, rfl⟩ := List.mem_map.mp ha
            obtain ⟨us, ⟨n, e⟩, _⟩ := st1.own p hp
            exact ⟨_, e⟩
          · exact st1.v0 a ha
        have hw : a ∉ wr := fun hw => absurd (Heap.lt_size e) (Nat.not_lt.mpr (hlo _ hw))
        obtain ⟨o', e'⟩ := st3.v0 a (List.mem_append.mpr (.inr ha))
        exact ⟨o', hk' a o' hw e'⟩
      obtain ⟨us, iu, hu⟩ := st5.own _ (List.mem_singleton.mpr rfl)
      obtain ⟨m, hm⟩ := st5.loc
      rw [List.take_length] at hu
      refine hRR _ _ m _ us (st5.fO _ (List.mem_singleton.mpr rfl)) st5.ok.fL hDC hm st5.frm iu (hu.keep ?_) (st5.oV _ (List.mem_singleton.mpr rfl))
      exact ⟨fun x items hx hi => ⟨hi, fun q => hx (List.mem_append.mpr (.inr q))⟩, fun x items hx hi => ⟨hi, fun q => hx (List.mem_append.mpr (.inr q))⟩⟩
  have hJ1 : J 0 h₁ := IT.frame _ _ _ hJ fun b _ o e => old b o e
  exact codeAny_compStart_list (loop _ rfl) (IT.self 0 _ _ _ hJ1 (loop _ rfl))

/-- a comprehension whose turns give out -/
theorem Ev.compE (hit : It f O ρ iter tgt (xs.map j)) (hclos : closureFor scope f.env = pure cl) (hcap : Cap f scope cl ρ ρc)
    (hT : ∀ it acc env, compTurn (.ListComp elt (⟨tgt, iter, ifs, 0⟩ :: rest) scope pos) 0 it acc env = turnTree tgt ifs iter.pos it env (emit acc env) (.compLoop (.ListComp elt (⟨tgt, iter, ifs, 0⟩ :: rest) scope pos) 0 it acc env))
    (turn : TurnE f scope cl ρc tgt ifs emit xs j p gs) (hkind : scope.kind = .function := by rfl) (hcell : ∀ y ∈ scope.names, y.2 ≠ .cell := by decide)
    (hnames : ∀ y ∈ scope.names, y.2 = .local → scope.names.lookup y.1 = some .local := by decide) (hs : ∀ x, foldedSetIterable iter f.env x = pure x := by intro _; rfl) : Ev f O ρ (.ListComp elt (⟨tgt, iter, ifs, 0⟩ :: rest) scope pos) (.list (pickE p gs xs)) := by
  first | apply Ev.mk | apply EvS.mk | apply Tr.mk | apply EvL.mk | apply Ex.mk | apply ExS.mk | apply It.mk | skip
  intro s Q E st k
  rw [arm_eval_ListComp]
  show wpAny f.M f.A (comprehension (.ListComp elt (⟨tgt, iter, ifs, 0⟩ :: rest) scope pos) scope f.env _ (newList []) false (eval iter f.env)) Q E s
  refine wpAny_comprehension_free (use := none) rfl hs hclos hkind hnames ?_
  refine hit.run s _ _ st fun it s₁ s' vs es J fp wr m₁ m₂ hd ITA hJ hlo hfO hle => ?_
  refine comp_coreE (RR := fun acc C => compPost _ _ E none Q acc C) (st.mv m₁) hcap hkind hcell hd ITA hJ hlo hle m₂ hT turn ?_
  intro Dd C m s₅ us hDd hC hDC hn mv hp hu hDV
  refine ⟨m, hn, fun h' hs' => ?_⟩
  obtain ⟨h1, h2⟩ := comp_gone hC hDC hn mv hp hu hDV hs'
  exact k _ _ (m₁.trans h1) h2

/-- the second clause -/
def emit2 (elt : Expr) (g1 : Comprehension) (t2 it2 : Expr) (scope : Scope) (pos : Pos) (acc : Value) (env : Env) : Sem Unit := do
  let x ← eval it2 env
  standAt it2.pos
  let x ← foldedSetIterable it2 env x
  let _ ← runOwn (.compStart (.ListComp elt [g1, ⟨t2, it2, [], 0⟩] scope pos) 1 (← holding [x] (pyIter x)) acc env) env
theorem compTurn_two (elt t1 it1 t2 it2 : Expr) (scope : Scope) (pos : Pos) (it acc : Value) (env : Env) :
    compTurn (.ListComp elt [⟨t1, it1, [], 0⟩, ⟨t2, it2, [], 0⟩] scope pos) 0 it acc env =
      turnTree t1 [] it1.pos it env (emit2 elt ⟨t1, it1, [], 0⟩ t2 it2 scope pos acc env) (.compLoop (.ListComp elt [⟨t1, it1, [], 0⟩, ⟨t2, it2, [], 0⟩] scope pos) 0 it acc env) := by
  have e : compTurn (.ListComp elt [⟨t1, it1, [], 0⟩, ⟨t2, it2, [], 0⟩] scope pos) 0 it acc env = (do
      standAt it1.pos
      match ← pyNext it with
      | none => pure (.done .next)
      | some v =>
        letOwnedTupleGo t1 it v
        assign t1 env v
        let x ← eval it2 env
        standAt it2.pos
        let x ← foldedSetIterable it2 env x
        let _ ← runOwn (.compStart (.ListComp elt [⟨t1, it1, [], 0⟩, ⟨t2, it2, [], 0⟩] scope pos) 1 (← holding [x] (pyIter x)) acc env) env
        again (.compLoop (.ListComp elt [⟨t1, it1, [], 0⟩, ⟨t2, it2, [], 0⟩] scope pos) 0 it acc env)) := by rfl
  rw [e]
  unfold turnTree emit2
  congr 1
  funext _
  congr 1
  funext r
  cases r with
  | none => rfl
  | some v =>
    simp only [bind_assoc, List.forIn_nil, pure_bind, if_true]
theorem compTurn_last (elt t2 it2 : Expr) (g1 : Comprehension) (scope : Scope) (pos : Pos) (it acc : Value) (env : Env) :
    compTurn (.ListComp elt [g1, ⟨t2, it2, [], 0⟩] scope pos) 1 it acc env =
      turnTree t2 [] it2.pos it env (do let _ ← call (.builtin "list.append") [acc, ← eval elt env]) (.compLoop (.ListComp elt [g1, ⟨t2, it2, [], 0⟩] scope pos) 1 it acc env) := by rfl
theorem codeAny_compStart_1 {prog : Program} {w : World} {A : Around} {R : Result → Shared → Prop} {s : Shared} {elt t2 it2 : Expr} {g1 : Comprehension} {scope : Scope} {pos : Pos} {it acc : Value} {env : Env}
    (h0 : codeAny (model prog w) A (.compLoop (.ListComp elt [g1, ⟨t2, it2, [], 0⟩] scope pos) 1 it acc env) R s)
    (h : wpAny (model prog w) A (pyIter it) (fun it' s' => codeAny (model prog w) A (.compLoop (.ListComp elt [g1, ⟨t2, it2, [], 0⟩] scope pos) 1 it' acc env) R s') (notedBy (model prog w) A env fun x s' => R (.error x) s') s) :
    codeAny (model prog w) A (.compStart (.ListComp elt [g1, ⟨t2, it2, [], 0⟩] scope pos) 1 it acc env) R s := by
  refine codeAny_of_tree ?_
  show wpAny _ _ ((compStart (.ListComp elt [g1, ⟨t2, it2, [], 0⟩] scope pos) 1 it acc env).onRaise (fun x => do noteFrame x env; standAt theWindowsPlace)) _ _ s
  refine wpAny_notedAt ?_
  unfold compStart
  show wpAny _ _ (ask >>= _) _ _ s
  refine wpAny_bind (wpAny_askSetting (wpAny_ite ?_))
  split
  · exact wpAny_bind (wpAny_pure (wpAny_pure ⟨rfl, h0⟩))
  · refine wpAny_bind (wpAny_rule ?_)
    show wpAny _ _ (standAt it2.pos >>= _) _ _ s
    exact wpAny_bind (wpAny_standAt (wpAny_bind (wpAny_mono h (fun it' s' h' => wpAny_pure ⟨rfl, h'⟩) fun _ _ x => x)))
theorem Em1.inner {β : Type} {ys : List β} {j2 g2 : β → Dat} {Dd : Addr} {acc : List Dat} {g1 : Comprehension} {t2 it2 : Expr} (hit : It f [(Dd, acc)] ρ it2 t2 (ys.map j2))
    (turn : ∀ V K D acc' y, y ∈ ys → ∃ ρ'', Sub ρ ρ'' ∧ As (withF f V K D) [(Dd, acc')] ρ t2 (j2 y) ρ'' ∧ Ev (withF f V K D) [(Dd, acc')] ρ'' elt (g2 y)) (hsz : acc.length + ys.length ≤ sizeLine)
    (hfold : ∀ x, foldedSetIterable it2 f.env x = pure x := by intro _; rfl) : Em1 f Dd ρ acc (ys.map g2) (emit2 elt g1 t2 it2 scope pos (.ref Dd) f.env) := by
  first | apply Ev.mk | apply EvS.mk | apply Tr.mk | apply EvL.mk | apply Ex.mk | apply ExS.mk | apply It.mk | skip
  intro s Q E st k
  unfold emit2
  refine wpAny_bind (wpAny_mono (hit.run s (fun it s' => wpAny f.M f.A (runOwn (.compStart (.ListComp elt [g1, ⟨t2, it2, [], 0⟩] scope pos) 1 it (.ref Dd) f.env) f.env >>= fun _ => pure ()) Q E s') E st ?_) (fun x s₁ h₁ => wpAny_bind (wpAny_standAt (wpAny_bind (wpAny_of_eq (hfold x) (wpAny_bind (wpAny_holding h₁)))))) fun _ _ e => e)
  intro it s₁ s' vs es J fp wr m₁ m₂ hd ITA hJ hlo hfO hle
  refine wpAny_bind (wpAny_runOwn ?_)
  have IT := ITA ([Dd] ++ (wr ++ f.V₀)) fun b hb => List.mem_append.mpr (.inr (List.mem_append.mpr (.inl hb)))
  have st1 := st.mv m₁
  have st2 := st1.mv m₂
  have lo0 : ∀ b ∈ wr, f.s₀.heap.objs.size ≤ b := fun b hb => by
    obtain ⟨mm, nn⟩ := st1.loc
    exact Nat.le_trans (Nat.le_trans st1.ok.fL (Nat.le_of_lt nn.lt)) (hlo b hb)
  have Dfp : Dd ∉ fp := fun h => hfO Dd h (List.mem_singleton.mpr rfl)
  have fKw : ∀ p ∈ f.K, p.1 ∉ wr := fun p hp hw => by
    obtain ⟨e, _, _⟩ := st1.kep p hp
    exact absurd (Heap.lt_size e) (Nat.not_lt.mpr (hlo _ hw))
  have ent : St (withF f (wr ++ f.V₀) (objsAt s'.heap fp ++ f.K) ((vs, es) :: f.D)) [(Dd, acc)] ρ s' :=
    st2.enter st1 m₂ hlo (fun a ha => IT.ex 0 _ hJ a (IT.sub a ha)) (fun p hp => by
      obtain ⟨h1, h2⟩ := objsAt_mem hp
      exact ⟨h2, IT.fpOk 0 _ hJ _ h1 _ h2, hfO _ h1⟩) hd
  have loop : codeAny f.M (f.A.mark none) (.compLoop (.ListComp elt [g1, ⟨t2, it2, [], 0⟩] scope pos) 1 it (.ref Dd) f.env) (fun r s' => match r with | .ok f_1 => wpAny f.M f.A (pure ()) Q E s' | .error e => cameBackBy f.M f.A f.env E e s') s' := by
    refine codeAny_compLoop_emit (compTurn_last ..) (fun n s => ∃ i, n = ys.length + 1 - i ∧ i ≤ ys.length ∧ J i s.heap ∧ St (withF f (wr ++ f.V₀) (objsAt s.heap fp ++ f.K) ((vs, es) :: f.D)) [(Dd, acc ++ (ys.take i).map g2)] ρ s) ?_ (ys.length + 1)
      ⟨0, rfl, Nat.zero_le _, hJ, by simpa using ent⟩
    rintro n s₂ ⟨i, rfl, hi, hJi, st3⟩
    have vex : ∀ a ∈ [Dd] ++ (wr ++ f.V₀), ∃ o, s₂.heap.get? a = some o := fun a ha => by
      rcases List.mem_append.mp ha with ha | ha
      · obtain ⟨us, ⟨n, e⟩, _⟩ := st3.own _ (List.mem_singleton.mpr rfl)
        rw [List.mem_singleton.mp ha]; exact ⟨_, e⟩
      · exact st3.v0 a ha
    rcases Nat.lt_or_ge i ys.length with hlt | hge
    · have hd0 : ys[i]? = some ys[i] := List.getElem?_eq_getElem hlt
      have hd' : (ys.map j2)[i]? = some (j2 ys[i]) := by rw [List.getElem?_map, hd0]; rfl
      have hdata : HasL ([Dd] ++ (wr ++ f.V₀)) s₂.heap vs es := st3.dat (vs, es) List.mem_cons_self
      refine wpAny_mono (IT.item i (j2 ys[i]) s₂ (fun v s₄ => ∃ h' tk, s₄ = { s₂ with heap := h', toks := tk } ∧ J (i + 1) h' ∧ Has ([Dd] ++ (wr ++ f.V₀)) h' v (j2 ys[i]) ∧ (∀ b o, b ∉ wr → s₂.heap.get? b = some o → h'.get? b = some o)) (notedBy (model f.prog f.w) f.A f.env _) hd' hJi hdata vex
        (fun v h' tk hJ' hv' hk' => ⟨h', tk, rfl, hJ', hv', hk'⟩)) (fun r s₄ hr => ?_) fun _ _ x => x
      obtain ⟨v, rfl, hr⟩ := hr
      refine wpAny_mono hr (fun _ s₅ h5 => ?_) fun _ _ x => x
      obtain ⟨h', tk, rfl, hJ', hv', hk'⟩ := h5
      have st4 : St (withF f (wr ++ f.V₀) (objsAt h' fp ++ f.K) ((vs, es) :: f.D)) [(Dd, acc ++ (ys.take i).map g2)] ρ { s₂ with heap := h', toks := tk } := by
        refine St.foreign (f := f) st3 lo0 (fun b hb => List.mem_append.mpr (.inl hb)) (fun a ha => ha) (fun a ha => ?_) (fun p hp => hp) (fun p hp => ?_) (fun b hb o e => IT.fpOk i _ hJi b (IT.sub b hb) o e) hk'
        · by_cases hw : a ∈ wr
          · exact IT.ex (i + 1) _ hJ' a (IT.sub a hw)
          · obtain ⟨o, e⟩ := st3.v0 a ha
            exact ⟨o, hk' a o hw e⟩
        · rcases List.mem_append.mp hp with hp | hp
          · obtain ⟨h1, h2⟩ := objsAt_mem hp
            refine ⟨h2, IT.fpOk (i + 1) _ hJ' _ h1 _ h2, fun q => ?_⟩
            rw [List.mem_singleton.mp q] at h1
            exact Dfp h1
          · obtain ⟨e, b, c⟩ := st3.kep p (List.mem_append.mpr (.inr hp))
            exact ⟨hk' _ _ (fKw p hp) e, b, c⟩
      obtain ⟨ρ'', hsub, has, hel⟩ := turn (wr ++ f.V₀) (objsAt h' fp ++ f.K) ((vs, es) :: f.D) (acc ++ (ys.take i).map g2) ys[i] (List.getElem_mem hlt)
      refine has _ v _ _ st4 hv' fun s₆ st6 => ?_
      refine wpAny_tests_nil ?_
      rw [if_pos rfl]
      refine wpAny_bind (hel.run s₆ _ _ st6 fun y s₈ m₈ hy => wpAny_bind ?_)
      have st8 := st6.mv m₈
      obtain ⟨us, iu, hu⟩ := st8.own _ (List.mem_singleton.mpr rfl)
      have hul : us.length ≤ sizeLine := by
        rw [hu.length, List.length_append, List.length_map, List.length_take]
        omega
      refine wpAny_list_append_plain (hsz := by simpa using hul) iu fun h₉ hp₉ hs₉ => wpAny_pure ?_
      have e1 : acc ++ (ys.take i).map g2 ++ [g2 ys[i]] = acc ++ (ys.take (i + 1)).map g2 := by
        rw [List.take_add_one, hd0, List.map_append, List.append_assoc]; rfl
      have st9 := st8.ownSet (i := 0) (vs' := us ++ [y]) rfl hs₉ (by simpa using hp₉) (hu.append (.one hy))
      have st9' : St (withF f (wr ++ f.V₀) (objsAt h' fp ++ f.K) ((vs, es) :: f.D)) [(Dd, acc ++ (ys.take (i + 1)).map g2)] ρ { s₈ with heap := h₉ } := by
        rw [← e1]; exact st9.weak hsub
      have kfp : ∀ b ∈ fp, ∀ o, h'.get? b = some o → h₉.get? b = some o := fun b hb o e => (st9'.kep (b, o) (List.mem_append.mpr (.inl (mem_objsAt hb e)))).1
      have hJ7 : J (i + 1) h₉ := IT.frame _ _ _ hJ' kfp
      refine ⟨ys.length + 1 - (i + 1), by omega, i + 1, rfl, hlt, hJ7, ?_⟩
      refine St.foreign (f := f) (s := { s₈ with heap := h₉ }) (wr := []) (h' := h₉) (tk := s₈.toks) st9' (fun _ h => nomatch h) (fun _ h => nomatch h) (fun a ha => ha) (fun a ha => st9'.v0 a ha) (fun p hp => hp) (fun p hp => ?_) (fun _ h => nomatch h) fun _ _ _ e => e
      rcases List.mem_append.mp hp with hp | hp
      · obtain ⟨h1, h2⟩ := objsAt_mem hp
        refine ⟨h2, IT.fpOk (i + 1) _ hJ7 _ h1 _ h2, fun q => ?_⟩
        rw [List.mem_singleton.mp q] at h1
        exact Dfp h1
      · exact st9'.kep p (List.mem_append.mpr (.inr hp))
    · have hie : i = ys.length := Nat.le_antisymm hi hge
      subst hie
      refine wpAny_mono (IT.done s₂ (fun s₄ => ∃ h' tk, s₄ = { s₂ with heap := h', toks := tk } ∧ ∀ b o, b ∉ wr → s₂.heap.get? b = some o → h'.get? b = some o) (notedBy (model f.prog f.w) f.A f.env _) (by rw [List.length_map]; exact hJi) fun h' tk hk' => ⟨h', tk, rfl, hk'⟩) (fun r s₄ hr => ?_) fun _ _ x => x
      obtain ⟨rfl, h', tk, rfl, hk'⟩ := hr
      refine wpAny_pure (k _ ?_)
      rw [List.take_length] at st3
      refine St.foreign (f := f) (V' := f.V₀) (K' := f.K) (D' := f.D) st3 lo0 (fun b hb => List.mem_append.mpr (.inl hb)) (fun a ha => List.mem_append.mpr (.inr ha)) (fun a ha => ?_) (fun p hp => List.mem_cons_of_mem _ hp) (fun p hp => ?_) (fun b hb o e => IT.fpOk _ _ hJi b (IT.sub b hb) o e) hk'
      · obtain ⟨o, e⟩ := st1.v0 a ha
        have hw : a ∉ wr := fun hw => absurd (Heap.lt_size e) (Nat.not_lt.mpr (hlo _ hw))
        obtain ⟨o', e'⟩ := st3.v0 a (List.mem_append.mpr (.inr ha))
        exact ⟨o', hk' a o' hw e'⟩
      · obtain ⟨e, b, c⟩ := st3.kep p (List.mem_append.mpr (.inr hp))
        exact ⟨hk' _ _ (fKw p hp) e, b, c⟩
  exact codeAny_compStart_1 loop (IT.self 0 _ _ _ hJ loop)
theorem Ev.comp2 {β : Type} {ys : α → List β} {j2 g2 : β → Dat} {t1 it1 t2 it2 : Expr} (hit : It f O ρ it1 t1 (xs.map j)) (hclos : closureFor scope f.env = pure cl) (hcap : Cap f scope cl ρ ρc)
    (turn : ∀ C s₁ V K D Dd acc x, x ∈ xs → ∃ ρ1, Sub ρc ρ1 ∧ As (withF (compF f [] cl C scope s₁) V K D) [(Dd, acc)] ρc t1 (j x) ρ1 ∧ It (withF (compF f [] cl C scope s₁) V K D) [(Dd, acc)] ρ1 it2 t2 ((ys x).map j2) ∧
      ∀ V K D acc y, y ∈ ys x → ∃ ρ2, Sub ρ1 ρ2 ∧ As (withF (compF f [] cl C scope s₁) V K D) [(Dd, acc)] ρ1 t2 (j2 y) ρ2 ∧ Ev (withF (compF f [] cl C scope s₁) V K D) [(Dd, acc)] ρ2 elt (g2 y))
    (hsz : (xs.flatMap ys).length ≤ sizeLine) (hfold : ∀ x env, foldedSetIterable it2 env x = pure x) (hkind : scope.kind = .function := by rfl) (hcell : ∀ y ∈ scope.names, y.2 ≠ .cell := by decide)
    (hnames : ∀ y ∈ scope.names, y.2 = .local → scope.names.lookup y.1 = some .local := by decide) (hs : ∀ x, foldedSetIterable it1 f.env x = pure x := by intro _; rfl) : Ev f O ρ (.ListComp elt [⟨t1, it1, [], 0⟩, ⟨t2, it2, [], 0⟩] scope pos) (.list ((xs.flatMap ys).map g2)) := by
  have pe : ∀ l : List α, pickE (fun _ => true) (fun x => (ys x).map g2) l = (l.flatMap ys).map g2 := fun l => by
    unfold pickE
    rw [List.filter_eq_self.mpr fun _ _ => rfl, List.map_flatMap]
  refine Ev.of (Ev.compE (xs := xs) (j := j) (p := fun _ => true) (gs := fun x => (ys x).map g2) (emit := emit2 elt ⟨t1, it1, [], 0⟩ t2 it2 scope pos) hit hclos hcap (fun it acc env => compTurn_two ..) ?_ hkind hcell hnames hs) (by rw [pe])
  intro C s₁ V K D Dd acc i x hx hacc
  obtain ⟨ρ1, h1, h2, h3, h4⟩ := turn C s₁ V K D Dd acc x (List.mem_of_getElem? hx)
  refine ⟨ρ1, h1, h2, Ts.none, fun _ => Em1.inner h3 (fun V' K' D' acc' y hy => h4 V' K' D' acc' y hy) ?_ (fun v => hfold v _)⟩
  have hlt := (List.getElem?_eq_some_iff.mp hx).1
  have e1 : xs = xs.take i ++ x :: xs.drop (i + 1) := by
    have h5 := List.drop_eq_getElem_cons hlt
    have h6 := (List.getElem?_eq_some_iff.mp hx).2
    rw [h6] at h5
    rw [← h5, List.take_append_drop]
  rw [hacc, pe, List.length_map]
  refine Nat.le_trans ?_ hsz
  have e2 : xs.flatMap ys = (xs.take i ++ x :: xs.drop (i + 1)).flatMap ys := by rw [← e1]
  rw [e2, List.flatMap_append, List.flatMap_cons, List.length_append, List.length_append]
  omega
end
end Mine

namespace Mine
section
variable {f : Fm} {O : List (Addr × List Dat)} {ρ : List (Str × Slot)} {e e1 e2 : Expr} {np pos tp : Pos} {elts : List Expr} {kt : Nat}
/-- a type is called -/
theorem callT_run {x : Str} {id : String} {es : List Expr} {ds : List Dat} {s : Shared} {Q E : Value → Shared → Prop} (st : St f O ρ s) (hf : EvS f O ρ (.Name x np) (.val (.type id))) (ha : EvL f O ρ (e :: es) ds)
    (h : ∀ vs s', Mv f.G f.W s s' → HasL (f.V O) s'.heap vs ds → wpAny f.M f.A (call (.type id) vs) Q E s')
    (hns : starEach (e :: es) f.env = (false, eval e f.env) :: starEach es f.env := by rfl) (hpl : (backTo pos (starEach (e :: es) f.env)).any (·.1) = false := by rfl) : wpAny f.M f.A (eval (.Call (.Name x np) (e :: es) [] pos) f.env) Q E s := by
  refine wpAny_Call_NameR (hf.run s _ _ st fun fv s₁ m₁ h₁ => ?_)
  have h₁' : fv = .type id := h₁
  subst h₁'
  refine PySem.callWith_type hpl (ha.args (st.mv m₁) hns fun vs s₂ m₂ h₂ => ?_)
  exact h vs s₂ (m₁.trans m₂) h₂
theorem It.zipC {x : Str} {d1 d2 : List Dat} (hf : EvS f O ρ (.Name x np) (.val (.type "zip"))) (h1 : Ev f O ρ e1 (.list d1)) (h2 : Ev f O ρ e2 (.list d2)) (hns : starEach [e1, e2] f.env = (false, eval e1 f.env) :: starEach [e2] f.env := by rfl) (hns2 : starEach [e2] f.env = (false, eval e2 f.env) :: starEach [] f.env := by rfl)
    (hpl : (backTo pos (starEach [e1, e2] f.env)).any (·.1) = false := by rfl) :
    It f O ρ (.Call (.Name x np) [e1, e2] [] pos) (.Tuple elts kt tp) ((d1.zip d2).map fun p => Dat.tuple [p.1, p.2]) := by
  refine It.zip2 fun s Q E st k => callT_run st hf (EvL.consE h1 (EvL.consE h2 EvL.nilE hns2) hns) (fun vs s' m hv => ?_) hns hpl
  cases hv with
  | cons a b =>
    cases b with
    | cons b c => cases c; exact k _ _ s' m a b
theorem It.enumC {x : Str} {d1 : List Dat} (hf : EvS f O ρ (.Name x np) (.val (.type "enumerate"))) (h1 : Ev f O ρ e1 (.list d1)) (hns : starEach [e1] f.env = (false, eval e1 f.env) :: starEach [] f.env := by rfl)
    (hpl : (backTo pos (starEach [e1] f.env)).any (·.1) = false := by rfl) :
    It f O ρ (.Call (.Name x np) [e1] [] pos) (.Tuple elts kt tp) (d1.zipIdx.map fun p => Dat.tuple [.int (p.2 : Nat), p.1]) := by
  refine It.enumerate fun s Q E st k => callT_run st hf (EvL.consE h1 EvL.nilE hns) (fun vs s' m hv => ?_) hns hpl
  cases hv with
  | cons a b => cases b; exact k _ s' m a
end
end Mine

namespace Mine
section
variable {f : Fm} {O : List (Addr × List Dat)} {ρ : List (Str × Slot)} {e e1 e2 l r : Expr} {np pos tp : Pos}
theorem Op2.fdivInt {x y : Int} (hy : y ≠ 0) (hp : Builtin.divisionGoesByPylong x y = false) : Op2 f O ρ (binaryOp .FloorDiv) (.int x) (.int y) (.int (x.fdiv y)) := by
  intro s va vb Q E st ha hb k
  cases ha; cases hb
  exact floordiv_int hy (k _ _ (.toks _) (.int _ _)) (.inl hp)
/-- a list of the block's own is compared -/
theorem Tr.eqOwn {ad : Addr} {ds es : List Dat} {v : Bool} (hl : EvS f O ρ l (.val (.ref ad))) (ho : (ad, ds) ∈ O) (hr : Ev f O ρ r (.list es)) (h1 : kqdOk 8 (.list ds) = true) (h2 : kqdOk 8 (.list es) = true) (hu : f.A.units + 64 < cLine) (hb : v = true ↔ ds = es)
    (hm : behindInMarks .Eq r = false := by with_unfolding_all rfl) : Tr f O ρ (.Compare l [.Eq] [r] pos) v := by
  apply Tr.mk
  intro s Q E st k
  refine wpAny_isTrue_Compare1 (hl.run s _ _ st fun va s₁ m₁ h₁ => hr.run s₁ _ _ (st.mv m₁) fun vb s₂ m₂ h₂ => ?_) hm
  have hva : va = .ref ad := h₁
  subst hva
  have st2 := st.mv (m₁.trans m₂)
  obtain ⟨vs, ⟨n, e⟩, hh⟩ := st2.own _ ho
  obtain ⟨as, ra⟩ : ∃ as, Reads s₂.heap (.ref ad) (kqdP (.list ds)) as := by
    obtain ⟨as, q⟩ := HasL.reads 7 hh (by simpa [kqdOk] using h1)
    rw [kqdP]
    exact ⟨_, Reads.list e rfl rfl (by simpa using q)⟩
  obtain ⟨bs, rb⟩ := h₂.reads 8 h2
  refine eq_dataH ra rb (kqd_shaped h1) (kqd_shaped h2) hu ?_
  rw [kqd_bool (b := v) h1 h2 (by rw [hb]; exact ⟨fun q => by rw [q], fun q => by injection q⟩)]
  exact wpAny_truthy_bool (k _ (m₁.trans m₂))
end
end Mine

namespace Mine
/-! ## exceptions in flight -/
structure Fly (G : Heap) (outer : List Env) (s : Shared) (e : Addr) (cls : Value) (args : List Value) (s' : Shared) : Prop where
  mv : Mv G (outer.filterMap (·.frame)) s s'
  fly : ∃ B t, (∀ b o, s.heap.get? b = some o → b ∉ outer.filterMap (·.frame) → ∃ o', B.get? b = some o') ∧ Heap.FlyingW B outer e cls (.ref t) s'.heap ∧ B.get? t = none ∧ s'.heap.TupAt t args ∧ (∀ b ∈ outer.filterMap (·.frame), B.get? b = none) ∧ TabsIn G B
theorem Mv.fly {G B : Heap} {W : List Addr} {s s' : Shared} {h' : Heap} (m : Mv G W s s') (hfr : FrD s.heap W) (old : ∀ b o, s.heap.get? b = some o → b ∉ W → ∃ o', B.get? b = some o') (h0 : B.StaysIn s'.heap) (h1 : B.StaysIn h') (hu : s'.heap.UpToSlots h') (tb : TabsIn G B) (tk : Nat) : Mv G W s { s' with heap := h', toks := tk } := by
  obtain ⟨⟨h, tk', gs, rfl, c⟩, g, k⟩ := m
  refine ⟨⟨h', tk, gs, rfl, c⟩, g, fun b o e => ?_⟩
  have q := k b o e
  by_cases hb : b ∈ W
  · obtain ⟨o', es, ep, e', d⟩ := hfr b hb
    rw [e] at e'; cases e'
    have ht : tabB o = false := tabB_data fun vs h => by rw [d] at h; cases h
    rw [if_neg (by rw [ht]; exact fun h => nomatch h.1)] at q ⊢
    obtain ⟨sl, e2, _⟩ := q
    obtain ⟨sl2, e3⟩ := hu b _ e2 fun vs h => by rw [show ({ o with slots := sl } : Obj).data = o.data from rfl, d] at h; cases h
    exact ⟨sl2, e3, .inl ⟨hb, es, ep, d⟩⟩
  · obtain ⟨o', eB⟩ := old b o e hb
    have e1 := h0 b o' eB
    have e2 := h1 b o' eB
    split
    · rename_i h
      rw [if_pos h] at q
      obtain ⟨o2, e3, r1, _⟩ := q
      rw [e1] at e3; cases e3
      obtain ⟨op, eop, ok⟩ := tb b h.2
      rw [eB] at eop; cases eop
      exact ⟨_, e2, r1, fun _ => ok.up (.of h1)⟩
    · rename_i h
      rw [if_neg h] at q
      obtain ⟨sl, e3, r⟩ := q
      rw [e1] at e3; cases e3
      exact ⟨sl, e2, r⟩

section
variable {f : Fm} {O : List (Addr × List Dat)} {ρ : List (Str × Slot)}
/-- an exception is made and leaves the frame -/
theorem Fly.made {outer : List Env} {s₂ : Shared} {h' : Heap} {e : Addr} {cls : Value} {args : List Value} {Q : Unit → Shared → Prop} {E : Value → Shared → Prop} (st : St f O ρ s₂) (hst : f.A.frames = some f.outer) (ho : f.outer = f.env :: outer) (hWc : f.Wc = outer.filterMap (·.frame))
    (hfr : f.env.frame = some f.env.locals) (hf0 : FrD f.s₀.heap (outer.filterMap (·.frame))) (hx : Heap.MadeExcOf s₂.heap h' e cls args)
    (k : ∀ s', Fly f.G outer f.s₀ e cls args s' → Q () s') : wpAny f.M f.A (leaving f.env (.ref e)) Q E { s₂ with heap := h' } := by
  have hin : ∀ env ∈ f.outer, ∀ b, env.frame = some b → b ∈ f.W := fun env he b hb => List.mem_filterMap.mpr ⟨env, he, hb⟩
  have hW : f.W = f.env.locals :: outer.filterMap (·.frame) := by
    show f.outer.filterMap (·.frame) = _
    rw [ho, List.filterMap_cons, hfr]
  refine wpAny_leaves_madeW (s := { s₂ with heap := h' }) (base := hideAll s₂.heap f.W) (h := s₂.heap) (env := f.env) (outer := outer) (by rw [hst, ho]) hfr (fun b o q => of_hideAll _ q) (by rw [← ho]; exact funFrames_hide st.bel.frames hin) hx fun h2 t x1 x2 x3 x4 => k _ ?_
  have old : ∀ b o, f.s₀.heap.get? b = some o → b ∉ outer.filterMap (·.frame) → ∃ o', (hideAll s₂.heap f.W).get? b = some o' := fun b o e1 hb => by
    obtain ⟨o', e2⟩ := st.frm.there e1
    refine ⟨o', hideAll_get _ e2 ?_⟩
    rw [hW]
    intro h
    rcases List.mem_cons.mp h with h | h
    · have := Heap.lt_size e1
      rw [h] at this
      exact absurd this (Nat.not_lt.mpr st.ok.fL)
    · exact hb h
  have m0 : Mv f.G (outer.filterMap (·.frame)) f.s₀ s₂ := by rw [← hWc]; exact st.frm
  have nW : ∀ b o vs, s₂.heap.get? b = some o → o.data = .fields vs → b ∉ f.W := fun b o vs e hd hb => by
    obtain ⟨o', es, ep, e', d⟩ := st.frD b hb
    rw [e] at e'; cases e'; rw [hd] at d; cases d
  have tb : TabsIn f.G (hideAll s₂.heap f.W) := fun P hP => by
    obtain ⟨op, e, ok⟩ := st.tab P hP
    refine ⟨op, hideAll_get _ e ?_, ok.up fun c o vs e1 x1 y1 => ⟨o, hideAll_get _ e1 (nW c o vs e1 y1), x1, y1⟩⟩
    obtain ⟨ps, rfl, _⟩ := ok
    exact nW P _ ps e rfl
  refine ⟨?_, hideAll s₂.heap f.W, t, old, x1, x3, x2, fun b hb => hideAll_none _ (by rw [hW]; exact List.mem_cons_of_mem _ hb), tb⟩
  refine Mv.fly (s' := s₂) m0 hf0 old (fun b o q => of_hideAll _ q) x1.1 ?_ tb s₂.toks
  exact (Heap.UpToSlots.of_keeps hx.keeps).trans x4

/-- a block that raises -/
@[irreducible] def ExR (f : Fm) (O : List (Addr × List Dat)) (ρ : List (Str × Slot)) (b : List Stmt) (cls : Value) (as : Str) : Prop :=
  ∀ (s : Shared) (Q : Flow → Shared → Prop) (E : Value → Shared → Prop), St f O ρ s → (∀ O' ρ' s₂ e h' t, St f O' ρ' s₂ → Heap.MadeExcOf s₂.heap h' e cls [.str as t] → E (.ref e) { s₂ with heap := h' }) → wpAny f.M f.A (execs b f.env) Q E s
theorem ExR.mk {f : Fm} {O : List (Addr × List Dat)} {ρ : List (Str × Slot)} {b : List Stmt} {cls : Value} {as : Str}
    (h : ∀ (s : Shared) (Q : Flow → Shared → Prop) (E : Value → Shared → Prop), St f O ρ s → (∀ O' ρ' s₂ e h' t, St f O' ρ' s₂ → Heap.MadeExcOf s₂.heap h' e cls [.str as t] → E (.ref e) { s₂ with heap := h' }) → wpAny f.M f.A (execs b f.env) Q E s) : ExR f O ρ b cls as := by
  unfold ExR; exact h
theorem ExR.run {f : Fm} {O : List (Addr × List Dat)} {ρ : List (Str × Slot)} {b : List Stmt} {cls : Value} {as : Str} (h : ExR f O ρ b cls as) :
    ∀ (s : Shared) (Q : Flow → Shared → Prop) (E : Value → Shared → Prop), St f O ρ s → (∀ O' ρ' s₂ e h' t, St f O' ρ' s₂ → Heap.MadeExcOf s₂.heap h' e cls [.str as t] → E (.ref e) { s₂ with heap := h' }) → wpAny f.M f.A (execs b f.env) Q E s := by
  unfold ExR at h; exact h
end
/-- a call that raises -/
def ConR (prog : Program) (w : World) (mg mb : Str → Option Value) (G : Heap) (lvl : Nat) (fa : Addr) (X : List Dat → Value → Str → Prop) : Prop :=
  ∀ (A : Around) (outer : List Env) (V : List Addr) (s : Shared) (vs : List Value) (ds : List Dat) (cls : Value) (as : Str) (Q E : Value → Shared → Prop), Pre mg mb G lvl A outer V s → A.frames = some outer → HasL V s.heap vs ds → X ds cls as →
    (∀ e s' t, Fly G outer s e cls [.str as t] s' → E (.ref e) s') → wpAny (model prog w) A (call (.ref fa) vs) Q E s
theorem ConR.of_def {prog : Program} {w : World} {mg mb : Str → Option Value} {G : Heap} {lvl : Nat} {fa : Addr} {o : Obj} {fd : FuncData} {body : List Stmt} {X : List Dat → Value → Str → Prop} (ps : List Str)
    (ho : G.get? fa = some o) (hdata : o.data = .func fd) (hcd : G.CodeRec fd.code fd.qualname) (hbody : fd.body = .stmts body) (hclo : fd.closure = []) (hgl : fd.globals = mainGlobals) (hbi : fd.builtins = builtinsNs)
    (hbind : ∀ vs : List Value, vs.length = ps.length → bindArgs fd ⟨vs, []⟩ = pure (ps.zip vs)) (hnd : ps.Nodup)
    (hkind : ps.all (fun p => fd.scope.names.lookup p == some .local || fd.scope.names.lookup p == some .cell) = true)
    (hR : ∀ ds cls as, X ds cls as → ds.length = ps.length) (hlvl : 1 ≤ lvl)
    (hco : fd.scope.isCoroutine = false) (hgen : fd.scope.isGenerator = false) (hk : fd.scope.kind = .function)
    (h : ∀ (A : Around) (L : Addr) (outer : List Env) (V : List Addr) (s : Shared), A.depth + lvl < recursionLimit → A.units + 40 * lvl + 100 < cLine → ∀ ds cls as, X ds cls as →
      ExR (mkF prog w mg mb G A (envM fd.scope fd.code fd.qualname L fa) outer V s) [] (parm ps ds) body cls as) : ConR prog w mg mb G lvl fa X := by
  intro A outer V s vs ds cls as Q E pre hstk hv hr k
  have hlen : vs.length = ps.length := hv.length.trans (hR ds cls as hr)
  have hkd : ∀ x ∈ ps, fd.scope.names.lookup x = some .local ∨ fd.scope.names.lookup x = some .cell := fun x hx => by
    have := List.all_eq_true.mp hkind x hx
    simpa using this
  have hce : ∀ (n : Nat) (x : Str), fd.scope.names.lookup x = some .cell → ((cellsFrom n fd.scope.names []).lookup x).isSome = true := fun n x hx => cellsFrom_some _ _ _ (.inl hx)
  refine wpAny_call (codeAny_call_cells (binds := ps.zip vs) (by have := pre.dep; omega) (pre.bel.stays _ _ ho) hdata (pre.bas.lim.keeps pre.bel.stays) (hcd.keeps pre.bel.stays) hbody (hbind vs hlen) hclo
    (fun x hx => (hkd x.1 (List.of_mem_zip hx).1).imp id fun q => ⟨q, hce _ _ q⟩) (fun s₁ IC => ?_) hco hgen hk)
  have henv : callEnvC fd s.heap.objs.size fa = envM fd.scope fd.code fd.qualname s.heap.objs.size fa := by
    unfold callEnvC envM; rw [hgl, hbi]
  rw [henv] at IC ⊢
  generalize hE : envM fd.scope fd.code fd.qualname s.heap.objs.size fa = env at IC ⊢
  have hfr' : env.frame = some env.locals := by rw [← hE]; rfl
  have hloc : env.locals = s.heap.objs.size := by rw [← hE]; rfl
  have hfr : env.frame = some s.heap.objs.size := by rw [← hE]; rfl
  have hsc : env.scope = fd.scope := by rw [← hE]; rfl
  have hcl : env.cells = cellsFrom (s.heap.objs.size + 1) fd.scope.names [] := by rw [← hE]; rfl
  have hkk : ∀ x, env.kindOf x = fd.scope.names.lookup x := fun x => by show env.scope.names.lookup x = _; rw [hsc]
  have noG : G.get? s.heap.objs.size = none := pre.bel.stays.fresh
  obtain ⟨oL, es, ep, eL, dL, rL⟩ := id IC.toInCall.ns
  rw [hloc] at eL
  have keep := IC.toInCall.keep
  obtain ⟨h1, tk1, e1⟩ := IC.toInCall.same
  have mv1 : Mv G (outer.filterMap (·.frame)) s s₁ := by
    rw [e1]
    refine Mv.of_keep fun b o e => ?_
    have := keep b o e
    rw [e1] at this
    exact this
  have ex := h A s.heap.objs.size outer V s pre.dep pre.uni ds cls as hr
  rw [hE] at ex
  have st : St (mkF prog w mg mb G A env outer V s) [] (parm ps ds) s₁ := by
    refine { ok := ⟨pre.hh, by rw [hsc]; exact hk, by rw [← hE]; rfl, by rw [← hE]; rfl, pre.bas, pre.bel.stays, by rw [hloc]; exact Nat.le_refl _, IC.apart, fun _ n c hc => by have := IC.above n c hc; rw [hloc] at this; exact Nat.le_of_lt this, fun a ha => ?_⟩,
             bel := ⟨trivial, fun b o e => keep b o (pre.bel.stays b o e), ?_⟩, frm := mv1, loc := ⟨_, IC.toInCall.ns⟩, cel := fun n c hc => ⟨_, IC.cell n c hc⟩, vars := fun x sl hx => ?_, own := fun p hp => (nomatch hp), nod := List.nodup_nil, fO := fun p hp => (nomatch hp),
             v0 := fun a ha => let ⟨o, e⟩ := pre.v0 a ha; ⟨o, keep a o e⟩, frD := fun a ha => ?_, kep := fun p hp => (nomatch hp), dat := fun p hp => (nomatch hp), oV := fun p hp => (nomatch hp), tab := mv1.tabs pre.tab }
    · have : (env :: outer).filterMap (·.frame) = s.heap.objs.size :: outer.filterMap (·.frame) := by simp [List.filterMap_cons, hfr]
      rw [show (mkF prog w mg mb G A env outer V s).W = (env :: outer).filterMap (·.frame) from rfl, this] at ha
      rcases List.mem_cons.mp ha with rfl | ha
      · exact .inr (Nat.le_refl _)
      · exact .inl ha
    · refine ⟨by rw [hsc, hk]; decide, ⟨s.heap.objs.size, oL, hfr, noG, eL, fun vs q => by rw [dL] at q; cases q⟩, pre.bel.frames.of_keeps fun b o e _ => ⟨o, keep b o e, rfl⟩⟩
    · obtain ⟨v, hv1, hv2, hv3⟩ := bind_hit (kindOf := env.kindOf) ps vs ds (fun _ => none) (fun _ => none) hnd hv hx
      have hmem := lookup_parm hx
      refine ⟨v, ?_, hv1.keep mv1.dkeep⟩
      rcases hkd x hmem with q | q
      · exact .inl ⟨by rw [hkk]; exact q, _, IC.toInCall.ns, hv2 (by rw [hkk]; exact q)⟩
      · refine .inr ⟨.inl (by rw [hkk]; exact q), ?_⟩
        obtain ⟨c, hc⟩ := Option.isSome_iff_exists.mp (hce (s.heap.objs.size + 1) x q)
        have hc' : env.cells.lookup x = some c := by rw [hcl]; exact hc
        refine ⟨c, hc', ?_⟩
        have := IC.cell x c hc'
        rw [hv3 (by rw [hkk, q]; decide)] at this
        exact this
    · have : (env :: outer).filterMap (·.frame) = s.heap.objs.size :: outer.filterMap (·.frame) := by simp [List.filterMap_cons, hfr]
      rw [show (mkF prog w mg mb G A env outer V s).W = (env :: outer).filterMap (·.frame) from rfl, this] at ha
      rcases List.mem_cons.mp ha with rfl | ha
      · exact ⟨oL, es, ep, eL, dL⟩
      · obtain ⟨o, es', ep', e, d'⟩ := pre.frD a ha
        exact ⟨o, es', ep', keep a o e, d'⟩
  refine ex.run s₁ _ _ st fun O' ρ' s₂ e h' t st2 hx => ?_
  refine Fly.made st2 (Around.frames_deeper hstk) rfl rfl hfr' pre.frD hx fun s' hfly => ?_
  exact k e s' t hfly

abbrev excBm : List Value := [.type "Exception", .type "BaseException", .type "object"]
/-- an own class of exceptions -/
def ErrCls (h : Heap) (C : Addr) : Prop := ∃ bm N nm q bs hdct sn sub ab col dd k0 k1 k2 k3 k5 mN, h.get? C = some (excClassObj nm q C N bs bm hdct sn sub ab col dd k0 k1 k2 k3 k5 "Exception.__new__") ∧ h.Ns N mN ∧ mN "__init__" = none ∧ OwnTail h excBm bm
theorem ErrCls.keeps {h h' : Heap} {C : Addr} (x : ErrCls h C) (hk : ∀ b o, h.get? b = some o → h'.get? b = some o) : ErrCls h' C := by
  obtain ⟨bm, N, nm, q, bs, hdct, sn, sub, ab, col, dd, k0, k1, k2, k3, k5, mN, h1, h2, h3, h4⟩ := x
  exact ⟨bm, N, nm, q, bs, hdct, sn, sub, ab, col, dd, k0, k1, k2, k3, k5, mN, hk _ _ h1, h2.keeps hk, h3, h4.keeps hk⟩
section
variable {f : Fm} {O : List (Addr × List Dat)} {ρ : List (Str × Slot)}
theorem ExR.consIf {t : Expr} {b1 b2 rest : List Stmt} {pos : Pos} {cls : Value} {as : Str} (ht : Tr f O ρ t true) (h : ExR f O ρ b1 cls as) : ExR f O ρ (.If t b1 b2 pos :: rest) cls as := by
  refine ExR.mk fun s Q E st k => wpAny_execs_cons (wpAny_If (ht.run s _ _ st fun s' m => ?_))
  exact h.run s' _ _ (st.mv m) k
theorem ExR.raise {x : Str} {C : Addr} {e : Expr} {np cpos pos : Pos} {rest : List Stmt} {as : Str} (hx : EvS f O ρ (.Name x np) (.val (.ref C))) (hC : ErrCls f.G C) (he : Ev f O ρ e (.str as))
    (hns : starEach [e] f.env = (false, eval e f.env) :: starEach [] f.env := by rfl) (hpl : (backTo cpos (starEach [e] f.env)).any (·.1) = false := by rfl) :
    ExR f O ρ (.Raise (some (.Call (.Name x np) [e] [] cpos)) none pos :: rest) (.ref C) as := by
  refine ExR.mk fun s Q E st k => wpAny_execs_cons ?_
  obtain ⟨bm, N, nm, q, bs, hdct, sn, sub, ab, col, dd, k0, k1, k2, k3, k5, mN, h1, h2, h3, h4⟩ := hC
  refine wpAny_Raise_call_subU (bmB := excBm) (mN := mN) (C := C) (N := N) (nm := nm) (q := q) (bs := bs) (hdct := hdct) (sn := sn) (sub := sub) (ab := ab) (col := col) (dd := dd) (k0 := k0) (k1 := k1) (k2 := k2) (k3 := k3) (k5 := k5) F.excBase_Exception (by decide) F.excBase_Exception (h4.hasType (by decide)) st.ok.hh hpl h3 (hx.run s _ _ st fun v s₁ m₁ hv => ⟨hv, ?_⟩)
  refine EvL.args (EvL.consE he EvL.nilE hns) (st.mv m₁) hns fun vs s₂ m₂ hvs => ?_
  have st2 := st.mv (m₁.trans m₂)
  cases hvs with
  | cons ha hn =>
    cases hn
    cases ha
    refine ⟨rfl, by rw [sizeLine_eq]; simp, st2.bel.stays _ _ h1, h2.keeps st2.bel.stays, h4.keeps st2.bel.stays, fun h' e hm => k O ρ s₂ e h' _ st2 hm⟩
end
end Mine

namespace Mine
section
variable {prog : Program} {w : World} {A : Around} {E : Value → Shared → Prop} {s : Shared} {K : Frag} {x t0 C : Addr} {ox : Obj} {od : Option Obj}
open Builtin Builtin.Str Builtin.BaseException Builtin.Exceptions in
theorem bstr_one {m : Str} {tk : Tok} {Q : PySem.Fin → Shared → Prop} {ws : Array Value} (ho : s.heap.get? x = some ox) (hd : ox.data = .fields ws) (h0 : ws[0]? = some (.ref t0)) (ht : s.heap.TupAt t0 [.str m tk]) (hq : Q (.done (.ret (.str m tk))) s) :
    wpAny (model prog w) A (Builtin.«BaseException.__str__» ⟨[.ref x], []⟩) Q E s := by
  obtain ⟨ot, k, hto, _, htd⟩ := ht
  unfold Builtin.«BaseException.__str__»
  refine wpAny_bind (wpAny_of_eq (a := (.ref x, [])) (by rfl) ?_)
  dsimp only
  refine wpAny_bind (m := bexcArgs (.ref x)) (Q := fun r s' => _) ?_
  unfold bexcArgs
  refine wpAny_bind (wpAny_field ho hd h0 (wpAny_bind (wpAny_seqItems hto htd ?_)))
  refine wpAny_pure ?_
  dsimp only
  refine wpAny_bind (wpAny_rule ?_)
  exact wpAny_bind (wpAny_of_eq (a := .str m tk) (by rfl) (wpAny_pure hq))
theorem special_own {M : Model} {name : Str} {id : String} {args : List Value} {Q : Option Value → Shared → Prop} (X : K.In s.heap) (LT : Looks M s.heap (typeOf (.ref x)) (.ref C)) (hs : findIn K (.ref C) name = some (some (.builtin id)))
    (hb : ∀ self, bindSpecial (.builtin id) self = pure (.builtin id, [self])) (h : wpAny M A (call (.builtin id) (.ref x :: args)) (fun v => Q (some v)) E s) : wpAny M A (callSpecial? (.ref x) name args) Q E s :=
  wpAny_bind (wpAny_bind (LT.here ((looks_findIn X hs).here (wpAny_holding (wpAny_bind ((Looks.of_pure (hb _)).here (wpAny_bind (wpAny_mono h (fun _ _ z => wpAny_pure z) fun _ _ z => z))))))))
open Builtin Builtin.Str in
/-- the text of an own exception with one text -/
theorem str_own {m : Str} {tk : Tok} {ws : Array Value} {Q : Value → Shared → Prop} (hu : A.in1.in1.units < cLine) (X : K.In s.heap) (ho : s.heap.get? x = some ox) (hc : ox.cls = .ref C) (hs : findIn K (.ref C) "__str__" = some (some (.builtin "BaseException.__str__"))) (hm : mroIn K C (.type "BaseException") = some true)
    (hd : ox.data = .fields ws) (h0 : ws[0]? = some (.ref t0)) (ht : s.heap.TupAt t0 [.str m tk]) (h : Q (.str m tk) s) : wpAny (model prog w) A (call (.type "str") [.ref x]) Q E s := by
  have LT : Looks (model prog w) s.heap (typeOf (.ref x)) (.ref C) := fun A Q E s k q => by
    simp only [typeOf]
    exact wpAny_bind (wpAny_load (k _ _ ho) (wpAny_pure (hc ▸ q)))
  refine callType_codes (T := "str") (Bi := Builtin.«object.__init__») (Q₁ := fun r s₁ => ∃ y u, r = .str y u ∧ Q r s₁) PySem.F.called_str (PySem.F.typeCall_str_1 _) PySem.F.entry_object_init ?_ ?_
  · refine codeAny_of_tree ?_
    show wpAny _ A.in1.in1 (do checkBuiltinCall "str.__new__" ⟨[.type "str", .ref x], []⟩; again (.builtin "str.__new__" ⟨[.type "str", .ref x], []⟩)) _ _ s
    refine wpAny_bind (wpAny_of_eq (PySem.F.newCall_str_1 _) (wpAny_pure ⟨plainId_quiet (by decide +kernel) _, codeAny_builtin PySem.F.entry_str_new ?_⟩))
    rw [Around.under_plainId (by decide +kernel) _]
    rw [str_new_tree]
    refine wpAny_bind (wpAny_pure ?_)
    refine wpAny_bind (wpAny_of_eq isSubtype_str_str ?_)
    have key : wpAny (model prog w) A.in1.in1 (PySem.Builtin.Str.strOf (.ref x)) (fun r s₁ => ∃ y u, r = .str y u ∧ Q r s₁) E s := by
      unfold PySem.Builtin.Str.strOf
      rw [show isExactStr (.ref x) = false from rfl]
      refine wpAny_bind (m := cRoomFor _ _) (wpAny_cRoomFor hu ?_)
      refine wpAny_bind (m := callSpecial? (.ref x) (Str.ofString "__str__")) (special_own (id := "BaseException.__str__") X LT hs (fun self => by
        have hop : withoutEnding? "BaseException.__str__" "#opaque" = none := by decide +kernel
        have hdat : withoutEnding? "BaseException.__str__" "#data" = none := by decide +kernel
        have hkd : builtinKind "BaseException.__str__" = some .slot := by decide +kernel
        simp only [bindSpecial, typeOf, builtinType, hop, hdat, hkd]; rfl) ?_)
      refine wpAny_call (codeAny_call_builtin (by decide +kernel) PySem.F.entry_bexc_str (check_slot (i := "BaseException.__str__") (owner := "BaseException") (n := "__str__") (by decide +kernel) (by decide +kernel) (LT.andThen (looks_mroIn X hm)) (PySem.F.args_bexc_str _) ?_))
      exact bstr_one ho hd h0 ht (wpAny_pure ⟨_, _, rfl, h⟩)
    exact wpAny_bind (wpAny_mono key (fun r s₁ hr => wpAny_pure hr) fun _ _ y => y)
  · rintro obj s₁ ⟨y, u, rfl, hq⟩
    exact ⟨typeIs_str _ _ _, PySem.F.args_object_init_2 _ _, object_init_meets PySem.F.called_str.init.lookup PySem.F.called_str.made (by decide) prog w A.in1 _ s₁ ⟨typeIs_str _ _ _, rfl, hq⟩⟩
end
end Mine

namespace Mine
/-- an expression that raises -/
@[irreducible] def EvX (f : Fm) (O : List (Addr × List Dat)) (ρ : List (Str × Slot)) (e : Expr) (cls : Value) (as : Str) : Prop :=
  ∀ (s : Shared) (Q E : Value → Shared → Prop), St f O ρ s → (∀ e s' t, Fly f.G f.outer s e cls [.str as t] s' → E (.ref e) s') → wpAny f.M f.A (eval e f.env) Q E s
theorem EvX.run {f : Fm} {O : List (Addr × List Dat)} {ρ : List (Str × Slot)} {e : Expr} {cls : Value} {as : Str} (h : EvX f O ρ e cls as) :
    ∀ (s : Shared) (Q E : Value → Shared → Prop), St f O ρ s → (∀ e s' t, Fly f.G f.outer s e cls [.str as t] s' → E (.ref e) s') → wpAny f.M f.A (eval e f.env) Q E s := by
  unfold EvX at h; exact h
section
variable {f : Fm} {O : List (Addr × List Dat)} {ρ : List (Str × Slot)} {Φ : Ot → Prop}
theorem EvX.callF {x : Str} {fa : Addr} {o : Obj} {fd : FuncData} {lvl : Nat} {X : List Dat → Value → Str → Prop} {cls : Value} {as : Str} {np pos : Pos} {e : Expr} {es : List Expr} {ds : List Dat} (hf : EvS f O ρ (.Name x np) (.val (.ref fa))) (ho : f.G.get? fa = some o) (hod : o.data = .func fd) (ha : EvL f O ρ (e :: es) ds)
    (C : ConR f.prog f.w f.mg f.mb f.G lvl fa X) (hX : X ds cls as) (hst : f.A.frames = some f.outer) (hd : f.A.depth + lvl < recursionLimit) (hu : f.A.units + 40 * lvl + 100 < cLine)
    (hns : starEach (e :: es) f.env = (false, eval e f.env) :: starEach es f.env := by rfl) : EvX f O ρ (.Call (.Name x np) (e :: es) [] pos) cls as := by
  unfold EvX
  intro s Q E st k
  refine wpAny_Call_NameR (hf.run s _ _ st fun fv s₁ m₁ h₁ => ?_)
  have h₁' : fv = .ref fa := h₁
  subst h₁'
  refine PySem.Calls.callWith_function (o := o) (fd := fd) (ha.args (st.mv m₁) hns fun vs s₂ m₂ h₂ => ⟨⟨(st.mv (m₁.trans m₂)).bel.stays _ _ ho, hod⟩, ?_⟩)
  have st2 := st.mv (m₁.trans m₂)
  refine C f.A f.outer (f.V O) s₂ vs ds cls as Q E ⟨st2.bel, st2.ok.hh, hd, hu, st2.ok.bas, st2.frD, fun a ha => ?_, st2.tab⟩ hst h₂ hX fun e s' t fly => k e s' t ?_
  · rcases List.mem_append.mp ha with ha | ha
    · obtain ⟨p, hp, rfl⟩ := List.mem_map.mp ha
      obtain ⟨vs, ⟨n, e⟩, _⟩ := st2.own p hp
      exact ⟨_, e⟩
    · exact st2.v0 a ha
  · obtain ⟨mv, B, t0, old, r⟩ := fly
    refine ⟨(m₁.trans m₂).trans mv, B, t0, fun b o e hb => ?_, r⟩
    obtain ⟨o', e'⟩ := (m₁.trans m₂).there e
    exact old b o' e' hb

/-- what the one try of the text does where nothing is raised -/
theorem ExS.tryOk {call : Expr} {d : Dat} {hs : List ExceptHandler} {h0 : ExceptHandler} {rp tp : Pos} (h : Ev f O ρ call d) (hΦ : Φ (.ret d)) : ExS f O ρ (.Try [.Return (some call) rp] (h0 :: hs) [] [] tp) Φ := by
  apply ExS.mk
  intro s E st
  refine wpAny_Try_except ?_
  have := (Ex.consX (f := f) (O := O) (ρ := ρ) (rest := []) (Φ := fun o => o = .ret d) (ExS.ret (pos := rp) h rfl)).run s (fun e s₁ => wpAny f.M f.A (noteFrame e f.env) (fun _ s₂ => wpAny f.M f.A (setFlight e none) (fun _ s₃ => wpAny f.M f.A (handleBy e f.env (h0 :: hs)) (Out f Φ) E s₃) E s₂) E s₁) st
  refine wpAny_mono this (fun fl s' x => ?_) fun _ _ x => x
  cases fl with
  | next => obtain ⟨_, _, h, _⟩ := x; cases h
  | brk => obtain ⟨_, _, h, _⟩ := x; cases h
  | cont => obtain ⟨_, _, h, _⟩ := x; cases h
  | ret v => obtain ⟨d', h1, h2, h3⟩ := x; cases h1; exact ⟨d, hΦ, h2, h3⟩

theorem ExS.tryAs {K : Frag} {call : Expr} {x n sN : Str} {C : Addr} {as : Str} {outer : List Env} {xp rp rp2 hp tp lp sp np cp : Pos} (hx : EvX f O ρ call (.ref C) as) (hst : f.A.frames = some f.outer) (ho : f.outer = f.env :: outer) (hfr : f.env.frame = some f.env.locals)
    (hK : K.In f.G) (hfind : findIn K (.ref C) "__str__" = some (some (.builtin "BaseException.__str__"))) (hmro : mroIn K C (.type "BaseException") = some true) (hC : ErrCls f.G C)
    (hkx : f.env.kindOf x = some .globalImplicit) (hgx : f.mg x = some (.ref C)) (hkn : f.env.kindOf n = some .local) (hks : f.env.kindOf sN = some .globalImplicit) (hgs : f.mg sN = none) (hbs : bootBuiltins sN = some (.type "str")) (hu : f.A.units + 10 < cLine) (hΦ : Φ (.ret (.list [.str as])))
    (hxd : (x == ("__debug__" : Str)) = false := by decide) (hsd : (sN == ("__debug__" : Str)) = false := by decide) (hsn : sN ≠ "__name__" := by decide) (hnd : (n == ("__debug__" : Str)) = false := by decide) :
    ExS f O ρ (.Try [.Return (some call) rp] [.ExceptHandler (some (.Name x xp)) (some n) [.Return (some (.List [.Call (.Name sN sp) [.Name n np] [] cp] lp)) rp2] hp] [] [] tp) Φ := by
  apply ExS.mk
  intro s E st
  refine wpAny_Try_except (wpAny_execs_cons (wpAny_Return_some (hx.run s _ _ st fun e s' t fly => ?_)))
  obtain ⟨mv, B, t0, old, hfl, hBt, htup, hBW, tb⟩ := fly
  have hfl' : Heap.FlyingW B (f.env :: outer) e (.ref C) (.ref t0) s'.heap := ho ▸ hfl
  refine wpAny_looks_onW (by rw [hst, ho]) hfr hfl' fun h₄ held sm₄ => wpAny_landsW held fun h₅ fl5 sm₅ => ?_
  have stF : ∀ h' tk, B.StaysIn h' → s'.heap.UpToSlots h' → St f O ρ { s' with heap := h', toks := tk } := fun h' tk h1 h2 => st.mv (Mv.fly mv st.frD old hfl.1 h1 h2 tb tk)
  have st5 := stF h₅ s'.toks fl5.1 (sm₄.trans sm₅)
  obtain ⟨bm, N, nm, q, bs, hdct, sn, sub, ab, col, dd, k0, k1, k2, k3, k5, mN, c1, c2, c3, c4⟩ := hC
  refine wpAny_handleBy_cons (codeAny_handlers_test ?_) (by intro q; cases q)
  refine PySem.Calls.Name_function_global st.ok.kind hkx (PySem.Calls.loadGlobal_global (mg := f.mg) (by rw [st.ok.glob]; exact st.ok.bas.g.keeps st5.bel.stays) hgx ?_) hxd
  obtain ⟨ob, hob, hobc⟩ := fl5.there
  refine wpAny_excMatches_sub_self (st5.bel.stays _ _ c1) hob hobc (c4.hasType (by decide)) (codeAny_handlers_suite_as ?_)
  refine lands_againW fl5 fun h₆ fl6 sm₆ => ?_
  have sm6 := (sm₄.trans sm₅).trans sm₆
  have st6 := stF h₆ s'.toks fl6.1 sm6
  obtain ⟨m6, hn6⟩ := st6.loc
  refine wpAny_storeName_local hkn hn6 (fun h7 hn7 hs7 => ?_) (by rw [st.ok.kind]; rfl)
  have st7 : St f O (put ρ n (.val (.ref e))) { s' with heap := h7, toks := s'.toks + 1 } := st6.storeL (x := n) (v := .ref e) (sl := .val (.ref e)) (tk := s'.toks + 1) hkn (show SlotIs _ _ (.val _) _ from rfl) hn6 hn7 hs7
  obtain ⟨oL, es, ep, eL, dL, _⟩ := id hn6
  obtain ⟨oe, ws, hoe, hoec, hoed, hoe0⟩ := fl6.first
  have hne : e ≠ f.env.locals := by
    rintro rfl
    rw [hoe] at eL; cases eL; rw [hoed] at dL; cases dL
  have hoe7 := hs7.extBut _ _ hne hoe
  have ht6 : h₆.TupAt t0 [.str as t] := htup.of_slots sm6
  have ht7 : h7.TupAt t0 [.str as t] := by
    obtain ⟨o, n0, a1, a2, a3⟩ := ht6
    refine ⟨o, n0, hs7.extBut _ _ ?_ a1, a2, a3⟩
    rintro rfl
    rw [a1] at eL; cases eL; rw [a3] at dL; cases dL
  let s7 : Shared := { s' with heap := h7, toks := s'.toks + 1 }
  have st7' : St f O (put ρ n (.val (.ref e))) s7 := st7
  refine wpAny_execs_cons (wpAny_Return_some (List_ ?_))
  rw [show starEach [(Expr.Name sN sp).Call [Expr.Name n np] [] cp] f.env = (false, eval (.Call (.Name sN sp) [.Name n np] [] cp) f.env) :: starEach [] f.env from rfl]
  refine PySem.Calls.spliced_cons (wpAny_Call_NameR ?_)
  refine PySem.Calls.Name_function_global st.ok.kind hks (PySem.Calls.loadGlobal_builtin (mg := f.mg) (mb := f.mb) (by rw [st.ok.glob]; exact st.ok.bas.g.keeps st7'.bel.stays) hgs (by rw [st.ok.bi]; exact st.ok.bas.b.keeps st7'.bel.stays) (by rw [st.ok.bas.boot sN hsn]; exact hbs) ?_) hsd
  rw [show starEach [Expr.Name n np] f.env = (false, eval (.Name n np) f.env) :: starEach [] f.env from rfl]
  refine PySem.callWith_type (by rfl) (PySem.Calls.evalArgs_plain (PySem.Calls.spliced_cons (wpAny_Name (wpAny_loadName_local (v := .ref e) st.ok.kind hkn hn7 (by simp) (PySem.Calls.spliced_nil ?_)) hnd)))
  show wpAny _ _ (PySem.call (.type "str") [.ref e]) _ _ s7
  refine str_own (K := K) (s := s7) (A := f.A.mark (some (.ref e))) (show f.A.units + 1 + 1 < cLine by omega) (hK.keeps st7'.bel.stays) (ox := oe) hoe7 hoec hfind hmro hoed hoe0 ht7 ?_
  · refine PySem.Calls.spliced_nil ?_
    refine wpAny_newObj_type ?_ (by size_fits)
    let s8 : Shared := { s7 with heap := s7.heap.push { cls := .type "list", data := .seq #[.str as t] } }
    have m8 : Mv f.G f.W s7 s8 := .push _
    have st8 := st7'.mv m8
    obtain ⟨m9, hn8⟩ := st8.loc
    refine wpAny_nameGoes hkn hn8 (by rw [st.ok.kind]; rfl) fun h9 m10 hn9 hs9 => ?_
    refine ⟨.list [.str as], hΦ, ?_, ?_⟩
    · have hnew : s7.heap.objs.size ∉ f.V₀ := fun h => st7'.freshV (List.mem_append.mpr (.inr h))
      refine .list (vs := [.str as t]) ⟨0, hs9.extBut _ _ ?_ (Heap.get?_push_size _ rfl)⟩ hnew (.one (.str _ _))
      intro h
      have := hn7.lt
      rw [← h] at this
      exact Nat.lt_irrefl _ this
    · exact frm_at (tk := s8.toks + 1) st8.frm st.ok.fL hs9 (by obtain ⟨oL, es, ep, eL, dL, _⟩ := id hn8; exact ⟨oL, eL, fun vs h => by rw [dL] at h; cases h⟩)
end
end Mine

namespace Mine
/-- a contract that asks for the stack's frames -/
def ConF (prog : Program) (w : World) (mg mb : Str → Option Value) (G : Heap) (lvl : Nat) (fa : Addr) (R : List Dat → Dat → Prop) : Prop :=
  ∀ (A : Around) (outer : List Env) (V : List Addr) (s : Shared) (vs : List Value) (ds : List Dat) (d : Dat) (Q E : Value → Shared → Prop), Pre mg mb G lvl A outer V s → A.frames = some outer → HasL V s.heap vs ds → R ds d →
    (∀ v s', Mv G (outer.filterMap (·.frame)) s s' → Has V s'.heap v d → Q v s') → wpAny (model prog w) A (call (.ref fa) vs) Q E s
theorem OpN.conF {f : Fm} {O : List (Addr × List Dat)} {ρ : List (Str × Slot)} {lvl : Nat} {fa : Addr} {R : List Dat → Dat → Prop} {ds : List Dat} {d : Dat} (C : ConF f.prog f.w f.mg f.mb f.G lvl fa R) (hst : f.A.frames = some f.outer) (hR : R ds d) (hd : f.A.depth + lvl < recursionLimit) (hu : f.A.units + 40 * lvl + 100 < cLine) : OpN f O ρ (fun vs => call (.ref fa) vs) ds d := by
  intro s vs Q E st hv k
  refine C f.A f.outer (f.V O) s vs ds d Q E ⟨st.bel, st.ok.hh, hd, hu, st.ok.bas, st.frD, fun a ha => ?_, st.tab⟩ hst hv hR k
  rcases List.mem_append.mp ha with ha | ha
  · obtain ⟨p, hp, rfl⟩ := List.mem_map.mp ha
    obtain ⟨vs, ⟨n, e⟩, _⟩ := st.own p hp
    exact ⟨_, e⟩
  · exact st.v0 a ha
theorem ConF.of_def {prog : Program} {w : World} {mg mb : Str → Option Value} {G : Heap} {lvl : Nat} {fa : Addr} {o : Obj} {fd : FuncData} {body : List Stmt} {R : List Dat → Dat → Prop} (ps : List Str)
    (ho : G.get? fa = some o) (hdata : o.data = .func fd) (hcd : G.CodeRec fd.code fd.qualname) (hbody : fd.body = .stmts body) (hclo : fd.closure = []) (hgl : fd.globals = mainGlobals) (hbi : fd.builtins = builtinsNs)
    (hbind : ∀ vs : List Value, vs.length = ps.length → bindArgs fd ⟨vs, []⟩ = pure (ps.zip vs)) (hnd : ps.Nodup)
    (hkind : ps.all (fun p => fd.scope.names.lookup p == some .local || fd.scope.names.lookup p == some .cell) = true)
    (hR : ∀ ds d, R ds d → ds.length = ps.length) (hlvl : 1 ≤ lvl)
    (hco : fd.scope.isCoroutine = false) (hgen : fd.scope.isGenerator = false) (hk : fd.scope.kind = .function)
    (h : ∀ (A : Around) (L : Addr) (outer : List Env) (V : List Addr) (s : Shared), A.frames = some outer → A.depth + lvl < recursionLimit → A.units + 40 * lvl + 100 < cLine → ∀ ds d, R ds d →
      Ex (mkF prog w mg mb G A (envM fd.scope fd.code fd.qualname L fa) outer V s) [] (parm ps ds) body (retIs d)) : ConF prog w mg mb G lvl fa R := by
  intro A outer V s vs ds d Q E pre hstk hv hr k
  have hlen : vs.length = ps.length := hv.length.trans (hR ds d hr)
  have hkd : ∀ x ∈ ps, fd.scope.names.lookup x = some .local ∨ fd.scope.names.lookup x = some .cell := fun x hx => by
    have := List.all_eq_true.mp hkind x hx
    simpa using this
  have hce : ∀ (n : Nat) (x : Str), fd.scope.names.lookup x = some .cell → ((cellsFrom n fd.scope.names []).lookup x).isSome = true := fun n x hx => cellsFrom_some _ _ _ (.inl hx)
  refine wpAny_call (codeAny_call_cells (binds := ps.zip vs) (by have := pre.dep; omega) (pre.bel.stays _ _ ho) hdata (pre.bas.lim.keeps pre.bel.stays) (hcd.keeps pre.bel.stays) hbody (hbind vs hlen) hclo
    (fun x hx => (hkd x.1 (List.of_mem_zip hx).1).imp id fun q => ⟨q, hce _ _ q⟩) (fun s₁ IC => ?_) hco hgen hk)
  have henv : callEnvC fd s.heap.objs.size fa = envM fd.scope fd.code fd.qualname s.heap.objs.size fa := by
    unfold callEnvC envM; rw [hgl, hbi]
  rw [henv] at IC ⊢
  generalize hE : envM fd.scope fd.code fd.qualname s.heap.objs.size fa = env at IC ⊢
  have hloc : env.locals = s.heap.objs.size := by rw [← hE]; rfl
  have hfr : env.frame = some s.heap.objs.size := by rw [← hE]; rfl
  have hsc : env.scope = fd.scope := by rw [← hE]; rfl
  have hcl : env.cells = cellsFrom (s.heap.objs.size + 1) fd.scope.names [] := by rw [← hE]; rfl
  have hkk : ∀ x, env.kindOf x = fd.scope.names.lookup x := fun x => by show env.scope.names.lookup x = _; rw [hsc]
  have noG : G.get? s.heap.objs.size = none := pre.bel.stays.fresh
  obtain ⟨oL, es, ep, eL, dL, rL⟩ := id IC.toInCall.ns
  rw [hloc] at eL
  have keep := IC.toInCall.keep
  obtain ⟨h1, tk1, e1⟩ := IC.toInCall.same
  have mv1 : Mv G (outer.filterMap (·.frame)) s s₁ := by
    rw [e1]
    refine Mv.of_keep fun b o e => ?_
    have := keep b o e
    rw [e1] at this
    exact this
  have ex := h A s.heap.objs.size outer V s hstk pre.dep pre.uni ds d hr
  rw [hE] at ex
  have st : St (mkF prog w mg mb G A env outer V s) [] (parm ps ds) s₁ := by
    refine { ok := ⟨pre.hh, by rw [hsc]; exact hk, by rw [← hE]; rfl, by rw [← hE]; rfl, pre.bas, pre.bel.stays, by rw [hloc]; exact Nat.le_refl _, IC.apart, fun _ n c hc => by have := IC.above n c hc; rw [hloc] at this; exact Nat.le_of_lt this, fun a ha => ?_⟩,
             bel := ⟨trivial, fun b o e => keep b o (pre.bel.stays b o e), ?_⟩, frm := mv1, loc := ⟨_, IC.toInCall.ns⟩, cel := fun n c hc => ⟨_, IC.cell n c hc⟩, vars := fun x sl hx => ?_, own := fun p hp => (nomatch hp), nod := List.nodup_nil, fO := fun p hp => (nomatch hp),
             v0 := fun a ha => let ⟨o, e⟩ := pre.v0 a ha; ⟨o, keep a o e⟩, frD := fun a ha => ?_, kep := fun p hp => (nomatch hp), dat := fun p hp => (nomatch hp), oV := fun p hp => (nomatch hp), tab := mv1.tabs pre.tab }
    · have : (env :: outer).filterMap (·.frame) = s.heap.objs.size :: outer.filterMap (·.frame) := by simp [List.filterMap_cons, hfr]
      rw [show (mkF prog w mg mb G A env outer V s).W = (env :: outer).filterMap (·.frame) from rfl, this] at ha
      rcases List.mem_cons.mp ha with rfl | ha
      · exact .inr (Nat.le_refl _)
      · exact .inl ha
    · refine ⟨by rw [hsc, hk]; decide, ⟨s.heap.objs.size, oL, hfr, noG, eL, fun vs q => by rw [dL] at q; cases q⟩, pre.bel.frames.of_keeps fun b o e _ => ⟨o, keep b o e, rfl⟩⟩
    · obtain ⟨v, hv1, hv2, hv3⟩ := bind_hit (kindOf := env.kindOf) ps vs ds (fun _ => none) (fun _ => none) hnd hv hx
      have hmem := lookup_parm hx
      refine ⟨v, ?_, hv1.keep mv1.dkeep⟩
      rcases hkd x hmem with q | q
      · exact .inl ⟨by rw [hkk]; exact q, _, IC.toInCall.ns, hv2 (by rw [hkk]; exact q)⟩
      · refine .inr ⟨.inl (by rw [hkk]; exact q), ?_⟩
        obtain ⟨c, hc⟩ := Option.isSome_iff_exists.mp (hce (s.heap.objs.size + 1) x q)
        have hc' : env.cells.lookup x = some c := by rw [hcl]; exact hc
        refine ⟨c, hc', ?_⟩
        have := IC.cell x c hc'
        rw [hv3 (by rw [hkk, q]; decide)] at this
        exact this
    · have : (env :: outer).filterMap (·.frame) = s.heap.objs.size :: outer.filterMap (·.frame) := by simp [List.filterMap_cons, hfr]
      rw [show (mkF prog w mg mb G A env outer V s).W = (env :: outer).filterMap (·.frame) from rfl, this] at ha
      rcases List.mem_cons.mp ha with rfl | ha
      · exact ⟨oL, es, ep, eL, dL⟩
      · obtain ⟨o, es', ep', e, d'⟩ := pre.frD a ha
        exact ⟨o, es', ep', keep a o e, d'⟩
  refine wpAny_mono (ex.run s₁ _ st) (fun fl s' hq => ?_) fun _ _ x => x
  cases fl with
  | next => obtain ⟨_, _, hf, _⟩ := hq; exact absurd hf id
  | brk => obtain ⟨_, _, hf, _⟩ := hq; exact absurd hf id
  | cont => obtain ⟨_, _, hf, _⟩ := hq; exact absurd hf id
  | ret v =>
    obtain ⟨d', hd', hv', hm'⟩ := hq
    have : d' = d := hd'
    subst this
    exact k v s' hm' hv'


end Mine

namespace Mine
/-! ## lambdas -/
section
variable {f : Fm} {O : List (Addr × List Dat)} {ρ : List (Str × Slot)}
theorem funCode {c P : Addr} {pos : Pos} {fl : Nat} {nm q : Str} {pa : Arguments} {scope : Scope} {body : FuncBody} {s : Shared} {Q : Value → Shared → Prop} {E : Value → Shared → Prop} (st : St f O ρ s) (C : CodeIs f.G c P) (hc : f.env.code = .ref c)
    (k : ∀ code h' tk, Mv f.G f.W s { s with heap := h', toks := tk } → s.heap.objs.size ≤ h'.objs.size → CodeOk h' code → Q code { s with heap := h', toks := tk }) : wpAny f.M f.A (functionCode f.env pos fl nm q pa scope body) Q E s := by
  obtain ⟨ps, hi, htab⟩ := codeAt_of st C
  have hg := C.2.2
  obtain ⟨op, eop, hok⟩ := st.tab P hg
  have eop' := htab.2
  rw [eop] at eop'; cases eop'
  cases hn : codeAmong pos ps.toList with
  | none =>
    refine wpAny_functionCodeX hc hi htab hn fun c' h' tk hx hle hlt hi' hr htab' hP' => ?_
    obtain ⟨P', _, _, hP2⟩ := hP'
    have h2 := hok.more (l := pos.line) (cl := pos.col) eop hx hr hP2
    refine k _ _ _ (.of_tab eop hok hg hx htab'.2 ⟨_, _, rfl, rfl⟩ h2) (Nat.le_trans hle (Nat.le_of_lt hlt)) ?_
    obtain ⟨ps2, e2, _, r⟩ := h2
    cases e2
    refine r pos _ ?_
    obtain ⟨_, _, _, _, _, _, _, _, _, _, _, _, _, _, _, _, _, _, _, ht, _⟩ := hi
    have e1 : (ps ++ #[rawInt pos.line, rawInt pos.col, Value.ref c']).toList = ps.toList ++ [rawInt pos.line, rawInt pos.col, .ref c'] := by simp
    rw [e1]
    exact codeAmong_snoc _ ht hn
  | some cv =>
    refine wpAny_functionCode_hit hc hi hn ?_
    obtain ⟨ps2, e2, _, r⟩ := hok
    cases e2
    exact k cv s.heap s.toks (.refl s) (Nat.le_refl _) (r pos cv hn)

abbrev lamObj (qual : Str) (params : Arguments) (body : Expr) (scope : Scope) (cl : List (Str × Addr)) (pm cdv ct : Value) : Obj :=
  { cls := .type "function", data := .func (kla_fn "<lambda>" qual params body scope cl pm cdv ct) }
theorem lam_make {c P : Addr} {params : Arguments} {body : Expr} {scope : Scope} {pos : Pos} {cl : List (Str × Addr)} {s : Shared} {Q : Value → Shared → Prop} {E : Value → Shared → Prop} (st : St f O ρ s) (C : CodeIs f.G c P) (hc : f.env.code = .ref c) (B : BuiltM f.mg f.G)
    (hdef : defaultsOf params f.env = ([], [])) (hcl : closureFor scope f.env = pure cl)
    (k : ∀ fa s' qual pm cdv ct, Mv f.G f.W s s' → s'.heap.get? fa = some (lamObj qual params body scope cl pm cdv ct) → CodeOk s'.heap cdv → s.heap.get? fa = none → Q (.ref fa) s') : wpAny f.M f.A (eval (.Lambda params body scope pos) f.env) Q E s := by
  refine kla_eval hdef ?_
  rw [makeFunction_eq]
  simp only [List.zip_nil_right, List.filterMap_nil, List.isEmpty_nil, if_true, pure_bind]
  unfold makeTail
  rw [hcl]
  refine wpAny_bind (wpAny_pure ?_)
  obtain ⟨bm, ob, hb1, hb2, hb3, hb4, hb5, hb6⟩ := B.ex
  have fin : ∀ (h₁ : Heap) (tk : Tok) (ctv cdv : Value) (s₁ : Shared), s₁ = { s with heap := h₁, toks := tk } → Mv f.G f.W s s₁ → s.heap.objs.size ≤ h₁.objs.size → CodeOk h₁ cdv →
      Q (.ref h₁.objs.size) { s₁ with heap := h₁.push { cls := .type "function", data := .func (kla_fn "<lambda>" (f.env.qual ++ "<lambda>") params body scope cl ((f.mg "__name__").getD .none) cdv ctv) } } := by
    rintro h₁ tk ctv cdv s₁ rfl m hle hok
    refine k _ _ (f.env.qual ++ "<lambda>") ((f.mg "__name__").getD .none) cdv ctv (m.trans (.push _)) (Heap.get?_push_size _ rfl) (hok.up (.of fun b o e => Heap.get?_push_of_some _ e)) (Heap.get?_none_of_le hle)
  have glob : ∀ s₁, St f O ρ s₁ → s₁.heap.Ns f.env.globals f.mg := fun s₁ st1 => by rw [st1.ok.glob]; exact st1.ok.bas.g.keeps st1.bel.stays
  cases cl with
  | nil =>
    simp only [List.isEmpty_nil, if_true]
    refine wpAny_bind (wpAny_pure ?_)
    refine wpAny_bind (funCode st C hc fun cdv h1 tk1 m1 hle1 hok1 => ?_)
    have st1 := st.mv m1
    refine wpAny_bind (wpAny_builtinsFor (glob _ st1) hb1 hb2 (st1.bel.stays _ _ hb3) hb4 hb5 hb6 ?_)
    refine wpAny_bind (wpAny_nsGet (glob _ st1) ?_)
    refine wpAny_bind (wpAny_pure (wpAny_newObj_type ?_ (by size_fits)))
    rw [st1.ok.glob]
    exact fin h1 tk1 .none cdv _ rfl m1 hle1 hok1
  | cons q r =>
    simp only [List.isEmpty_cons, Bool.false_eq_true, if_false]
    refine wpAny_bind (wpAny_newTextTuple ?_)
    have m0 : Mv f.G f.W s { s with heap := s.heap.push { cls := .type "tuple", data := .seq (((q :: r).mergeSort fun a b => a.1.cps.toList ≤ b.1.cps.toList).map (Value.ref ·.2)).toArray } } := .push _
    have st0 := st.mv m0
    refine wpAny_bind (funCode st0 C hc fun cdv h1 tk1 m1 hle1 hok1 => ?_)
    have st1 := st0.mv m1
    refine wpAny_bind (wpAny_builtinsFor (glob _ st1) hb1 hb2 (st1.bel.stays _ _ hb3) hb4 hb5 hb6 ?_)
    refine wpAny_bind (wpAny_nsGet (glob _ st1) ?_)
    refine wpAny_bind (wpAny_pure (wpAny_newObj_type ?_ (by size_fits)))
    rw [st1.ok.glob]
    refine fin h1 tk1 _ cdv _ rfl (m0.trans m1) (Nat.le_trans ?_ hle1) hok1
    show _ ≤ (s.heap.push _).objs.size
    rw [Heap.size_push]; exact Nat.le_succ _
end

/-- a function's object at a state: what a call of it gives from there on -/
structure FnAt (prog : Program) (w : World) (mg mb : Str → Option Value) (G : Heap) (lvl : Nat) (s₀ : Shared) (V₀ : List Addr) (fa : Addr) (R : List Dat → Dat → Prop) : Prop where
  fn : ∃ o fd, s₀.heap.get? fa = some o ∧ o.data = .func fd ∧ o.cls = .type "function"
  run : ∀ (A : Around) (outer : List Env) (V : List Addr) (s : Shared) (vs : List Value) (ds : List Dat) (d : Dat) (Q E : Value → Shared → Prop) (W : List Addr), Mv G W s₀ s → (∀ a ∈ V, a ∈ V₀ ∨ s₀.heap.get? a = none) → Pre mg mb G lvl A outer V s → HasL V s.heap vs ds → R ds d →
    (∀ v s', Mv G (outer.filterMap (·.frame)) s s' → Has V s'.heap v d → Q v s') → wpAny (model prog w) A (call (.ref fa) vs) Q E s
theorem Mv.none {X : Heap} {W : List Addr} {s s' : Shared} (m : Mv X W s s') {a : Addr} (h : s'.heap.get? a = none) : s.heap.get? a = none := by
  cases q : s.heap.get? a with
  | none => rfl
  | some o =>
    obtain ⟨o', e⟩ := m.there q
    rw [h] at e; cases e
theorem FnAt.mv {prog : Program} {w : World} {mg mb : Str → Option Value} {G : Heap} {lvl : Nat} {s₀ s₁ : Shared} {V₀ V₁ W₁ : List Addr} {fa : Addr} {R : List Dat → Dat → Prop} (x : FnAt prog w mg mb G lvl s₀ V₀ fa R) (m : Mv G W₁ s₀ s₁) (hV : ∀ a ∈ V₁, a ∈ V₀ ∨ s₀.heap.get? a = none) : FnAt prog w mg mb G lvl s₁ V₁ fa R where
  fn := let ⟨o, fd, a, b, c⟩ := x.fn; ⟨o, fd, m.exactD a (tabB_cls (by rw [c]; exact fun h => nomatch h)) (fun es ep h => by rw [b] at h; cases h), b, c⟩
  run := fun A outer V s vs ds d Q E W m' hV' pre hv hr k => by
    refine x.run A outer V s vs ds d Q E (W₁ ++ W) ((m.mono fun b hb => List.mem_append.mpr (.inl hb)).trans (m'.mono fun b hb => List.mem_append.mpr (.inr hb))) (fun a ha => ?_) pre hv hr k
    rcases hV' a ha with h | h
    · exact hV a h
    · exact .inr (m.none h)

theorem lookup_nodup {α : Type} {x : Str} {v : α} : ∀ {l : List (Str × α)}, (l.map (·.1)).Nodup → (x, v) ∈ l → l.lookup x = some v
  | [], _, h => nomatch h
  | (n, u) :: r, hn, h => by
    simp only [List.map_cons, List.nodup_cons] at hn
    rcases List.mem_cons.mp h with h | h
    · cases h; simp
    · have : (x == n) = false := by
        simp only [beq_eq_false_iff_ne, ne_eq]
        intro hxn
        exact hn.1 (List.mem_map.mpr ⟨(x, v), h, hxn⟩)
      rw [List.lookup_cons, this]
      exact lookup_nodup hn.2 h
theorem zip_map_fst {vs : List Value} : ∀ {ps : List Str}, ps.length = vs.length → (ps.zip vs).map (·.1) = ps := by
  induction vs with
  | nil => intro ps h; cases ps with | nil => rfl | cons => simp at h
  | cons v vs ih =>
    intro ps h
    cases ps with
    | nil => simp at h
    | cons p ps => simp only [List.zip_cons_cons, List.map_cons]; rw [ih (by simpa using h)]
theorem parm_mem {V : List Addr} {h : Heap} {x : Str} {sl : Slot} : ∀ {ps : List Str} {vs : List Value} {ds : List Dat}, HasL V h vs ds → (parm ps ds).lookup x = some sl → ∃ v, (x, v) ∈ ps.zip vs ∧ SlotIs V h sl v
  | [], _, _, _, hl => by simp [parm] at hl
  | p :: ps, [], _, hv, hl => by cases hv; simp [parm] at hl
  | p :: ps, v :: vs, [], hv, hl => by cases hv
  | p :: ps, v :: vs, d :: ds, hv, hl => by
    cases hv with
    | cons hd hr =>
      unfold parm at hl
      simp only [List.map_cons, List.zip_cons_cons, List.lookup_cons] at hl
      by_cases hx : x = p
      · subst hx
        simp only [beq_self_eq_true] at hl
        cases hl
        exact ⟨v, List.mem_cons_self, hd⟩
      · have hb : (x == p) = false := by simpa using hx
        simp only [hb] at hl
        obtain ⟨v', hv', hs⟩ := parm_mem hr hl
        exact ⟨v', List.mem_cons_of_mem _ hv', hs⟩

section
variable {prog : Program} {w : World} {mg mb : Str → Option Value} {G : Heap}
/-- the frame of a lambda's call -/
abbrev lamF (prog : Program) (w : World) (mg mb : Str → Option Value) (G : Heap) (A : Around) (env : Env) (outer : List Env) (V : List Addr) (s : Shared) : Fm :=
  { prog, w, mg, mb, G, A := A.deeper env, env, outer := env :: outer, V₀ := V, s₀ := s, Wc := outer.filterMap (·.frame), own := false }
abbrev lamEnv (scope : Scope) (q : Str) (L fa : Addr) (cdv : Value) (cl : List (Str × Addr)) : Env := newEnv scope L mainGlobals cl (q ++ ".<locals>.") (some fa) cdv none builtinsNs
theorem callOk {A : Around} {R : Result → Shared → Prop} {s : Shared} {a : Addr} {args : Args} {o : Obj} {fd : FuncData} {body : Expr} (hroom : A.depth < recursionLimit) (ho : s.heap.get? a = some o)
    (hd' : o.data = .func fd) (hco : fd.scope.isCoroutine = false) (hgen : fd.scope.isGenerator = false) (hbody : fd.body = .expr body) (hcd : CodeOk s.heap fd.code)
    (h : ∀ q : Str, wpAny (model prog w) A.in1 (bindArgs fd args) (fun binds s₁ =>
      wpAny (model prog w) A.in1 (newFunctionEnv fd.scope fd.globals fd.closure binds (q ++ ".<locals>.") (some a) fd.code none fd.builtins)
        (fun env s₂ => s₂.heap.NoLimit ∧ codeAny (model prog w) A (.expr body env) R s₂) (fun e s' => R (.error e) s') s₁) (fun e s' => R (.error e) s') s) :
    codeAny (model prog w) A (.call (.ref a) args) R s := by
  refine codeAny_of_tree ?_
  show wpAny _ A.in1 (callAny (.ref a) args) _ _ s
  simp only [callAny]
  refine wpAny_bind (wpAny_load ho ?_)
  obtain ⟨c, oc, vs, q, tq, hc, hoc, _, hdc, hq⟩ := hcd
  have h := h q
  simp only [hd', callFunction, hco, hgen, hbody, hc]
  rw [hc] at h
  refine wpAny_bind (m := field (.ref c) 1) (wpAny_field hoc hdc hq (wpAny_bind (wpAny_pure ?_)))
  exact wpAny_bind (wpAny_mono h (fun binds s₁ h₁ => wpAny_bind (wpAny_mono h₁ (fun env s₂ h₂ => wpAny_bind (wpAny_enterFrame h₂.1 hroom
    (wpAny_pure (And.intro rfl h₂.2)))) fun _ _ h' => h')) fun _ _ h' => h')

theorem lam_call {lvl : Nat} {A : Around} {outer : List Env} {V : List Addr} {s : Shared} {fa : Addr} {vs : List Value} {ds : List Dat} {d : Dat} {qual : Str} {params : Arguments} {body : Expr} {scope : Scope} {cl : List (Str × Addr)} {pm cdv ct : Value} {ρc : List (Str × Slot)} {Q E : Value → Shared → Prop} {ps : List Str}
    (pre : Pre mg mb G lvl A outer V s) (ho : s.heap.get? fa = some (lamObj qual params body scope cl pm cdv ct)) (hcd : CodeOk s.heap cdv) (hlen : ds.length = ps.length) (hlvl : 1 ≤ lvl)
    (hbind : vs.length = ps.length → bindArgs (kla_fn "<lambda>" qual params body scope cl pm cdv ct) ⟨vs, []⟩ = pure (ps.zip vs)) (hnd : ps.Nodup) (hloc : ps.all (fun p => scope.names.lookup p == some .local) = true) (hcell : ∀ y ∈ scope.names, y.2 ≠ .cell)
    (hap : cl.Pairwise fun x y => x.2 ≠ y.2) (hclx : ∀ n c, cl.lookup n = some c → ∃ v, s.heap.IsCell c v)
    (hcap : ∀ x sl, ρc.lookup x = some sl → scope.names.lookup x = some .free ∧ ∃ c v, cl.lookup x = some c ∧ s.heap.IsCell c (some v) ∧ SlotIs V s.heap sl v)
    (hv : HasL V s.heap vs ds) (hco : scope.isCoroutine = false) (hgen : scope.isGenerator = false) (hk : scope.kind = .function)
    (h : ∀ (q : Str) (L : Addr), Ev (lamF prog w mg mb G A (lamEnv scope q L fa cdv cl) outer V s) [] (parm ps ds ++ ρc) body d)
    (k : ∀ v s', Mv G (outer.filterMap (·.frame)) s s' → Has V s'.heap v d → Q v s') : wpAny (model prog w) A (call (.ref fa) vs) Q E s := by
  have hvl : vs.length = ps.length := hv.length.trans hlen
  have hkd : ∀ x ∈ ps, scope.names.lookup x = some .local := fun x hx => by
    have := List.all_eq_true.mp hloc x hx
    simpa using this
  refine wpAny_call (callOk (by have := pre.dep; omega) ho rfl hco hgen rfl hcd fun q => ?_)
  rw [hbind hvl]
  refine wpAny_pure (wpAny_newFunctionEnv hcell (fun x hx => hkd x.1 (List.of_mem_zip hx).1) (fun h₁ hns hsb => ?_) hk)
  have keep : ∀ b o, s.heap.get? b = some o → h₁.get? b = some o := fun b o e => hsb.extBut b o (Nat.ne_of_lt (Heap.lt_size e)) (Heap.get?_push_of_some _ e)
  refine ⟨((pre.bas.lim).keeps pre.bel.stays).keeps keep, kla_codeExpr ?_⟩
  have ex := h q s.heap.objs.size
  generalize hE : lamEnv scope q s.heap.objs.size fa cdv cl = env at ex
  show wpAny (model prog w) (A.deeper (lamEnv scope q s.heap.objs.size fa cdv cl)) (eval body (lamEnv scope q s.heap.objs.size fa cdv cl)) (fun v s' => Q v s') (fun e' s' => wpAny (model prog w) (A.deeper (lamEnv scope q s.heap.objs.size fa cdv cl)) (leaving (lamEnv scope q s.heap.objs.size fa cdv cl) e') (fun _ s'' => E e' s'') (fun e'' s'' => E e'' s'') s') _
  rw [hE]
  have hlocA : env.locals = s.heap.objs.size := by rw [← hE]; rfl
  have hfr : env.frame = some s.heap.objs.size := by rw [← hE]; rfl
  have hsc : env.scope = scope := by rw [← hE]; rfl
  have hcle : env.cells = cl := by rw [← hE]; rfl
  have hkk : ∀ x, env.kindOf x = scope.names.lookup x := fun x => by show env.scope.names.lookup x = _; rw [hsc]
  have noG : G.get? s.heap.objs.size = none := pre.bel.stays.fresh
  obtain ⟨oL, es, ep, eL, dL, rL⟩ := id hns
  have mv1 : Mv G (outer.filterMap (·.frame)) s { s with heap := h₁, toks := s.toks + (ps.zip vs).length } := Mv.of_keep keep
  have st : St (lamF prog w mg mb G A env outer V s) [] (parm ps ds ++ ρc) { s with heap := h₁, toks := s.toks + (ps.zip vs).length } := by
    refine { ok := ⟨pre.hh, by rw [hsc]; exact hk, by rw [← hE]; rfl, by rw [← hE]; rfl, pre.bas, pre.bel.stays, by rw [hlocA]; exact Nat.le_refl _, by rw [hcle]; exact hap, (fun h => nomatch h), fun a ha => ?_⟩,
             bel := ⟨trivial, fun b o e => keep b o (pre.bel.stays b o e), ?_⟩, frm := mv1, loc := ⟨_, by rw [hlocA]; exact hns⟩, cel := fun n c hc => ?_, vars := fun x sl hx => ?_, own := fun p hp => (nomatch hp), nod := List.nodup_nil, fO := fun p hp => (nomatch hp),
             v0 := fun a ha => let ⟨o, e⟩ := pre.v0 a ha; ⟨o, keep a o e⟩, frD := fun a ha => ?_, kep := fun p hp => (nomatch hp), dat := fun p hp => (nomatch hp), oV := fun p hp => (nomatch hp), tab := mv1.tabs pre.tab }
    · have : (env :: outer).filterMap (·.frame) = s.heap.objs.size :: outer.filterMap (·.frame) := by simp [hfr]
      rw [show (lamF prog w mg mb G A env outer V s).W = (env :: outer).filterMap (·.frame) from rfl, this] at ha
      rcases List.mem_cons.mp ha with rfl | ha
      · exact .inr (Nat.le_refl _)
      · exact .inl ha
    · refine ⟨by rw [hsc, hk]; decide, ⟨s.heap.objs.size, oL, hfr, noG, eL, fun vs q => by rw [dL] at q; cases q⟩, pre.bel.frames.of_keeps fun b o e _ => ⟨o, keep b o e, rfl⟩⟩
    · rw [hcle] at hc
      obtain ⟨v, o, e, d'⟩ := hclx n c hc
      exact ⟨v, o, keep _ _ e, d'⟩
    · rw [List.lookup_append] at hx
      cases hp : (parm ps ds).lookup x with
      | some sl' =>
        rw [hp] at hx
        cases hx
        obtain ⟨v, hm, hs⟩ := parm_mem hv hp
        refine ⟨v, .inl ⟨by rw [hkk]; exact hkd x (lookup_parm hp), _, by rw [hlocA]; exact hns, ?_⟩, hs.keep mv1.dkeep⟩
        exact lookup_nodup (by rw [List.map_reverse, zip_map_fst hvl.symm]; exact List.pairwise_reverse.mpr (hnd.imp fun h => h.symm)) (List.mem_reverse.mpr hm)
      | none =>
        rw [hp] at hx
        obtain ⟨hkx, c, v, hc, ⟨o, e, d'⟩, hs⟩ := hcap x sl (by simpa using hx)
        exact ⟨v, .inr ⟨.inr (by rw [hkk]; exact hkx), c, by rw [hcle]; exact hc, o, keep _ _ e, d'⟩, hs.keep mv1.dkeep⟩
    · have : (env :: outer).filterMap (·.frame) = s.heap.objs.size :: outer.filterMap (·.frame) := by simp [hfr]
      rw [show (lamF prog w mg mb G A env outer V s).W = (env :: outer).filterMap (·.frame) from rfl, this] at ha
      rcases List.mem_cons.mp ha with rfl | ha
      · exact ⟨oL, es, ep, eL, dL⟩
      · obtain ⟨o, es', ep', e, d'⟩ := pre.frD a ha
        exact ⟨o, es', ep', keep a o e, d'⟩
  exact ex.run _ _ _ st fun v s' m hv' => k v s' (st.mv m).frm hv'
end
end Mine

namespace Mine
/-! ## iterators that a name holds -/
section
variable {prog : Program} {w : World} {A : Around} {E : Value → Shared → Prop} {s : Shared}
theorem iter_call {x : Value} {Q : Value → Shared → Prop} (h : wpAny (model prog w) A.in1 (pyIter x) Q E s) : wpAny (model prog w) A (call (.builtin "iter") [x]) Q E s := by
  refine PySem.Calls.call_function_entry (by decide +kernel) (by decide +kernel) kdk_entry_iter (kdk_args_iter _) ?_
  unfold Builtin.«iter»
  refine wpAny_bind (m := someArgs "iter" 1 2 _) (wpAny_of_eq (a := [x]) (by first | rfl | kernel_rfl!) ?_)
  show wpAny _ _ (pyIter x >>= _) _ _ _
  exact wpAny_bind (wpAny_mono h (fun v s' hq => wpAny_pure ⟨_, rfl, hq⟩) fun _ _ h => h)
end

structure Held (f : Fm) (O : List (Addr × List Dat)) (it : Value) (tgt : Expr) (ds : List Dat) (i : Nat) (V : List Addr) (K : List (Addr × Obj)) (D : List (List Value × List Dat)) : Prop where
  ex : ∃ vs es J fp wr h0, V = wr ++ f.V₀ ∧ K = objsAt h0 fp ++ f.K ∧ D = (vs, es) :: f.D ∧ (∀ V, (∀ b ∈ wr, b ∈ V) → Itr f.prog f.w f.A V it tgt vs es ds J fp wr) ∧ J i h0 ∧ (∀ b ∈ wr, f.s₀.heap.objs.size ≤ b) ∧ (∀ b ∈ fp, b ∉ O.map (·.1)) ∧
    (∀ p ∈ f.K, p.1 ∉ wr) ∧ (∀ a ∈ f.V₀, a ∉ wr)
theorem Held.new {f : Fm} {O : List (Addr × List Dat)} {it : Value} {tgt : Expr} {ds : List Dat} {i : Nat} {V : List Addr} {K : List (Addr × Obj)} {D : List (List Value × List Dat)} (H : Held f O it tgt ds i V K D) : ∀ a ∈ V, a ∈ f.V₀ ∨ f.s₀.heap.get? a = none := by
  obtain ⟨vs, es, J, fp, wr, h0, rfl, _, _, _, _, hlo, _⟩ := H.ex
  intro a ha
  rcases List.mem_append.mp ha with ha | ha
  · exact .inr (Heap.get?_none_of_le (hlo a ha))
  · exact .inl ha

abbrev rangeObj (n : Nat) (t u v : Tok) : Obj := { cls := .type "range", data := .fields #[.int 0 t, .int n u, .int 1 v] }
abbrev rangeD (n : Nat) : List Dat := (List.range n).map fun i => Dat.int (i : Nat)
/-- a list or a range -/
def SeqV (V : List Addr) (h : Heap) (v : Value) (ds : List Dat) : Prop :=
  Has V h v (.list ds) ∨ ∃ r n t u x, v = .ref r ∧ h.get? r = some (rangeObj n t u x) ∧ n ≤ 1000000 ∧ ds = rangeD n

section
variable {f : Fm} {O : List (Addr × List Dat)} {ρ : List (Str × Slot)}
theorem pyIter_seq {v : Value} {ds : List Dat} {s : Shared} {Q : Value → Shared → Prop} {E : Value → Shared → Prop} (st : St f O ρ s) (hv : SeqV (f.V O) s.heap v ds)
    (k : ∀ it s' vs es J fp wr, Mv f.G f.W s s' → HasL (f.V O) s.heap vs es → (∀ nm np V, (∀ b ∈ wr, b ∈ V) → Itr f.prog f.w f.A V it (.Name nm np) vs es ds J fp wr) → J 0 s'.heap → (∀ b ∈ wr, s.heap.objs.size ≤ b) → (∀ b ∈ fp, b ∉ O.map (·.1)) → Q it s') : wpAny f.M f.A.in1 (pyIter v) Q E s := by
  rcases hv with hv | ⟨r, n, t, u, x, rfl, hr, hn, rfl⟩
  · cases hv with
    | list i1 n1 hl =>
      rename_i ax vs
      have hne : ax ≠ s.heap.objs.size := by
        obtain ⟨n, e⟩ := i1
        exact Nat.ne_of_lt (Heap.lt_size e)
      refine wpAny_pyIter_list i1.isList ?_
      have W := Walks.list (prog := f.prog) (w := f.w) st.ok.hh s.heap.objs.size ax hne vs.toArray
      have hlen : vs.toArray.size = ds.length := by simp [hl.length]
      rw [hlen] at W
      refine k (.ref s.heap.objs.size) _ vs ds _ _ _ (.push _) hl (fun nm np V hw => Itr.of_walks W hw (fun i v d h hv hd hh => ?_) (fun i h hJ b hb o e => ?_) (fun i h hJ b hb => ?_) fun i v s Q E hJ hQ => letgo_list hJ.1 hQ)
        ⟨⟨_, Heap.get?_push_size _ rfl, rfl, rfl⟩, (i1.at fun o e => Heap.get?_push_of_some _ e).isList⟩ (fun b hb => by rw [List.mem_singleton.mp hb]; exact Nat.le_refl _) (fun b hb hO => ?_)
      · obtain ⟨d', hd', hx⟩ := hh.getV (k := i) (by simpa using hv)
        rw [hd] at hd'; cases hd'; exact hx
      · obtain ⟨⟨oi, ei, ci, di⟩, ⟨ol, el, _, n, dl⟩⟩ := hJ
        rcases List.mem_cons.mp hb with rfl | hb
        · rw [ei] at e; cases e; exact keep_fields di ci
        · have hb' := List.mem_singleton.mp hb; rw [hb', el] at e; cases e; exact keep_seq dl
      · obtain ⟨⟨oi, ei, _, di⟩, ⟨ol, el, _⟩⟩ := hJ
        rcases List.mem_cons.mp hb with rfl | hb
        · exact ⟨_, ei⟩
        · rw [List.mem_singleton.mp hb]; exact ⟨_, el⟩
      · rcases List.mem_cons.mp hb with rfl | hb
        · exact st.freshV (List.mem_append.mpr (.inl hO))
        · have hb' := List.mem_singleton.mp hb; subst hb'
          exact n1 (List.mem_append.mpr (.inl hO))
  · have hsz : Builtin.Range.rangeSize 0 (n : Int) 1 = (n : Int) := by rw [rangeSize_one]; split <;> omega
    have ir : IsRange s.heap r 0 n 1 t u x := by
      first | exact hr | exact ⟨_, hr, rfl, rfl⟩
    refine wpAny_pyIter_range ir (small_one (by decide) (by decide) (by omega) (by omega)) ?_
    have W := Walks.range (prog := f.prog) (w := f.w) st.ok.hh s.heap.objs.size 0 1 n
    have hlen : n = (rangeD n).length := by simp
    rw [hlen] at W
    refine k (.ref s.heap.objs.size) _ [] [] _ _ _ (.push _) .nil (fun nm np V hw => Itr.of_walks W hw (fun i v d h hv hd hh => ?_) (fun i h hJ b hb o e => ?_) (fun i h hJ b hb => ?_) fun i v s Q E hJ hQ => wpAny_pure hQ)
      ?_ (fun b hb => by rw [List.mem_singleton.mp hb]; exact Nat.le_refl _) (fun b hb hO => ?_)
    · obtain ⟨t, rfl⟩ := hv
      have hi : i < n := by have := (List.getElem?_eq_some_iff.mp hd).1; simpa using this
      have : d = .int (0 + (i : Int) * 1) := by
        rw [List.getElem?_map, List.getElem?_range hi] at hd
        simp at hd; rw [← hd]; simp
      rw [this]; exact .int _ _
    · have hJ' : h.get? s.heap.objs.size = some _ := hJ
      rw [List.mem_singleton.mp hb, hJ'] at e; cases e; exact keep_fields rfl rfl
    · have hJ' : h.get? s.heap.objs.size = some _ := hJ
      rw [List.mem_singleton.mp hb]; exact ⟨_, hJ'⟩
    · have e1 : (0 : Int) + ((0 : Nat) : Int) * 1 = 0 := by simp
      show IsRangeIter _ _ _ _ _
      rw [e1, ← hlen, hsz]
      simp only [Int.natCast_zero, Int.sub_zero]
      exact Heap.get?_push_size _ rfl
    · rw [List.mem_singleton.mp hb] at hO
      exact st.freshV (List.mem_append.mpr (.inl hO))

/-- a block in the frame F, seen from f -/
def ExH (f F : Fm) (O : List (Addr × List Dat)) (ρ : List (Str × Slot)) (b : List Stmt) (Φ : Ot → Prop) : Prop :=
  ∀ (s : Shared) (E : Value → Shared → Prop), St F O ρ s → wpAny f.M f.A (execs b f.env) (Out f Φ) E s
theorem ExH.consM {V : List Addr} {K : List (Addr × Obj)} {D : List (List Value × List Dat)} {O₁ : List (Addr × List Dat)} {ρ₁ : List (Str × Slot)} {stm : Stmt} {rest : List Stmt} {Φ : Ot → Prop} (h : ExS (withF f V K D) O ρ stm fun o => ∃ ρ₂, o = .next O₁ ρ₂ ∧ Sub ρ₁ ρ₂) (h2 : ExH f (withF f V K D) O₁ ρ₁ rest Φ) : ExH f (withF f V K D) O ρ (stm :: rest) Φ := by
  intro s E st
  refine wpAny_execs_cons (wpAny_mono (h.run s E st) (fun fl s' ho => ?_) fun _ _ x => x)
  cases fl with
  | next =>
    obtain ⟨O', ρ', ⟨ρ₂, e, hs⟩, st'⟩ := ho
    cases e
    exact h2 s' E (st'.weak hs)
  | cont => obtain ⟨_, _, ⟨_, e, _⟩, _⟩ := ho; cases e
  | brk => obtain ⟨_, _, ⟨_, e, _⟩, _⟩ := ho; cases e
  | ret v => obtain ⟨_, ⟨_, e, _⟩, _⟩ := ho; cases e
/-- a name takes an iterator -/
theorem Ex.iterAs {x nI : Str} {e : Expr} {px np cp pos : Pos} {rest : List Stmt} {sl : Slot} {ds : List Dat} {d : Dat} (hk : Binds f x) (hf : EvS f O ρ (.Name nI np) (.val (.builtin "iter"))) (he : EvS f O ρ e sl)
    (hseq : ∀ s v, St f O ρ s → SlotIs (f.V O) s.heap sl v → SeqV (f.V O) s.heap v ds)
    (h : ∀ it V K D, (∀ nm tp, Held f O it (.Name nm tp) ds 0 V K D) → ExH f (withF f V K D) O (put ρ x (.val it)) rest (retIs d))
    (hs : swapsWith (.Call (.Name nI np) [e] [] cp) (some (.Name x px)) pos.line f.env = pure false := by rfl)
    (hns : starEach [e] f.env = (false, eval e f.env) :: starEach [] f.env := by rfl) (hpl : (backTo cp (starEach [e] f.env)).any (·.1) = false := by rfl) : Ex f O ρ (.Assign [.Name x px] (.Call (.Name nI np) [e] [] cp) pos :: rest) (retIs d) := by
  apply Ex.mk
  intro s E st
  refine wpAny_execs_cons (wpAny_Assign_Name (wpAny_Call_NameR (hf.run s _ _ st fun fv s₁ m₁ h₁ => ?_)) hs)
  have h₁' : fv = .builtin "iter" := h₁
  subst h₁'
  refine PySem.Calls.callWith_builtin hpl ?_
  rw [hns]
  refine PySem.Calls.evalArgs_plain (PySem.Calls.spliced_cons (he.run s₁ _ _ (st.mv m₁) fun v s₂ m₂ h₂ => PySem.Calls.spliced_nil ?_))
  have st2 := st.mv (m₁.trans m₂)
  refine iter_call (pyIter_seq st2 (hseq s₂ v st2 h₂) fun it s₃ vs es J fp wr m₃ hd ITA hJ hlo hfO => ?_)
  have st3 := st2.mv m₃
  have IT := ITA (Str.ofString "") default (O.map (·.1) ++ (wr ++ f.V₀)) fun b hb => List.mem_append.mpr (.inr (List.mem_append.mpr (.inl hb)))
  have lo0 : ∀ b ∈ wr, f.s₀.heap.objs.size ≤ b := fun b hb => by
    obtain ⟨mm, nn⟩ := st2.loc
    exact Nat.le_trans (Nat.le_trans st2.ok.fL (Nat.le_of_lt nn.lt)) (hlo b hb)
  have ent : St (withF f (wr ++ f.V₀) (objsAt s₃.heap fp ++ f.K) ((vs, es) :: f.D)) O ρ s₃ :=
    st3.enter st2 m₃ hlo (fun a ha => IT.ex 0 _ hJ a (IT.sub a ha)) (fun p hp => by
      obtain ⟨h1, h2⟩ := objsAt_mem hp
      exact ⟨h2, IT.fpOk 0 _ hJ _ h1 _ h2, hfO _ h1⟩) hd
  have HH : ∀ nm tp, Held f O it (.Name nm tp) ds 0 (wr ++ f.V₀) (objsAt s₃.heap fp ++ f.K) ((vs, es) :: f.D) := by
    intro nm tp
    refine ⟨vs, es, J, fp, wr, s₃.heap, rfl, rfl, rfl, ITA nm tp, hJ, lo0, hfO, fun p hp hw => ?_, fun a ha hw => ?_⟩
    · obtain ⟨e, _, _⟩ := st2.kep p hp
      exact absurd (Heap.lt_size e) (Nat.not_lt.mpr (hlo _ hw))
    · obtain ⟨o, e⟩ := st2.v0 a ha
      exact absurd (Heap.lt_size e) (Nat.not_lt.mpr (hlo _ hw))
  refine St.bind (f := withF f (wr ++ f.V₀) (objsAt s₃.heap fp ++ f.K) ((vs, es) :: f.D)) (sl := .val it) ent hk (show SlotIs _ _ (.val _) _ from rfl) fun s₄ st4 => ?_
  exact h it _ _ _ HH s₄ _ st4

/-- the loop over an iterator that a name holds -/
theorem ExH.forHeld {x : Str} {tgt : Expr} {np pos : Pos} {body rest : List Stmt} {it : Value} {ds : List Dat} {i : Nat} {V : List Addr} {K : List (Addr × Obj)} {D : List (List Value × List Dat)} {d : Dat} (H : Held f O it tgt ds i V K D) (hx : ρ.lookup x = some (.val it)) (hi : i ≤ ds.length)
    (I : Nat → List (Str × Slot) → Prop) (h0 : ∃ ρ₁, I i ρ₁ ∧ Sub ρ₁ ρ)
    (turn : ∀ K' j ρ' d, I j ρ' → ds[j]? = some d → ∃ ρ'', As (withF f V K' D) O ρ' tgt d ρ'' ∧ Ex (withF f V K' D) O ρ'' body (fun o => ∃ ρ₂ ρ₁, o = .next O ρ₂ ∧ I (j + 1) ρ₁ ∧ Sub ρ₁ ρ₂))
    (done : ∀ ρ', I ds.length ρ' → Ex f O ρ' rest (retIs d)) (hs : ∀ y, foldedSetIterable (.Name x np) f.env y = pure y := by intro _; rfl) (hxd : (x == ("__debug__" : Str)) = false := by decide) (hxc : (x == ("__classdict__" : Str)) = false := by decide) :
    ExH f (withF f V K D) O ρ (.For tgt (.Name x np) body [] pos :: rest) (retIs d) := by
  intro s E st
  obtain ⟨ρ₁, hI0, hsub⟩ := h0
  obtain ⟨vs, es, J, fp, wr, h0, rfl, rfl, rfl, ITA, hJ0, lo0, hfO, fKw, fVw⟩ := H.ex
  have IT := ITA (O.map (·.1) ++ (wr ++ f.V₀)) fun b hb => List.mem_append.mpr (.inr (List.mem_append.mpr (.inl hb)))
  have hJs : J i s.heap := IT.frame _ _ _ hJ0 fun b hb o e => (st.kep (b, o) (List.mem_append.mpr (.inl (mem_objsAt hb e)))).1
  refine wpAny_execs_cons (wpAny_For ((EvS.name (f := withF f (wr ++ f.V₀) (objsAt h0 fp ++ f.K) ((vs, es) :: f.D)) hx hxd hxc).run s _ _ st fun v s₁ m₁ hv => ?_) hs)
  have hv' : v = it := hv
  subst hv'
  have st1 := (st.mv m₁).weak hsub
  have hJ1 : J i s₁.heap := IT.frame _ _ _ hJ0 fun b hb o e => (st1.kep (b, o) (List.mem_append.mpr (.inl (mem_objsAt hb e)))).1
  refine IT.self i s₁ _ _ hJ1 ?_
  have reK : ∀ {O' ρ' t} {K₀ : List (Addr × Obj)} (j : Nat), St (withF f (wr ++ f.V₀) K₀ ((vs, es) :: f.D)) O ρ' t → (∀ p ∈ f.K, p ∈ K₀) → J j t.heap → O' = O → St (withF f (wr ++ f.V₀) (objsAt t.heap fp ++ f.K) ((vs, es) :: f.D)) O ρ' t := by
    intro O' ρ' t K₀ j st7 hK hJ7 _
    refine St.foreign (f := f) (wr := []) (h' := t.heap) (tk := t.toks) st7 (fun _ h => nomatch h) (fun _ h => nomatch h) (fun a ha => ha) (fun a ha => st7.v0 a ha) (fun p hp => hp) (fun p hp => ?_) (fun _ h => nomatch h) fun _ _ _ e => e
    rcases List.mem_append.mp hp with hp | hp
    · obtain ⟨h1, h2⟩ := objsAt_mem hp
      exact ⟨h2, IT.fpOk j _ hJ7 _ h1 _ h2, hfO _ h1⟩
    · exact st7.kep p (hK p hp)
  refine codeAny_forLoop_any (fun n s => ∃ i ρ', n = ds.length + 1 - i ∧ i ≤ ds.length ∧ I i ρ' ∧ J i s.heap ∧ St (withF f (wr ++ f.V₀) (objsAt s.heap fp ++ f.K) ((vs, es) :: f.D)) O ρ' s) ?_ (ds.length + 1 - i) ⟨i, ρ₁, rfl, hi, hI0, hJ1, reK (O' := O) i st1 (fun p hp => List.mem_append.mpr (.inr hp)) hJ1 rfl⟩
  rintro n s₂ ⟨i, ρ', rfl, hi, hI, hJi, st3⟩
  have vex : ∀ a ∈ O.map (·.1) ++ (wr ++ f.V₀), ∃ o, s₂.heap.get? a = some o := fun a ha => by
    rcases List.mem_append.mp ha with ha | ha
    · obtain ⟨p, hp, rfl⟩ := List.mem_map.mp ha
      obtain ⟨us, ⟨n, e⟩, _⟩ := st3.own p hp
      exact ⟨_, e⟩
    · exact st3.v0 a ha
  rcases Nat.lt_or_ge i ds.length with hlt | hge
  · have hd' : ds[i]? = some ds[i] := List.getElem?_eq_getElem hlt
    have hdata : HasL (O.map (·.1) ++ (wr ++ f.V₀)) s₂.heap vs es := st3.dat (vs, es) List.mem_cons_self
    refine wpAny_mono (IT.item i ds[i] s₂ (fun v s₄ => ∃ h' tk, s₄ = { s₂ with heap := h', toks := tk } ∧ J (i + 1) h' ∧ Has (O.map (·.1) ++ (wr ++ f.V₀)) h' v ds[i] ∧ (∀ b o, b ∉ wr → s₂.heap.get? b = some o → h'.get? b = some o)) (notedBy (model f.prog f.w) f.A f.env _) hd' hJi hdata vex
      (fun v h' tk hJ' hv' hk' => ⟨h', tk, rfl, hJ', hv', hk'⟩)) (fun r s₄ hr => ?_) fun _ _ x => x
    obtain ⟨v, rfl, hr⟩ := hr
    refine wpAny_mono hr (fun _ s₅ h5 => ?_) fun _ _ x => x
    obtain ⟨h', tk, rfl, hJ', hv', hk'⟩ := h5
    have st4 : St (withF f (wr ++ f.V₀) (objsAt h' fp ++ f.K) ((vs, es) :: f.D)) O ρ' { s₂ with heap := h', toks := tk } := by
      refine St.foreign (f := f) st3 lo0 (fun b hb => List.mem_append.mpr (.inl hb)) (fun a ha => ha) (fun a ha => ?_) (fun p hp => hp) (fun p hp => ?_) (fun b hb o e => IT.fpOk i _ hJi b (IT.sub b hb) o e) hk'
      · rcases List.mem_append.mp ha with ha | ha
        · exact IT.ex (i + 1) _ hJ' a (IT.sub a ha)
        · obtain ⟨o, e⟩ := st3.v0 a (List.mem_append.mpr (.inr ha))
          exact ⟨o, hk' a o (fVw a ha) e⟩
      · rcases List.mem_append.mp hp with hp | hp
        · obtain ⟨h1, h2⟩ := objsAt_mem hp
          exact ⟨h2, IT.fpOk (i + 1) _ hJ' _ h1 _ h2, hfO _ h1⟩
        · obtain ⟨e, b, c⟩ := st3.kep p (List.mem_append.mpr (.inr hp))
          exact ⟨hk' _ _ (fKw p hp) e, b, c⟩
    obtain ⟨ρ'', has, hex⟩ := turn (objsAt h' fp ++ f.K) i ρ' ds[i] hI hd'
    refine has _ v _ _ st4 hv' fun s₆ st6 => ?_
    refine wpAny_mono (hex.run s₆ _ st6) (fun fl s₇ ho => ?_) fun _ _ x => x
    cases fl with
    | next =>
      obtain ⟨O₁, ρ₁', ⟨ρ₂, ρ₃, e, hI2, hs2⟩, st7⟩ := ho
      cases e
      have st7' := st7.weak hs2
      have hJ7 : J (i + 1) s₇.heap := IT.frame _ _ _ hJ' fun b hb o e => (st7.kep (b, o) (List.mem_append.mpr (.inl (mem_objsAt hb e)))).1
      exact ⟨ds.length + 1 - (i + 1), by omega, i + 1, ρ₃, rfl, hlt, hI2, hJ7, reK (O' := O) (i + 1) st7' (fun p hp => List.mem_append.mpr (.inr hp)) hJ7 rfl⟩
    | cont => obtain ⟨_, _, ⟨_, _, e, _⟩, _⟩ := ho; cases e
    | brk => obtain ⟨_, _, ⟨_, _, e, _⟩, _⟩ := ho; cases e
    | ret v => obtain ⟨_, ⟨_, _, e, _⟩, _⟩ := ho; cases e
  · have hie : i = ds.length := Nat.le_antisymm hi hge
    subst hie
    refine wpAny_mono (IT.done s₂ (fun s₄ => ∃ h' tk, s₄ = { s₂ with heap := h', toks := tk } ∧ ∀ b o, b ∉ wr → s₂.heap.get? b = some o → h'.get? b = some o) (notedBy (model f.prog f.w) f.A f.env _) hJi fun h' tk hk' => ⟨h', tk, rfl, hk'⟩) (fun r s₄ hr => ?_) fun _ _ x => x
    obtain ⟨rfl, h', tk, rfl, hk'⟩ := hr
    refine wpAny_execs_nil ?_
    have st5 : St f O ρ' { s₂ with heap := h', toks := tk } := by
      refine St.foreign (f := f) (V' := f.V₀) (K' := f.K) (D' := f.D) st3 lo0 (fun b hb => List.mem_append.mpr (.inl hb)) (fun a ha => List.mem_append.mpr (.inr ha)) (fun a ha => ?_) (fun p hp => List.mem_cons_of_mem _ hp) (fun p hp => ?_) (fun b hb o e => IT.fpOk _ _ hJi b (IT.sub b hb) o e) hk'
      · obtain ⟨o, e⟩ := st3.v0 a (List.mem_append.mpr (.inr ha))
        exact ⟨o, hk' a o (fVw a ha) e⟩
      · obtain ⟨e, b, c⟩ := st3.kep p (List.mem_append.mpr (.inr hp))
        exact ⟨hk' _ _ (fKw p hp) e, b, c⟩
    exact (done ρ' hI).run _ _ st5
end
end Mine

namespace Mine
section
variable {f : Fm} {O : List (Addr × List Dat)} {ρ : List (Str × Slot)}
theorem Tr.isNot {l r : Expr} {pos : Pos} {ds : List Dat} {b : Addr} {o : Obj} (hl : Ev f O ρ l (.list ds)) (hr : EvS f O ρ r (.val (.ref b))) (ho : f.G.get? b = some o) (hd : ∀ items n, o.data ≠ .seq items n) (hm : behindInMarks .Is r = false := by with_unfolding_all rfl) : Tr f O ρ (.Compare l [.Is] [r] pos) false := by
  apply Tr.mk
  intro s Q E st k
  refine wpAny_isTrue_Compare1 (hl.run s _ _ st fun va s₁ m₁ h₁ => hr.run s₁ _ _ (st.mv m₁) fun vb s₂ m₂ h₂ => ?_) hm
  have h₂' : vb = .ref b := h₂
  subst h₂'
  have h₁' := h₁.mv m₂
  have st2 := st.mv (m₁.trans m₂)
  have eb := st2.bel.stays _ _ ho
  cases h₁' with
  | list i1 n1 hl =>
    obtain ⟨n, e⟩ := i1
    refine kto_is e eb ?_ (by intro h; injection h with h; exact absurd h (by decide)) (wpAny_truthy_bool (k _ (m₁.trans m₂)))
    rintro rfl
    rw [e] at eb; cases eb
    exact hd _ _ rfl
/-- a function that a name holds is called -/
theorem Ev.callFn {x : Str} {fa : Addr} {np pos : Pos} {e : Expr} {es : List Expr} {ds : List Dat} {d : Dat} {lvl : Nat} {V₀ : List Addr} {R : List Dat → Dat → Prop} (hf : EvS f O ρ (.Name x np) (.val (.ref fa))) (FN : FnAt f.prog f.w f.mg f.mb f.G lvl f.s₀ V₀ fa R) (hV : ∀ a ∈ f.V O, a ∈ V₀ ∨ f.s₀.heap.get? a = none)
    (ha : EvL f O ρ (e :: es) ds) (hR : R ds d) (hd : f.A.depth + lvl < recursionLimit) (hu : f.A.units + 40 * lvl + 100 < cLine) (hns : starEach (e :: es) f.env = (false, eval e f.env) :: starEach es f.env := by rfl) : Ev f O ρ (.Call (.Name x np) (e :: es) [] pos) d := by
  apply Ev.mk
  intro s Q E st k
  refine wpAny_Call_NameR (hf.run s _ _ st fun fv s₁ m₁ h₁ => ?_)
  have h₁' : fv = .ref fa := h₁
  subst h₁'
  obtain ⟨o, fd, eo, od, oc⟩ := FN.fn
  refine PySem.Calls.callWith_function (o := o) (fd := fd) (ha.args (st.mv m₁) hns fun vs s₂ m₂ h₂ => ?_)
  have st2 := st.mv (m₁.trans m₂)
  refine ⟨⟨st2.frm.exactD eo (tabB_cls (by rw [oc]; exact fun h => nomatch h)) (fun es ep h => by rw [od] at h; cases h), od⟩, ?_⟩
  refine FN.run f.A f.outer (f.V O) s₂ vs ds d Q E f.Wc st2.frm hV ⟨st2.bel, st2.ok.hh, hd, hu, st2.ok.bas, st2.frD, fun a ha => ?_, st2.tab⟩ h₂ hR fun v s₃ m₃ h₃ => k v s₃ (m₁.trans (m₂.trans m₃)) h₃
  rcases List.mem_append.mp ha with ha | ha
  · obtain ⟨p, hp, rfl⟩ := List.mem_map.mp ha
    obtain ⟨vs, ⟨n, e⟩, _⟩ := st2.own p hp
    exact ⟨_, e⟩
  · exact st2.v0 a ha
end

abbrev envD (scope : Scope) (cd : Value) (q : Str) (L fa : Addr) : Env := newEnv scope L mainGlobals [] (q ++ ".<locals>.") (some fa) cd none builtinsNs
/-- a def is entered -/
theorem enter_def {prog : Program} {w : World} {mg mb : Str → Option Value} {G : Heap} {lvl : Nat} {A : Around} {outer : List Env} {V : List Addr} {s : Shared} {fa : Addr} {o : Obj} {fd : FuncData} {body : List Stmt} {vs : List Value} {binds : List (Str × Value)} {ρ : List (Str × Slot)} {K : List (Addr × Obj)} {d : Dat} {Q E : Value → Shared → Prop}
    (pre : Pre mg mb G lvl A outer V s) (hlvl : 1 ≤ lvl) (ho : G.get? fa = some o) (hdata : o.data = .func fd) (hcd : G.CodeRec fd.code fd.qualname) (hbody : fd.body = .stmts body) (hclo : fd.closure = []) (hgl : fd.globals = mainGlobals) (hbi : fd.builtins = builtinsNs)
    (hbind : BindsTo s fd ⟨vs, []⟩ binds) (hcell : ∀ x ∈ fd.scope.names, x.2 ≠ .cell) {ps : List Str} (hps : binds.map (·.1) = ps) (hlocA : ps.all (fun p => fd.scope.names.lookup p == some .local) = true) (hnd : ps.Nodup) (hvars : ∀ x sl, ρ.lookup x = some sl → ∃ v, (x, v) ∈ binds ∧ SlotIs V s.heap sl v)
    (hK : ∀ p ∈ K, s.heap.get? p.1 = some p.2 ∧ KeepOk p.2) (hco : fd.scope.isCoroutine = false) (hgen : fd.scope.isGenerator = false) (hk : fd.scope.kind = .function)
    (h : ∀ L : Addr, Ex { mkF prog w mg mb G A (envD fd.scope fd.code fd.qualname L fa) outer V s with K := K } [] ρ body (retIs d))
    (k : ∀ v s', Mv G (outer.filterMap (·.frame)) s s' → Has V s'.heap v d → Q v s') : wpAny (model prog w) A (call (.ref fa) vs) Q E s := by
  have hloc : ∀ x ∈ binds, fd.scope.names.lookup x.1 = some .local := fun x hx => by
    have := List.all_eq_true.mp hlocA x.1 (hps ▸ List.mem_map.mpr ⟨x, hx, rfl⟩)
    simpa using this
  refine wpAny_call (codeAny_call_def (binds := binds) (by have := pre.dep; omega) (pre.bel.stays _ _ ho) hdata (pre.bas.lim.keeps pre.bel.stays) (hcd.keeps pre.bel.stays) hbody hbind hcell hloc (fun h₁ hns keep => ?_) hco hgen hk)
  have henv : callEnv fd s.heap.objs.size fa = envD fd.scope fd.code fd.qualname s.heap.objs.size fa := by
    unfold callEnv; rw [hgl, hbi, hclo]
  rw [henv]
  have ex := h s.heap.objs.size
  generalize hE : envD fd.scope fd.code fd.qualname s.heap.objs.size fa = env at ex ⊢
  have hlocA : env.locals = s.heap.objs.size := by rw [← hE]; rfl
  have hfr : env.frame = some s.heap.objs.size := by rw [← hE]; rfl
  have hsc : env.scope = fd.scope := by rw [← hE]; rfl
  have hcle : env.cells = [] := by rw [← hE]; rfl
  have hkk : ∀ x, env.kindOf x = fd.scope.names.lookup x := fun x => by show env.scope.names.lookup x = _; rw [hsc]
  have noG : G.get? s.heap.objs.size = none := pre.bel.stays.fresh
  obtain ⟨oL, es, ep, eL, dL, rL⟩ := id hns
  have mv1 : Mv G (outer.filterMap (·.frame)) s { s with heap := h₁, toks := s.toks + binds.length } := Mv.of_keep keep
  have st : St { mkF prog w mg mb G A env outer V s with K := K } [] ρ { s with heap := h₁, toks := s.toks + binds.length } := by
    refine { ok := ⟨pre.hh, by rw [hsc]; exact hk, by rw [← hE]; rfl, by rw [← hE]; rfl, pre.bas, pre.bel.stays, by rw [hlocA]; exact Nat.le_refl _, by rw [hcle]; exact .nil, (fun _ n c hc => by rw [hcle] at hc; cases hc), fun a ha => ?_⟩,
             bel := ⟨trivial, fun b o e => keep b o (pre.bel.stays b o e), ?_⟩, frm := mv1, loc := ⟨_, by rw [hlocA]; exact hns⟩, cel := fun n c hc => by rw [hcle] at hc; simp at hc, vars := fun x sl hx => ?_, own := fun p hp => (nomatch hp), nod := List.nodup_nil, fO := fun p hp => (nomatch hp),
             v0 := fun a ha => let ⟨o, e⟩ := pre.v0 a ha; ⟨o, keep a o e⟩, frD := fun a ha => ?_, kep := fun p hp => ⟨keep _ _ (hK p hp).1, (hK p hp).2, by simp⟩, dat := fun p hp => (nomatch hp), oV := fun p hp => (nomatch hp), tab := mv1.tabs pre.tab }
    · have : (env :: outer).filterMap (·.frame) = s.heap.objs.size :: outer.filterMap (·.frame) := by simp [hfr]
      rw [show ({ mkF prog w mg mb G A env outer V s with K := K } : Fm).W = (env :: outer).filterMap (·.frame) from rfl, this] at ha
      rcases List.mem_cons.mp ha with rfl | ha
      · exact .inr (Nat.le_refl _)
      · exact .inl ha
    · refine ⟨by rw [hsc, hk]; decide, ⟨s.heap.objs.size, oL, hfr, noG, eL, fun vs q => by rw [dL] at q; cases q⟩, pre.bel.frames.of_keeps fun b o e _ => ⟨o, keep b o e, rfl⟩⟩
    · obtain ⟨v, hm, hs⟩ := hvars x sl hx
      refine ⟨v, .inl ⟨by rw [hkk]; exact hloc _ hm, _, by rw [hlocA]; exact hns, ?_⟩, hs.keep mv1.dkeep⟩
      exact lookup_nodup (by rw [List.map_reverse, hps]; exact List.pairwise_reverse.mpr (hnd.imp fun h => h.symm)) (List.mem_reverse.mpr hm)
    · have : (env :: outer).filterMap (·.frame) = s.heap.objs.size :: outer.filterMap (·.frame) := by simp [hfr]
      rw [show ({ mkF prog w mg mb G A env outer V s with K := K } : Fm).W = (env :: outer).filterMap (·.frame) from rfl, this] at ha
      rcases List.mem_cons.mp ha with rfl | ha
      · exact ⟨oL, es, ep, eL, dL⟩
      · obtain ⟨o, es', ep', e, d'⟩ := pre.frD a ha
        exact ⟨o, es', ep', keep a o e, d'⟩
  refine wpAny_mono (ex.run _ _ st) (fun fl s' hq => ?_) fun _ _ x => x
  cases fl with
  | next => obtain ⟨_, _, hf, _⟩ := hq; exact absurd hf id
  | brk => obtain ⟨_, _, hf, _⟩ := hq; exact absurd hf id
  | cont => obtain ⟨_, _, hf, _⟩ := hq; exact absurd hf id
  | ret v =>
    obtain ⟨d', hd', hv', hm'⟩ := hq
    have : d' = d := hd'
    subst this
    exact k v s' hm' hv'
end Mine

namespace Mine
/-! ## what the law's first lines want -/
def pkI {α : Type} (l : List α) (is : List Nat) : List α := is.filterMap (l[·]?)
def pk {α : Type} (l : List α) (lo hi st : Option Int) : List α := pkI l (sliceRange (sliceBounds lo hi st l.length).1 (sliceBounds lo hi st l.length).2.1 (sliceBounds lo hi st l.length).2.2)
theorem slicePick_pk (vs : List Value) (lo hi st : Option Int) : slicePick vs.toArray lo hi st = (pk vs lo hi st).toArray := by
  unfold slicePick pk pkI
  simp
theorem HasL.pickI {V : List Addr} {h : Heap} {vs : List Value} {ds : List Dat} (x : HasL V h vs ds) : ∀ is : List Nat, HasL V h (pkI vs is) (pkI ds is)
  | [] => .nil
  | i :: is => by
    have ih := HasL.pickI x is
    unfold pkI at ih ⊢
    cases hv : vs[i]? with
    | none =>
      have hd : ds[i]? = none := by
        rw [List.getElem?_eq_none_iff] at hv ⊢
        rw [← x.length]; exact hv
      rw [List.filterMap_cons_none hv, List.filterMap_cons_none hd]
      exact ih
    | some v =>
      obtain ⟨d, hd, hx⟩ := x.getV hv
      rw [List.filterMap_cons_some hv, List.filterMap_cons_some hd]
      exact .cons hx ih
theorem HasL.pick {V : List Addr} {h : Heap} {vs : List Value} {ds : List Dat} (x : HasL V h vs ds) (lo hi st : Option Int) : HasL V h (pk vs lo hi st) (pk ds lo hi st) := by
  unfold pk
  rw [x.length]
  exact x.pickI _
theorem pk_map {α β : Type} (g : α → β) (l : List α) (lo hi st : Option Int) : pk (l.map g) lo hi st = (pk l lo hi st).map g := by
  unfold pk
  rw [List.length_map]
  generalize sliceRange _ _ _ = is
  induction is with
  | nil => rfl
  | cons i is ih =>
    unfold pkI at ih ⊢
    cases h : l[i]? with
    | none => rw [List.filterMap_cons_none (by simp [h]), List.filterMap_cons_none h, ih]
    | some a => rw [List.filterMap_cons_some (b := g a) (by simp [h]), List.filterMap_cons_some h, ih]; rfl
theorem pk_length {α : Type} (l : List α) (lo hi st : Option Int) : (pk l lo hi st).length ≤ l.length := by
  have h := slicePick_size_le (Array.replicate l.length Value.none) lo hi st
  unfold slicePick at h
  simp only [Array.size_replicate, List.size_toArray] at h
  refine Nat.le_trans (Nat.le_of_eq ?_) h
  unfold pk pkI
  generalize sliceRange _ _ _ = is
  induction is with
  | nil => rfl
  | cons i is ih =>
    rcases Nat.lt_or_ge i l.length with hi | hi
    · rw [List.filterMap_cons_some (List.getElem?_eq_getElem hi), List.filterMap_cons_some (b := Value.none) (by simp [hi])]
      simp [ih]
    · rw [List.filterMap_cons_none (List.getElem?_eq_none hi), List.filterMap_cons_none (by simp [hi])]
      exact ih

section
variable {f : Fm} {O : List (Addr × List Dat)} {ρ : List (Str × Slot)} {e l r value : Expr} {pos p : Pos} {lower upper step : Option Expr} {lo hi st : Option Int} {d : Dat}
/-- a list's part with a step -/
theorem Ev.sliceStep {ds : List Dat} (hv : Ev f O ρ value (.list ds)) (hlo : EvP f O ρ lower lo) (hhi : EvP f O ρ upper hi) (hst : EvP f O ρ step st) (h0 : st ≠ some 0) (hsz : ds.length ≤ sizeLine) (hsub : ∀ o j, ∃ l, subscripted (.Slice lower upper step p) false o j = operate l (getItem o j) := by intro o j; exact ⟨_, rfl⟩) : Ev f O ρ (.Subscript value (.Slice lower upper step p) pos) (.list (pk ds lo hi st)) := by
  apply Ev.mk
  intro s Q E st0 k
  refine Subscript_ (hv.run s _ _ st0 fun v s₁ m₁ h₁ => wpAny_Slice (hlo.run (st0.mv m₁) fun vl s₂ m₂ h₂ => hhi.run (st0.mv (m₁.trans m₂)) fun vu s₃ m₃ h₃ => hst.run (st0.mv (m₁.trans (m₂.trans m₃))) fun vt s₄ m₄ h₄ => ?_))
  have h₁' := h₁.mv (m₂.trans (m₃.trans m₄))
  have st₃ := st0.mv (m₁.trans (m₂.trans (m₃.trans m₄)))
  cases h₁' with
  | list i1 n1 hl =>
    rename_i ad vs
    obtain ⟨ql, rfl, rfl⟩ := h₂
    obtain ⟨qu, rfl, rfl⟩ := h₃
    obtain ⟨qt, rfl, rfl⟩ := h₄
    let s4 : Shared := { s₄ with heap := s₄.heap.push { cls := .type "slice", data := .fields #[partValue ql, partValue qu, partValue qt] } }
    have il : s4.heap.IsList ad vs.toArray := (i1.at fun o e => Heap.get?_push_of_some _ e).isList
    obtain ⟨ops, hops⟩ := hsub (.ref ad) (.ref s₄.heap.objs.size)
    refine tail_any (ops := ops) (s := s4) il.typeIs slot_list_getitem.lookup ?_ hops
    have m4 : Mv f.G f.W s₄ s4 := .push _
    refine wpAny_getItem_list_slice (s := s4) il (Heap.IsSliceOf.new ..) (isPart_of ql) (isPart_of qu) (isPart_of qt) h0 ?_ (by simpa [hl.length] using hsz)
    rw [slicePick_pk]
    exact k _ _ (m₁.trans (m₂.trans (m₃.trans (m₄.trans (m4.trans (.push _)))))) (newL (st₃.mv m4) ((hl.mv m4).pick _ _ _))

theorem preSum_take (xs : List Int) (val : Nat → Int) (h : ∀ i (hi : i < xs.length), val i = xs[i]) : ∀ n, n ≤ xs.length → preSum val n = (xs.take n).sum
  | 0, _ => by simp [preSum]
  | n + 1, hn => by
    rw [preSum, preSum_take xs val h n (by omega), h n (by omega), List.take_add_one, List.getElem?_eq_getElem (by omega)]
    simp only [Option.toList_some, List.sum_append, List.sum_cons, List.sum_nil, Int.add_zero]
/-- the sum of a list of numbers -/
theorem OpN.sum {xs : List Int} : OpN f O ρ (fun vs => call (.builtin "sum") vs) [.list (xs.map .int)] (.int xs.sum) := by
  intro s vs Q E st hv k
  cases hv with
  | cons h1 h2 =>
    cases h2
    obtain ⟨a, vs, rfl, i1, n1, l1⟩ := h1.lists
    have hne : a ≠ s.heap.objs.size := by
      obtain ⟨n, e⟩ := i1
      exact Nat.ne_of_lt (Heap.lt_size e)
    refine call_sum_walkAnyS (wpAny_pyIter_list i1.isList ?_)
    have W := Walks.list (prog := f.prog) (w := f.w) (A := f.A.in1) st.ok.hh s.heap.objs.size a hne vs.toArray
    refine ⟨s.heap.objs.size, _, _, _, _, _, _, fun i => (xs[i]?).getD 0, rfl, W.toS, ?_, ?_, fun i v hv => ?_, fun s' t' hm => ?_⟩
    · exact ⟨⟨_, Heap.get?_push_size _ rfl, rfl, rfl⟩, (i1.at fun o e => Heap.get?_push_of_some _ e).isList⟩
    · intro b hb
      show b < (s.heap.push _).objs.size
      rw [Heap.size_push]
      rcases List.mem_cons.mp hb with rfl | hb
      · exact Nat.lt_succ_self _
      · rw [List.mem_singleton.mp hb]
        obtain ⟨n, e⟩ := i1
        exact Nat.lt_succ_of_lt (Heap.lt_size e)
    · obtain ⟨d, hd, hx⟩ := l1.getV (k := i) (by simpa using hv)
      rw [List.getElem?_map] at hd
      obtain ⟨x, hx1, rfl⟩ := Option.map_eq_some_iff.mp hd
      cases hx
      exact ⟨_, by simp only [hx1]; rfl⟩
    · have hlen : vs.toArray.size = xs.length := by rw [List.size_toArray, l1.length, List.length_map]
      have e1 : preSum (fun i => (xs[i]?).getD 0) vs.toArray.size = xs.sum := by
        rw [hlen, preSum_take xs _ (fun i hi => by simp [hi]) _ (Nat.le_refl _), List.take_length]
      rw [e1]
      have m0 : Mv f.G f.W s { s with heap := s.heap.push { cls := .type "list_iterator", data := .fields #[.ref a, .int 0 0] } } := .push _
      refine k _ _ ?_ (.int _ _)
      obtain ⟨hmH, hmG, hmD, hmO, _⟩ := hm
      refine ⟨⟨s'.heap, s'.toks, s.gens, ?_, .inl rfl⟩, fun q => by first | exact hmG ▸ q | (rw [← hmG]; exact q) | (rw [hmG]; exact q), fun b o e => ?_⟩
      · cases s'
        simp only at hmG hmD hmO
        simp [← hmG, hmD, hmO]
      · have keep : ∀ b o, s.heap.get? b = some o → s'.heap.get? b = some o := fun b o e => hmH b o (by
          intro hw
          have := Heap.lt_size e
          rw [List.mem_singleton.mp hw] at this
          exact Nat.lt_irrefl _ this) (Heap.get?_push_of_some _ e)
        exact (Mv.of_keep (X := f.G) (W := f.W) (s := s) (tk := 0) keep).2.2 b o e
theorem Op2.pow2 {n : Int} (h0 : 0 ≤ n) (h1 : n ≤ 1000000) : Op2 f O ρ (binaryOp .Pow) (.int 2) (.int n) (.int (2 ^ n.toNat)) := by
  intro s va vb Q E st ha hb k
  cases ha; cases hb
  exact pow_int_small h0 h1 (by decide) (k _ _ (.toks _) (.int _ _))
/-- both, as a value -/
theorem Ev.andB {e1 e2 : Expr} {a b : Bool} (h1 : Ev f O ρ e1 (.bool a)) (h2 : a = true → Ev f O ρ e2 (.bool b)) : Ev f O ρ (.BoolOp .And [e1, e2] pos) (.bool (a && b)) := by
  apply Ev.mk
  intro s Q E st k
  refine BoolOp_and (h1.run s _ _ st fun v s₁ m₁ hv => ?_)
  cases hv
  refine wpAny_truthy_bool ?_
  cases a with
  | false => exact k _ s₁ m₁ (.bool _)
  | true =>
    refine BoolOp_one ((h2 rfl).run s₁ _ _ (st.mv m₁) fun v s₂ m₂ hv => k v s₂ (m₁.trans m₂) ?_)
    simpa using hv
/-- a list again and again -/
theorem Op2.mulList {ds : List Dat} {n : Int} (h0 : 0 ≤ n) (h1 : n ≤ 1000) (hl : ds.length ≤ 1000) : Op2 f O ρ (binaryOp .Mult) (.list ds) (.int n) (.list (List.replicate n.toNat ds).flatten) := by
  intro s va vb Q E st ha hb k
  cases hb
  rename_i u
  obtain ⟨a, vs, rfl, ⟨ne, i1⟩, n1, l1⟩ := ha.lists
  have hvl : vs.toArray.size = ds.length := by rw [List.size_toArray, l1.length]
  have hsz : vs.toArray.size * n.toNat ≤ 2 ^ 24 := by
    rw [hvl]
    exact Nat.le_trans (Nat.mul_le_mul hl (show n.toNat ≤ 1000 by omega)) (by decide)
  refine wpAny_binaryOp_repeat_ref (T := "list") (U := "int") (by decide) ⟨_, i1, rfl⟩ (fun s' => typeIs_int s' n u) noFill_list_mul F.fills_int_mul F.slot_int_rmul repeat_list F.slot_int_index.lookup
    (call_meets F.slot_int_rmul (typeIs_int s n u) F.entry_int_rmul (F.args_int_rmul_2 _ _) (lm_int_rmul_list_any n u a vs.toArray ne none #[])
      ⟨i1, rfl, ⟨_, i1, rfl⟩, call_meets F.slot_list_mul ⟨_, i1, rfl⟩ F.entry_list_mul (F.args_list_mul_2 _ _)
        (lm_list_mul_any a vs.toArray ne none #[] n u (by simp [Builtin.List.listFitsIndex]; omega) (by omega) (by simp [Builtin.List.listTooLong, sizeLine]; omega))
        ⟨i1, ?_⟩⟩)
  rw [listMul_foldl_if]
  refine k _ _ (.push _) (newL st ?_)
  clear hsz
  induction n.toNat with
  | zero => exact .nil
  | succ m ih =>
    rw [List.replicate_succ, List.replicate_succ, List.flatten_cons, List.flatten_cons]
    exact HasL.append (by simpa using l1) ih

/-- the lists of the block's own become data -/
def Frz (O : List (Addr × List Dat)) (ρ ρ' : List (Str × Slot)) : Prop := ∀ x sl, ρ'.lookup x = some sl → ρ.lookup x = some sl ∨ ∃ ad ds, ρ.lookup x = some (.val (.ref ad)) ∧ (ad, ds) ∈ O ∧ sl = .dat (.list ds)
theorem Frz.nil : Frz O ρ [] := fun _ _ h => by simp at h
theorem Frz.cons {x : Str} {sl : Slot} {ρ' : List (Str × Slot)} (h : ρ.lookup x = some sl) (t : Frz O ρ ρ') : Frz O ρ ((x, sl) :: ρ') := fun y sl' hy => by
  rw [List.lookup_cons] at hy
  split at hy
  · rename_i hb; cases hy; rw [eq_of_beq hb]; exact .inl h
  · exact t y sl' hy
theorem Frz.own {x : Str} {ad : Addr} {ds : List Dat} {ρ' : List (Str × Slot)} (h : ρ.lookup x = some (.val (.ref ad))) (hm : (ad, ds) ∈ O) (t : Frz O ρ ρ') : Frz O ρ ((x, .dat (.list ds)) :: ρ') := fun y sl' hy => by
  rw [List.lookup_cons] at hy
  split at hy
  · rename_i hb; cases hy; rw [eq_of_beq hb]; exact .inr ⟨ad, ds, h, hm, rfl⟩
  · exact t y sl' hy
theorem Ex.freeze {ρ' : List (Str × Slot)} {b : List Stmt} {Φ : Ot → Prop} (hf : Frz O ρ ρ') (h : Ex f [] ρ' b Φ) : Ex f O ρ b Φ := by
  apply Ex.mk
  intro s E st
  refine h.run s E ?_
  have dk : DKeep (f.V O) (f.V []) s.heap s.heap := by
    have : ∀ a, a ∉ f.V O → a ∉ f.V [] := fun a ha h => ha (List.mem_append.mpr (.inr (by simpa using h)))
    exact ⟨fun a items ha hi => ⟨hi, this a ha⟩, fun a items ha hi => ⟨hi, this a ha⟩⟩
  refine { st with vars := fun x sl hx => ?_, own := fun p hp => (nomatch hp), nod := List.nodup_nil, fO := fun p hp => (nomatch hp), kep := fun p hp => ⟨(st.kep p hp).1, (st.kep p hp).2.1, by simp⟩, oV := fun p hp => (nomatch hp), dat := fun p hp => (st.dat p hp).keep dk }
  rcases hf x sl hx with h | ⟨ad, ds, h, hm, rfl⟩
  · obtain ⟨v, h1, h2⟩ := st.vars x sl h
    exact ⟨v, h1, h2.keep dk⟩
  · obtain ⟨v, h1, h2⟩ := st.vars x _ h
    have h2' : v = .ref ad := h2
    subst h2'
    obtain ⟨vs, i1, hl⟩ := st.own _ hm
    exact ⟨_, h1, .list i1 (by simpa using st.oV _ hm) (hl.keep dk)⟩
end
end Mine

namespace Mine
/-! ## zip of three lists -/
abbrev IsTrip (h : Heap) (T : Addr) (a b c : Value) : Prop := h.get? T = some { cls := .type "tuple", data := .seq #[a, b, c] }
theorem zip3_type (a b c : Value) : checkTypeCall "zip" ⟨[a, b, c], []⟩ = pure () := by kernel_rfl
theorem zip3_new (a b c : Value) : checkBuiltinCall "zip.__new__" ⟨[.type "zip", a, b, c], []⟩ = pure () := by kernel_rfl
theorem zip3_init (a b c d : Value) : argsOk "object.__init__" ⟨[a, b, c, d], []⟩ := by
  unfold argsOk; rw [signature?_of (id := "object.__init__") (n := ['_', '_', 't', 'i', 'n', 'i', '_', '_']) (o := ['t', 'c', 'e', 'j', 'b', 'o']) (by kernel_rfl) F.owner_object]; kernel_rfl

abbrev z3A (h : Heap) (l1 : Addr) : Heap := h.push { cls := .type "list_iterator", data := .fields #[.ref l1, .int 0 0] }
abbrev z3B (h : Heap) (l1 l2 : Addr) : Heap := (z3A h l1).push { cls := .type "list_iterator", data := .fields #[.ref l2, .int 0 0] }
abbrev z3C (h : Heap) (l1 l2 l3 : Addr) : Heap := (z3B h l1 l2).push { cls := .type "list_iterator", data := .fields #[.ref l3, .int 0 0] }
abbrev z3D (h : Heap) (l1 l2 l3 : Addr) : Heap := (z3C h l1 l2 l3).push { cls := .type "tuple", data := .seq #[.ref h.objs.size, .ref (z3A h l1).objs.size, .ref (z3B h l1 l2).objs.size] }
abbrev z3E (h : Heap) (l1 l2 l3 : Addr) : Heap := (z3D h l1 l2 l3).push { cls := .type "tuple", data := .seq #[.none, .none, .none] }
abbrev z3F (h : Heap) (l1 l2 l3 : Addr) : Heap := (z3E h l1 l2 l3).push { cls := .type "zip", data := .fields #[.none, .bool false, .bool false, .ref (z3C h l1 l2 l3).objs.size, .ref (z3D h l1 l2 l3).objs.size] }
set_option maxHeartbeats 8000000 in
theorem meets_zip3 (l1 l2 l3 : Addr) (xs ys zs : Array Value) :
    Meets (Builtin.«zip.__new__» ⟨[.type "zip", .ref l1, .ref l2, .ref l3], []⟩) (fun _ R s => s.heap.IsList l1 xs ∧ s.heap.IsList l2 ys ∧ s.heap.IsList l3 zs ∧
      R (.ok (.ret (.ref (z3E s.heap l1 l2 l3).objs.size))) { s with heap := z3F s.heap l1 l2 l3 }) :=
  .of_wp fun prog w A R s h => by
    obtain ⟨hp, g, d, tk, os⟩ := s; obtain ⟨hl1, hl2, hl3, h⟩ := h
    have hsub := sub_zip
    have hL1 : Heap.IsList (Shared.heap ⟨hp, g, d, tk, os⟩) l1 xs := hl1
    have hL2 : Heap.IsList (Shared.heap ⟨hp.push { cls := .type "list_iterator", data := .fields #[.ref l1, .int 0 0] }, g, d, tk, os⟩) l2 ys := Heap.IsList.push hl2 _
    have hL3 : Heap.IsList (Shared.heap ⟨(hp.push { cls := .type "list_iterator", data := .fields #[.ref l1, .int 0 0] }).push { cls := .type "list_iterator", data := .fields #[.ref l2, .int 0 0] }, g, d, tk, os⟩) l3 zs := Heap.IsList.push (Heap.IsList.push hl3 _) _
    wp_walk using wpAny_pyIter_list hL1, wpAny_pyIter_list hL2, wpAny_pyIter_list hL3
    exact ⟨_, rfl, h⟩

/-- the state of the walk: the iterators N, N+1, N+2, their tuple N+3, the owned tuple N+4, the zip N+5 -/
structure Z3 (h : Heap) (N l1 l2 l3 : Nat) (k : Nat) (f0 : Value) (xs ys zs : Array Value) : Prop where
  z : IsZip h (N + 5) (N + 3) (N + 4) f0
  ti : IsTrip h (N + 3) (.ref N) (.ref (N + 1)) (.ref (N + 2))
  to : ∃ a b c, IsTrip h (N + 4) a b c
  i1 : h.IsListIter N l1 k
  i2 : h.IsListIter (N + 1) l2 k
  i3 : h.IsListIter (N + 2) l3 k
  l1 : h.IsList l1 xs
  l2 : h.IsList l2 ys
  l3 : h.IsList l3 zs
section
variable {prog : Program} {w : World} {A : Around} {E : Value → Shared → Prop} {s : Shared}
theorem call_zip3 {l1 l2 l3 : Nat} {xs ys zs : Array Value} {Q : Value → Shared → Prop} (hl1 : s.heap.IsList l1 xs) (hl2 : s.heap.IsList l2 ys) (hl3 : s.heap.IsList l3 zs)
    (h : ∀ h', Z3 h' s.heap.objs.size l1 l2 l3 0 .none xs ys zs → h'.objs.size = s.heap.objs.size + 6 → (∀ c o, s.heap.get? c = some o → h'.get? c = some o) → Q (.ref (s.heap.objs.size + 5)) { s with heap := h' }) :
    wpAny (model prog w) A (call (.type "zip") [.ref l1, .ref l2, .ref l3]) Q E s := by
  refine callType_new F.called_zip (by decide) (zip3_type _ _ _) (zip3_new _ _ _) (fun obj => zip3_init obj _ _ _) F.entry_zip_new
    (meets_zip3 l1 l2 l3 xs ys zs) ⟨hl1, hl2, hl3, ?_⟩
  have z1 : (z3A s.heap l1).objs.size = s.heap.objs.size + 1 := Heap.size_push ..
  have z2 : (z3B s.heap l1 l2).objs.size = s.heap.objs.size + 2 := by rw [Heap.size_push, z1]
  have z3 : (z3C s.heap l1 l2 l3).objs.size = s.heap.objs.size + 3 := by rw [Heap.size_push, z2]
  have z4 : (z3D s.heap l1 l2 l3).objs.size = s.heap.objs.size + 4 := by rw [Heap.size_push, z3]
  have z5 : (z3E s.heap l1 l2 l3).objs.size = s.heap.objs.size + 5 := by rw [Heap.size_push, z4]
  have z6 : (z3F s.heap l1 l2 l3).objs.size = s.heap.objs.size + 6 := by rw [Heap.size_push, z5]
  have g6 : (z3F s.heap l1 l2 l3).get? (z3E s.heap l1 l2 l3).objs.size = some _ := Heap.get?_push_size _ rfl
  have g5 : (z3F s.heap l1 l2 l3).get? (z3D s.heap l1 l2 l3).objs.size = some _ := Heap.get?_push_of_some _ (Heap.get?_push_size _ rfl)
  have g4 : (z3F s.heap l1 l2 l3).get? (z3C s.heap l1 l2 l3).objs.size = some _ := Heap.get?_push_of_some _ (Heap.get?_push_of_some _ (Heap.get?_push_size _ rfl))
  have g3 : (z3F s.heap l1 l2 l3).get? (z3B s.heap l1 l2).objs.size = some _ := Heap.get?_push_of_some _ (Heap.get?_push_of_some _ (Heap.get?_push_of_some _ (Heap.get?_push_size _ rfl)))
  have g2 : (z3F s.heap l1 l2 l3).get? (z3A s.heap l1).objs.size = some _ := Heap.get?_push_of_some _ (Heap.get?_push_of_some _ (Heap.get?_push_of_some _ (Heap.get?_push_of_some _ (Heap.get?_push_size _ rfl))))
  have g1 : (z3F s.heap l1 l2 l3).get? s.heap.objs.size = some _ := Heap.get?_push_of_some _ (Heap.get?_push_of_some _ (Heap.get?_push_of_some _ (Heap.get?_push_of_some _ (Heap.get?_push_of_some _ (Heap.get?_push_size _ rfl)))))
  have keep : ∀ c o, s.heap.get? c = some o → (z3F s.heap l1 l2 l3).get? c = some o := fun c o x =>
    Heap.get?_push_of_some _ (Heap.get?_push_of_some _ (Heap.get?_push_of_some _ (Heap.get?_push_of_some _ (Heap.get?_push_of_some _ (Heap.get?_push_of_some _ x)))))
  show _ ∧ _
  rw [z3, z4, z5] at g6
  rw [z4] at g5
  rw [z1, z2, z3] at g4
  rw [z2] at g3
  rw [z1] at g2
  rw [z5]
  exact ⟨⟨_, g6, rfl⟩, h _ ⟨g6, g4, ⟨_, _, _, g5⟩, ⟨_, g1, rfl, rfl⟩, ⟨_, g2, rfl, rfl⟩, ⟨_, g3, rfl, rfl⟩, hl1.at fun o e => keep _ o e, hl2.at fun o e => keep _ o e, hl3.at fun o e => keep _ o e⟩ z6 keep⟩

theorem updateSeq_trip {T : Addr} {a b c x : Value} {k : Nat} {Q : Unit → Shared → Prop} (hT : IsTrip s.heap T a b c)
    (h : ∀ h', h'.get? T = some { cls := .type "tuple", data := .seq ((#[a, b, c] : Array Value).setIfInBounds k x) } → Heap.SameBut T s.heap h' → Q () { s with heap := h' }) :
    wpAny (model prog w) A (updateSeq T (·.setIfInBounds k x)) Q E s := by
  refine wpAny_updateSeq hT rfl (h _ ?_ (Heap.SameBut.update ..))
  rw [Heap.get?_update_self _ hT rfl]
  simp [Obj.mapSeq]
end
end Mine

namespace Mine
section
variable {prog : Program} {w : World} {A : Around} {E : Value → Shared → Prop} {s : Shared}
theorem z3_item {N l1 l2 l3 : Nat} {k : Nat} {xs ys zs : Array Value} {x y z : Value} {Q : Value → Shared → Prop} (L1 : l1 < N) (L2 : l2 < N) (L3 : l3 < N) (Z : Z3 s.heap N l1 l2 l3 k .none xs ys zs) (hx : xs[k]? = some x) (hy : ys[k]? = some y) (hz : zs[k]? = some z)
    (hQ : ∀ h', Z3 h' N l1 l2 l3 (k + 1) (rawInt s.heap.objs.size) xs ys zs → IsTrip h' s.heap.objs.size x y z → (∀ c o, c ≠ N + 5 → c ≠ N + 4 → c ≠ N → c ≠ N + 1 → c ≠ N + 2 → s.heap.get? c = some o → h'.get? c = some o) → Q (.ref s.heap.objs.size) { s with heap := h' }) :
    wpAny (model prog w) A (Builtin.«zip.__next__» ⟨[.ref (N + 5)], []⟩) (fun fin s' => ∃ v, fin = .done (.ret v) ∧ Q v s') E s := by
  obtain ⟨zz, zti, ⟨a, b, c, zto⟩, zi1, zi2, zi3, zl1, zl2, zl3⟩ := Z
  show wpAny _ _ (field (.ref (N + 5)) 2 >>= _) _ _ _
  refine wpAny_bind (wpAny_field zz rfl (x := .bool false) rfl ?_)
  show wpAny _ _ (field (.ref (N + 5)) 3 >>= _) _ _ _
  refine wpAny_bind (wpAny_field zz rfl (x := .ref (N + 3)) rfl ?_)
  refine wpAny_bind (wpAny_seqItems zti rfl ?_)
  show wpAny _ _ (Builtin.SmallTypes.ownedTupleIsFree (.ref (N + 5)) >>= _) _ _ _
  refine wpAny_bind ?_
  unfold Builtin.SmallTypes.ownedTupleIsFree
  refine wpAny_bind (wpAny_field zz rfl (x := .none) rfl (wpAny_pure ?_))
  simp only [if_true]
  refine wpAny_bind (wpAny_rule ?_)
  refine wpAny_bind (wpAny_field zz rfl (x := .ref (N + 4)) rfl ?_)
  refine wpAny_bind (wpAny_setField_rec zz (by simp) fun h₁ hz₁ hs₁ => ?_)
  replace hz₁ : IsZip h₁ (N + 5) (N + 3) (N + 4) .ellipsis := hz₁
  refine wpAny_bind ?_
  simp only [List.zipIdx_cons, List.zipIdx_nil, List.forIn_cons, List.forIn_nil]
  have nz : ∀ b : Nat, b < N + 5 → b ≠ N + 5 := fun b hb => Nat.ne_of_lt hb
  have u1 : ∀ (b : Nat) o, b < N + 5 → s.heap.get? b = some o → h₁.get? b = some o := fun b o hb e => hs₁.extBut b o (nz b hb) e
  have j1 : h₁.IsListIter N l1 k := zi1.at fun o e => u1 N o (by omega) e
  have j2 : h₁.IsListIter (N + 1) l2 k := zi2.at fun o e => u1 (N + 1) o (by omega) e
  have j3 : h₁.IsListIter (N + 2) l3 k := zi3.at fun o e => u1 (N + 2) o (by omega) e
  have m1 : h₁.IsList l1 xs := zl1.at fun o e => u1 l1 o (by omega) e
  have m2 : h₁.IsList l2 ys := zl2.at fun o e => u1 l2 o (by omega) e
  have m3 : h₁.IsList l3 zs := zl3.at fun o e => u1 l3 o (by omega) e
  have o1 : IsTrip h₁ (N + 4) a b c := u1 (N + 4) _ (by omega) zto
  have t1 : IsTrip h₁ (N + 3) (.ref N) (.ref (N + 1)) (.ref (N + 2)) := u1 (N + 3) _ (by omega) zti
  -- the first
  refine wpAny_bind (wpAny_bind (wpAny_onRaise ?_))
  show wpAny _ _ (Builtin.SmallTypes.nextOf (.ref N) >>= _) _ _ _
  refine wpAny_bind (wpAny_nextOf_list_item j1 m1 hx fun h₂ k1 hs₂ => wpAny_pure ?_)
  have u2 : ∀ (b : Nat) o, b ≠ N → h₁.get? b = some o → h₂.get? b = some o := fun b o hb e => hs₂.extBut b o hb e
  have o2 : IsTrip h₂ (N + 4) a b c := u2 (N + 4) _ (by omega) o1
  refine wpAny_bind (wpAny_seqItems o2 rfl ?_)
  refine wpAny_bind (updateSeq_trip o2 fun h₃ o3 hs₃ => ?_)
  replace o3 : IsTrip h₃ (N + 4) x b c := o3
  refine wpAny_bind (wpAny_letGo (wpAny_pure ?_))
  have u3 : ∀ (b : Nat) o, b ≠ N → b ≠ N + 4 → h₁.get? b = some o → h₃.get? b = some o := fun b o hb hb4 e => hs₃.extBut b o hb4 (u2 b o hb e)
  -- the second
  refine wpAny_bind (wpAny_bind (wpAny_onRaise ?_))
  show wpAny _ _ (Builtin.SmallTypes.nextOf (.ref (N + 1)) >>= _) _ _ _
  refine wpAny_bind (wpAny_nextOf_list_item (j2.at fun o e => u3 (N + 1) o (by omega) (by omega) e) (m2.at fun o e => u3 l2 o (by omega) (by omega) e) hy fun h₄ k2 hs₄ => wpAny_pure ?_)
  have o4 : IsTrip h₄ (N + 4) x b c := hs₄.extBut (N + 4) _ (show (N + 4 : Nat) ≠ N + 1 by omega) o3
  refine wpAny_bind (wpAny_seqItems o4 rfl ?_)
  refine wpAny_bind (updateSeq_trip o4 fun h₅ o5 hs₅ => ?_)
  replace o5 : IsTrip h₅ (N + 4) x y c := o5
  refine wpAny_bind (wpAny_letGo (wpAny_pure ?_))
  have u5 : ∀ (b : Nat) o, b ≠ N → b ≠ N + 1 → b ≠ N + 4 → h₁.get? b = some o → h₅.get? b = some o := fun b o hb hb1 hb4 e => hs₅.extBut b o hb4 (hs₄.extBut b o hb1 (u3 b o hb hb4 e))
  -- the third
  refine wpAny_bind (wpAny_bind (wpAny_onRaise ?_))
  show wpAny _ _ (Builtin.SmallTypes.nextOf (.ref (N + 2)) >>= _) _ _ _
  refine wpAny_bind (wpAny_nextOf_list_item (j3.at fun o e => u5 (N + 2) o (by omega) (by omega) (by omega) e) (m3.at fun o e => u5 l3 o (by omega) (by omega) (by omega) e) hz fun h₆ k3 hs₆ => wpAny_pure ?_)
  have o6 : IsTrip h₆ (N + 4) x y c := hs₆.extBut (N + 4) _ (show (N + 4 : Nat) ≠ N + 2 by omega) o5
  refine wpAny_bind (wpAny_seqItems o6 rfl ?_)
  refine wpAny_bind (updateSeq_trip o6 fun h₇ o7 hs₇ => ?_)
  replace o7 : IsTrip h₇ (N + 4) x y z := o7
  refine wpAny_bind (wpAny_letGo (wpAny_pure (wpAny_pure ?_)))
  have u7 : ∀ (b : Nat) o, b ≠ N → b ≠ N + 1 → b ≠ N + 2 → b ≠ N + 4 → h₁.get? b = some o → h₇.get? b = some o := fun b o hb hb1 hb2 hb4 e => hs₇.extBut b o hb4 (hs₆.extBut b o hb2 (u5 b o hb hb1 hb4 e))
  refine wpAny_bind (wpAny_seqItems o7 rfl ?_)
  refine wpAny_bind (wpAny_newTuple ?_)
  have hsz : h₇.objs.size = s.heap.objs.size := by rw [hs₇.1, hs₆.1, hs₅.1, hs₄.1, hs₃.1, hs₂.1, hs₁.1]
  have hz₇ : IsZip h₇ (N + 5) (N + 3) (N + 4) .ellipsis := u7 (N + 5) _ (by omega) (by omega) (by omega) (by omega) hz₁
  have i1₇ : h₇.IsListIter N l1 (k + 1) := ((((k1.at fun o e => hs₃.extBut N o (show (N : Nat) ≠ N + 4 by omega) e).at fun o e => hs₄.extBut N o (show (N : Nat) ≠ N + 1 by omega) e).at fun o e => hs₅.extBut N o (show (N : Nat) ≠ N + 4 by omega) e).at fun o e => hs₆.extBut N o (show (N : Nat) ≠ N + 2 by omega) e).at fun o e => hs₇.extBut N o (show (N : Nat) ≠ N + 4 by omega) e
  have i2₇ : h₇.IsListIter (N + 1) l2 (k + 1) := ((k2.at fun o e => hs₅.extBut (N + 1) o (show (N + 1 : Nat) ≠ N + 4 by omega) e).at fun o e => hs₆.extBut (N + 1) o (show (N + 1 : Nat) ≠ N + 2 by omega) e).at fun o e => hs₇.extBut (N + 1) o (show (N + 1 : Nat) ≠ N + 4 by omega) e
  have i3₇ : h₇.IsListIter (N + 2) l3 (k + 1) := k3.at fun o e => hs₇.extBut (N + 2) o (show (N + 2 : Nat) ≠ N + 4 by omega) e
  have hzlt : (N + 5 : Nat) < h₇.objs.size := Heap.lt_size hz₇
  show wpAny _ _ (Builtin.SmallTypes.ownedTupleHandOut (.ref (N + 5)) (.ref h₇.objs.size) >>= _) _ _ _
  refine wpAny_bind ?_
  unfold Builtin.SmallTypes.ownedTupleHandOut
  have hz₈ : IsZip (h₇.push { cls := .type "tuple", data := .seq #[x, y, z] }) (N + 5) (N + 3) (N + 4) .ellipsis := Heap.get?_push_of_some _ hz₇
  refine wpAny_bind (wpAny_setField_rec hz₈ (by simp) fun h₉ hz₉ hs₉ => ?_)
  replace hz₉ : IsZip h₉ (N + 5) (N + 3) (N + 4) (rawInt h₇.objs.size) := hz₉
  refine wpAny_setField_rec hz₉ (by simp) fun hA hzA hsA => ?_
  replace hzA : IsZip hA (N + 5) (N + 3) (N + 4) (rawInt h₇.objs.size) := hzA
  have up : ∀ (c : Nat) o, c ≠ N + 5 → h₇.get? c = some o → hA.get? c = some o := fun c o c1 e => hsA.extBut _ _ c1 (hs₉.extBut _ _ c1 (Heap.get?_push_of_some _ e))
  have hT : IsTrip hA h₇.objs.size x y z := hsA.extBut _ _ (Nat.ne_of_gt hzlt) (hs₉.extBut _ _ (Nat.ne_of_gt hzlt) (Heap.get?_push_size _ rfl))
  refine wpAny_pure ⟨_, rfl, ?_⟩
  show Q (.ref h₇.objs.size) _
  rw [hsz] at hzA hT ⊢
  have all : ∀ (b : Nat) o, b ≠ N + 5 → b ≠ N + 4 → b ≠ N → b ≠ N + 1 → b ≠ N + 2 → s.heap.get? b = some o → hA.get? b = some o := fun b o a5 a4 a0 a1 a2 e => up b o a5 (u7 b o a0 a1 a2 a4 (hs₁.extBut b o a5 e))
  exact hQ hA ⟨hzA, all (N + 3) _ (by omega) (by omega) (by omega) (by omega) (by omega) zti, ⟨_, _, _, up (N + 4) _ (by omega) o7⟩, i1₇.at fun o e => up N o (by omega) e, i2₇.at fun o e => up (N + 1) o (by omega) e, i3₇.at fun o e => up (N + 2) o (by omega) e,
    zl1.at fun o e => all l1 o (by omega) (by omega) (by omega) (by omega) (by omega) e, zl2.at fun o e => all l2 o (by omega) (by omega) (by omega) (by omega) (by omega) e, zl3.at fun o e => all l3 o (by omega) (by omega) (by omega) (by omega) (by omega) e⟩ hT all

theorem z3_end {N l1 l2 l3 : Nat} {k : Nat} {xs ys zs : Array Value} {Q : PySem.Fin → Shared → Prop} (hh : A.handled = none) (L1 : l1 < N) (Z : Z3 s.heap N l1 l2 l3 k .none xs ys zs) (hx : xs[k]? = none)
    (hE : ∀ h' e, (∀ c o, c ≠ N + 5 → c ≠ N + 4 → c ≠ N → c ≠ N + 1 → c ≠ N + 2 → s.heap.get? c = some o → h'.get? c = some o) → (∃ o, h'.get? e = some o ∧ o.cls = .type "StopIteration") → E (.ref e) { s with heap := h' }) :
    wpAny (model prog w) A (Builtin.«zip.__next__» ⟨[.ref (N + 5)], []⟩) Q E s := by
  obtain ⟨zz, zti, ⟨a, b, c, zto⟩, zi1, zi2, zi3, zl1, zl2, zl3⟩ := Z
  show wpAny _ _ (field (.ref (N + 5)) 2 >>= _) _ _ _
  refine wpAny_bind (wpAny_field zz rfl (x := .bool false) rfl ?_)
  show wpAny _ _ (field (.ref (N + 5)) 3 >>= _) _ _ _
  refine wpAny_bind (wpAny_field zz rfl (x := .ref (N + 3)) rfl ?_)
  refine wpAny_bind (wpAny_seqItems zti rfl ?_)
  show wpAny _ _ (Builtin.SmallTypes.ownedTupleIsFree (.ref (N + 5)) >>= _) _ _ _
  refine wpAny_bind ?_
  unfold Builtin.SmallTypes.ownedTupleIsFree
  refine wpAny_bind (wpAny_field zz rfl (x := .none) rfl (wpAny_pure ?_))
  simp only [if_true]
  refine wpAny_bind (wpAny_rule ?_)
  refine wpAny_bind (wpAny_field zz rfl (x := .ref (N + 4)) rfl ?_)
  refine wpAny_bind (wpAny_setField_rec zz (by simp) fun h₁ hz₁ hs₁ => ?_)
  replace hz₁ : IsZip h₁ (N + 5) (N + 3) (N + 4) .ellipsis := hz₁
  refine wpAny_bind ?_
  simp only [List.zipIdx_cons, List.zipIdx_nil, List.forIn_cons, List.forIn_nil]
  have u1 : ∀ (b : Nat) o, b < N + 5 → s.heap.get? b = some o → h₁.get? b = some o := fun b o hb e => hs₁.extBut b o (Nat.ne_of_lt hb) e
  have j1 : h₁.IsListIter N l1 k := zi1.at fun o e => u1 N o (by omega) e
  have m1 : h₁.IsList l1 xs := zl1.at fun o e => u1 l1 o (by omega) e
  refine wpAny_bind (wpAny_bind (wpAny_onRaise ?_))
  show wpAny _ _ (Builtin.SmallTypes.nextOf (.ref N) >>= _) _ _ _
  refine wpAny_bind (wpAny_nextOf_list_end hh j1 m1 hx fun h₂ e hs₂ he => ?_)
  obtain ⟨oe, hoe, hce⟩ := he
  have hz₂ : IsZip h₂ (N + 5) (N + 3) (N + 4) .ellipsis := hs₂ (N + 5) _ (show (N + 5 : Nat) ≠ N by omega) hz₁
  have hez : e ≠ N + 5 := fun x => by subst x; rw [hz₂] at hoe; cases hoe; simp at hce
  refine wpAny_setField_rec hz₂ (by simp) fun h₃ _ hs₃ => hE h₃ e (fun c o c1 _ c3 _ _ x => hs₃.extBut _ _ c1 (hs₂ _ _ c3 (hs₁.extBut _ _ c1 x))) ⟨oe, hs₃.extBut _ _ hez hoe, hce⟩
end
end Mine

namespace Mine
section
variable {prog : Program} {w : World} {A : Around}
theorem walks3 (hh : A.handled = none) (N l1 l2 l3 : Nat) (L1 : l1 < N) (L2 : l2 < N) (L3 : l3 < N) (xs ys zs : Array Value) (n : Nat) (n1 : xs.size = n) (n2 : ys.size = n) (n3 : zs.size = n) :
    WalksT prog w A (N + 5) [N + 5, N + 3, N + 4, N, N + 1, N + 2, l1, l2, l3] [N + 5, N + 4, N, N + 1, N + 2] n
      (fun i vals => ∃ x y z, xs[i]? = some x ∧ ys[i]? = some y ∧ zs[i]? = some z ∧ vals = #[x, y, z])
      (fun i h => Z3 h N l1 l2 l3 i .none xs ys zs)
      (fun i T h => Z3 h N l1 l2 l3 (i + 1) (rawInt T) xs ys zs ∧ T ∉ ([N + 5, N + 4, N, N + 1, N + 2] : List Addr)) where
  sub := fun c hc => by simp at hc ⊢; rcases hc with rfl | rfl | rfl | rfl | rfl <;> simp
  frame := fun i h h' hst hk => by
    obtain ⟨zz, zti, ⟨a, b, c, zto⟩, zi1, zi2, zi3, zl1, zl2, zl3⟩ := hst
    exact ⟨hk (N + 5) (by simp) _ zz, hk (N + 3) (by simp) _ zti, ⟨a, b, c, hk (N + 4) (by simp) _ zto⟩, zi1.at fun o e => hk N (by simp) o e, zi2.at fun o e => hk (N + 1) (by simp) o e, zi3.at fun o e => hk (N + 2) (by simp) o e,
      zl1.at fun o e => hk l1 (by simp) o e, zl2.at fun o e => hk l2 (by simp) o e, zl3.at fun o e => hk l3 (by simp) o e⟩
  item := fun i s Q E hi hst hQ => by
    have h1 : xs[i]? = some xs[i] := Array.getElem?_eq_getElem (by omega)
    have h2 : ys[i]? = some ys[i] := Array.getElem?_eq_getElem (by omega)
    have h3 : zs[i]? = some zs[i] := Array.getElem?_eq_getElem (by omega)
    have hT : s.TypeIs (.ref (N + 5)) "zip" := ⟨_, hst.z, rfl⟩
    have lt : (N + 5 : Nat) < s.heap.objs.size := Heap.lt_size hst.z
    unfold pyNext
    refine wpAny_bind (wpAny_attempt (wpAny_callSpecial?_slot (name := Str.ofString "__next__") hT F.slot_zip_next
      (wpAny_call_entry F.slot_zip_next hT F.entry_zip_next
        (z3_item L1 L2 L3 hst h1 h2 h3 fun h' a1 a2 a3 => wpAny_pure ?_) (F.args_zip_next_1 _))))
    refine hQ s.heap.objs.size #[xs[i], ys[i], zs[i]] h' s.toks ⟨_, _, _, h1, h2, h3, rfl⟩ (Nat.le_refl _) ⟨_, a2, rfl, _, rfl⟩ ⟨a1, fun hm => ?_⟩ fun c o hc e => ?_
    · simp only [List.mem_cons, List.not_mem_nil, or_false] at hm
      rcases hm with hm | hm | hm | hm | hm <;> (simp only [Addr] at hm; omega)
    · simp only [List.mem_cons, List.not_mem_nil, or_false, not_or] at hc
      exact a3 c o hc.1 hc.2.1 hc.2.2.1 hc.2.2.2.1 hc.2.2.2.2 e
  go := fun elts k pos i T s Q E hm hQ => by
    obtain ⟨⟨zz, zti, ⟨a, b, c, zto⟩, zi1, zi2, zi3, zl1, zl2, zl3⟩, _⟩ := hm
    refine wpAny_letOwnedTupleGo_zip zz fun h' hz' hs' => hQ h' ?_ fun c o hc e => hs'.extBut _ _ (fun x => hc (by simp [x])) e
    have u1 : ∀ (b : Nat) o, b < N + 5 → s.heap.get? b = some o → h'.get? b = some o := fun b o hb e => hs'.extBut b o (Nat.ne_of_lt hb) e
    exact ⟨hz', u1 (N + 3) _ (by omega) zti, ⟨a, b, c, u1 (N + 4) _ (by omega) zto⟩, zi1.at fun o e => u1 N o (by omega) e, zi2.at fun o e => u1 (N + 1) o (by omega) e, zi3.at fun o e => u1 (N + 2) o (by omega) e,
      zl1.at fun o e => u1 l1 o (by omega) e, zl2.at fun o e => u1 l2 o (by omega) e, zl3.at fun o e => u1 l3 o (by omega) e⟩
  apart := fun i T h hm => hm.2
  done := fun s Q E hst hQ => by
    have hT : s.TypeIs (.ref (N + 5)) "zip" := ⟨_, hst.z, rfl⟩
    unfold pyNext
    refine wpAny_bind (wpAny_attempt (wpAny_callSpecial?_slot (name := Str.ofString "__next__") hT F.slot_zip_next
      (wpAny_call_entry F.slot_zip_next hT F.entry_zip_next (z3_end hh L1 hst (Array.getElem?_eq_none (by omega)) fun h' e hk he => ?_) (F.args_zip_next_1 _))))
    obtain ⟨o, ho, hc⟩ := he
    refine wpAny_bind (wpAny_isInstance (T := "StopIteration") (b := true) ⟨o, ho, hc⟩ isSubtype_stop ?_)
    exact wpAny_pure (hQ _ s.toks fun c o hc e => by
      simp only [List.mem_cons, List.not_mem_nil, or_false, not_or] at hc
      exact hk c o hc.1 hc.2.1 hc.2.2.1 hc.2.2.2.1 hc.2.2.2.2 e)
  self := fun i s Q E hst hQ => wpAny_pyIter_zip hst.z hQ
end

section
variable {f : Fm} {O : List (Addr × List Dat)} {ρ : List (Str × Slot)} {iter e1 e2 e3 : Expr} {pos np tp : Pos} {elts : List Expr} {kt : Nat}
def trips (a b c : List Dat) : List Dat := (a.zip (b.zip c)).map fun p => Dat.tuple [p.1, p.2.1, p.2.2]
/-- the triples of three lists of one length -/
theorem It.zip3C {x : Str} {d1 d2 d3 : List Dat} (hf : EvS f O ρ (.Name x np) (.val (.type "zip"))) (h1 : Ev f O ρ e1 (.list d1)) (h2 : Ev f O ρ e2 (.list d2)) (h3 : Ev f O ρ e3 (.list d3)) (hn2 : d2.length = d1.length) (hn3 : d3.length = d1.length)
    (hns : starEach [e1, e2, e3] f.env = (false, eval e1 f.env) :: starEach [e2, e3] f.env := by rfl) (hns2 : starEach [e2, e3] f.env = (false, eval e2 f.env) :: starEach [e3] f.env := by rfl) (hns3 : starEach [e3] f.env = (false, eval e3 f.env) :: starEach [] f.env := by rfl)
    (hpl : (backTo pos (starEach [e1, e2, e3] f.env)).any (·.1) = false := by rfl) :
    It f O ρ (.Call (.Name x np) [e1, e2, e3] [] pos) (.Tuple elts kt tp) (trips d1 d2 d3) := by
  apply It.mk
  intro s Q E st kk
  refine callT_run st hf (EvL.consE h1 (EvL.consE h2 (EvL.consE h3 EvL.nilE hns3) hns2) hns) (fun vs s₁ m₁ hv => ?_) hns hpl
  cases hv with
  | cons g1 g => cases g with
    | cons g2 g => cases g with
      | cons g3 g =>
        cases g
        have st1 := st.mv m₁
        obtain ⟨a₁, vs₁, rfl, i₁, w₁, l₁⟩ := g1.lists
        obtain ⟨a₂, vs₂, rfl, i₂, w₂, l₂⟩ := g2.lists
        obtain ⟨a₃, vs₃, rfl, i₃, w₃, l₃⟩ := g3.lists
        have lt₁ : a₁ < s₁.heap.objs.size := by obtain ⟨n, e⟩ := i₁; exact Heap.lt_size e
        have lt₂ : a₂ < s₁.heap.objs.size := by obtain ⟨n, e⟩ := i₂; exact Heap.lt_size e
        have lt₃ : a₃ < s₁.heap.objs.size := by obtain ⟨n, e⟩ := i₃; exact Heap.lt_size e
        refine call_zip3 i₁.isList i₂.isList i₃.isList fun h' Z0 hsz hkeep => ?_
        have W := walks3 (prog := f.prog) (w := f.w) st.ok.hh s₁.heap.objs.size a₁ a₂ a₃ lt₁ lt₂ lt₃ vs₁.toArray vs₂.toArray vs₃.toArray d1.length (by simp [l₁.length]) (by simp [l₂.length, hn2]) (by simp [l₃.length, hn3])
        have hlen : d1.length = (trips d1 d2 d3).length := by simp [trips, hn2, hn3]
        rw [hlen] at W
        refine W.self 0 _ _ _ Z0 ?_
        refine kk (.ref (s₁.heap.objs.size + 5)) s₁ _ (vs₁ ++ (vs₂ ++ vs₃)) (d1 ++ (d2 ++ d3)) _ _ _ m₁ (Mv.of_keepH hkeep) (l₁.append (l₂.append l₃)) (fun V hw => Itr.of_walksT W hw (fun i vals d h hv hd hh => ?_) (fun i h hJ b hb o e => ?_) fun i h hJ b hb => ?_)
          Z0 (fun b hb => ?_) (fun b hb hO => ?_) (by rw [hsz]; exact Nat.le_add_right _ _)
        · obtain ⟨x, y, z, hx, hy, hz, rfl⟩ := hv
          have hx' : vs₁[i]? = some x := by simpa using hx
          have hy' : vs₂[i]? = some y := by simpa using hy
          have hz' : vs₃[i]? = some z := by simpa using hz
          have hil : i < vs₁.length := (List.getElem?_eq_some_iff.mp hx').1
          have hil2 : i < vs₂.length := (List.getElem?_eq_some_iff.mp hy').1
          obtain ⟨d₁, e1, q1⟩ := hh.getV (k := i) (v := x) (by rw [List.getElem?_append_left hil]; exact hx')
          obtain ⟨d₂, e2, q2⟩ := hh.getV (k := vs₁.length + i) (v := y) (by rw [List.getElem?_append_right (Nat.le_add_right _ _), Nat.add_sub_cancel_left, List.getElem?_append_left hil2]; exact hy')
          obtain ⟨d₃, e3, q3⟩ := hh.getV (k := vs₁.length + (vs₂.length + i)) (v := z) (by rw [List.getElem?_append_right (Nat.le_add_right _ _), Nat.add_sub_cancel_left, List.getElem?_append_right (Nat.le_add_right _ _), Nat.add_sub_cancel_left]; exact hz')
          rw [List.getElem?_append_left (by rw [← l₁.length]; exact hil)] at e1
          rw [l₁.length, List.getElem?_append_right (Nat.le_add_right _ _), Nat.add_sub_cancel_left, List.getElem?_append_left (by rw [← l₂.length]; exact hil2)] at e2
          rw [l₁.length, l₂.length, List.getElem?_append_right (Nat.le_add_right _ _), Nat.add_sub_cancel_left, List.getElem?_append_right (Nat.le_add_right _ _), Nat.add_sub_cancel_left] at e3
          refine ⟨[d₁, d₂, d₃], ?_, .cons q1 (.cons q2 (.cons q3 .nil))⟩
          have ez : (d1.zip (d2.zip d3))[i]? = some (d₁, d₂, d₃) := List.getElem?_zip_eq_some.mpr ⟨e1, List.getElem?_zip_eq_some.mpr ⟨e2, e3⟩⟩
          unfold trips at hd
          rw [List.getElem?_map, ez] at hd
          simpa using hd.symm
        · obtain ⟨z1, z2, ⟨_, _, _, z3⟩, ⟨o4, z4, c4, q4⟩, ⟨o5, z5, c5, q5⟩, ⟨o6, z6, c6, q6⟩, ⟨o7, z7, _, n7, q7⟩, ⟨o8, z8, _, n8, q8⟩, ⟨o9, z9, _, n9, q9⟩⟩ := hJ
          simp only [List.mem_cons, List.not_mem_nil, or_false] at hb
          rcases hb with rfl | rfl | rfl | rfl | rfl | rfl | rfl | rfl | rfl
          · rw [z1] at e; cases e; exact keep_fields rfl rfl
          · rw [z2] at e; cases e; exact keep_seq rfl
          · rw [z3] at e; cases e; exact keep_seq rfl
          · rw [z4] at e; cases e; exact keep_fields q4 c4
          · rw [z5] at e; cases e; exact keep_fields q5 c5
          · rw [z6] at e; cases e; exact keep_fields q6 c6
          · rw [z7] at e; cases e; exact keep_seq q7
          · rw [z8] at e; cases e; exact keep_seq q8
          · rw [z9] at e; cases e; exact keep_seq q9
        · obtain ⟨z1, z2, ⟨_, _, _, z3⟩, ⟨o4, z4, _⟩, ⟨o5, z5, _⟩, ⟨o6, z6, _⟩, ⟨o7, z7, _⟩, ⟨o8, z8, _⟩, ⟨o9, z9, _⟩⟩ := hJ
          simp only [List.mem_cons, List.not_mem_nil, or_false] at hb
          rcases hb with rfl | rfl | rfl | rfl | rfl | rfl | rfl | rfl | rfl
          · exact ⟨_, z1⟩
          · exact ⟨_, z2⟩
          · exact ⟨_, z3⟩
          · exact ⟨_, z4⟩
          · exact ⟨_, z5⟩
          · exact ⟨_, z6⟩
          · exact ⟨_, z7⟩
          · exact ⟨_, z8⟩
          · exact ⟨_, z9⟩
        · simp only [List.mem_cons, List.not_mem_nil, or_false] at hb
          rcases hb with rfl | rfl | rfl | rfl | rfl <;> first | exact Nat.le_refl _ | exact Nat.le_add_right _ _
        · have old : ∀ c, c ∈ O.map (·.1) → c < s₁.heap.objs.size := fun c hc => by
            obtain ⟨p, hp, rfl⟩ := List.mem_map.mp hc
            obtain ⟨us, ⟨n, e⟩, _⟩ := st1.own p hp
            exact Heap.lt_size e
          have hbN := old b hO
          simp only [List.mem_cons, List.not_mem_nil, or_false] at hb
          rcases hb with rfl | rfl | rfl | rfl | rfl | rfl | rfl | rfl | rfl
          · exact absurd hbN (Nat.not_lt.mpr (Nat.le_add_right _ _))
          · exact absurd hbN (Nat.not_lt.mpr (Nat.le_add_right _ _))
          · exact absurd hbN (Nat.not_lt.mpr (Nat.le_add_right _ _))
          · exact absurd hbN (Nat.lt_irrefl _)
          · exact absurd hbN (Nat.not_lt.mpr (Nat.le_add_right _ _))
          · exact absurd hbN (Nat.not_lt.mpr (Nat.le_add_right _ _))
          · exact w₁ (List.mem_append.mpr (.inl hO))
          · exact w₂ (List.mem_append.mpr (.inl hO))
          · exact w₃ (List.mem_append.mpr (.inl hO))
end
end Mine

namespace Mine
section
variable {f : Fm} {O : List (Addr × List Dat)} {ρ ρc : List (Str × Slot)}
/-- what a lambda takes over -/
def CapL (f : Fm) (scope : Scope) (cl : List (Str × Addr)) (ρ ρc : List (Str × Slot)) : Prop :=
  (∀ x sl, ρc.lookup x = some sl → ρ.lookup x = some sl ∧ scope.names.lookup x = some .free ∧ (∃ c, f.env.cells.lookup x = some c ∧ cl.lookup x = some c) ∧ (f.env.kindOf x = some .cell ∨ f.env.kindOf x = some .free)) ∧ (∀ n c, cl.lookup n = some c → f.env.cells.lookup n = some c) ∧ cl.Pairwise fun x y => x.2 ≠ y.2
theorem CapL.nil {scope : Scope} : CapL f scope [] ρ [] := ⟨fun x sl h => by simp at h, fun n c h => by simp at h, .nil⟩
theorem CapL.of {scope : Scope} {cl : List (Str × Addr)} (hsub : Sub ρc ρ) (h : ∀ x ∈ ρc.map (·.1), scope.names.lookup x = some .free ∧ (∃ c, f.env.cells.lookup x = some c ∧ cl.lookup x = some c) ∧ (f.env.kindOf x = some .cell ∨ f.env.kindOf x = some .free))
    (hcl : ∀ p ∈ cl, f.env.cells.lookup p.1 = some p.2) (hp : cl.Pairwise fun x y => x.2 ≠ y.2) : CapL f scope cl ρ ρc :=
  ⟨fun x sl hx => ⟨hsub x sl hx, h x (List.mem_map.mpr ⟨_, mem_of_lookup hx, rfl⟩)⟩, fun n c hc => hcl _ (mem_of_lookup hc), hp⟩
theorem lam_fnAt {s : Shared} {fa : Addr} {qual : Str} {params : Arguments} {body : Expr} {scope : Scope} {cl : List (Str × Addr)} {pm cdv ct : Value} {ps : List Str} {lvl : Nat} {R : List Dat → Dat → Prop} (st : St f O ρ s) (ho : s.heap.get? fa = some (lamObj qual params body scope cl pm cdv ct)) (hcd : CodeOk s.heap cdv)
    (hcap : CapL f scope cl ρ ρc) (hlvl : 1 ≤ lvl) (hbind : ∀ (q : Str) (pm cdv ct : Value) (vs : List Value), vs.length = ps.length → bindArgs (kla_fn "<lambda>" q params body scope cl pm cdv ct) ⟨vs, []⟩ = pure (ps.zip vs)) (hnd : ps.Nodup) (hloc : ps.all (fun p => scope.names.lookup p == some .local) = true)
    (hcell : ∀ y ∈ scope.names, y.2 ≠ .cell) (hco : scope.isCoroutine = false) (hgen : scope.isGenerator = false) (hk : scope.kind = .function) (hR : ∀ ds d, R ds d → ds.length = ps.length)
    (h : ∀ (A : Around) (outer : List Env) (V : List Addr) (s : Shared) (q : Str) (L fa : Addr) (cdv : Value) (ds : List Dat) (d : Dat), A.depth + lvl < recursionLimit → A.units + 40 * lvl + 100 < cLine → R ds d → Ev (lamF f.prog f.w f.mg f.mb f.G A (lamEnv scope q L fa cdv cl) outer V s) [] (parm ps ds ++ ρc) body d) :
    FnAt f.prog f.w f.mg f.mb f.G lvl s (f.V O) fa R where
  fn := ⟨_, _, ho, rfl, rfl⟩
  run := fun A outer V s' vs ds d Q E W m hV pre hv hr k => by
    have dk : DKeep (f.V O) V s.heap s'.heap := by
      have d0 := m.dkeep (V := f.V O)
      have nv : ∀ a o, s.heap.get? a = some o → a ∉ f.V O → a ∉ V := fun a o e h1 h => by
        rcases hV a h with h | h
        · exact h1 h
        · rw [h] at e; cases e
      exact ⟨fun a items ha hi => ⟨(d0.1 a items ha hi).1, let ⟨o, e, _⟩ := hi; nv a o e ha⟩, fun a items ha hi => ⟨(d0.2 a items ha hi).1, let ⟨n, e⟩ := hi; nv a _ e ha⟩⟩
    refine lam_call (ps := ps) (ρc := ρc) pre (m.exactD ho (tabB_cls (by intro h; injection h)) (fun es ep h => by injection h)) (hcd.up m.ckeep) (hR ds d hr) hlvl (hbind _ _ _ _ vs) hnd hloc hcell hcap.2.2 (fun n c hc => ?_) (fun x sl hx => ?_) hv hco hgen hk (fun q L => h A outer V s' q L fa cdv ds d pre.dep pre.uni hr) k
    · obtain ⟨v, q⟩ := st.cel n c (hcap.2.1 n c hc)
      exact ⟨v, m.cell q⟩
    · obtain ⟨hx1, hx2, ⟨c, hc1, hc2⟩, hx4⟩ := hcap.1 x sl hx
      obtain ⟨v, hv1, hv2⟩ := st.vars x sl hx1
      refine ⟨hx2, c, v, hc2, ?_, hv2.keep dk⟩
      rcases hv1 with ⟨hk1, _⟩ | ⟨_, c', hc', hv'⟩
      · rcases hx4 with h4 | h4 <;> (rw [h4] at hk1; cases hk1)
      · rw [hc1] at hc'; cases hc'
        exact m.cell hv'

theorem SeqV.mv {V W : List Addr} {X : Heap} {s s' : Shared} {v : Value} {ds : List Dat} (x : SeqV V s.heap v ds) (m : Mv X W s s') : SeqV V s'.heap v ds := by
  rcases x with x | ⟨r, n, t, u, y, e1, e2, e3, e4⟩
  · exact .inl (x.mv m)
  · exact .inr ⟨r, n, t, u, y, e1, m.exactD e2 (tabB_cls (by intro h; injection h)) (fun es ep h => by injection h), e3, e4⟩
/-- a list or a range, evaluated -/
def EvQ (f : Fm) (O : List (Addr × List Dat)) (ρ : List (Str × Slot)) (e : Expr) (ds : List Dat) : Prop :=
  ∀ (s : Shared) (Q : Value → Shared → Prop) (E : Value → Shared → Prop), St f O ρ s → (∀ v s', Mv f.G f.W s s' → SeqV (f.V O) s'.heap v ds → Q v s') → wpAny f.M f.A (eval e f.env) Q E s
theorem EvQ.list {e : Expr} {ds : List Dat} (h : Ev f O ρ e (.list ds)) : EvQ f O ρ e ds := fun s Q E st k => h.run s Q E st fun v s' m hv => k v s' m (.inl hv)
theorem Pre.of {lvl : Nat} {s : Shared} (st : St f O ρ s) (hd : f.A.depth + lvl < recursionLimit) (hu : f.A.units + 40 * lvl + 100 < cLine) : Pre f.mg f.mb f.G lvl f.A f.outer (f.V O) s :=
  ⟨st.bel, st.ok.hh, hd, hu, st.ok.bas, st.frD, fun a ha => by
    rcases List.mem_append.mp ha with ha | ha
    · obtain ⟨p, hp, rfl⟩ := List.mem_map.mp ha
      obtain ⟨vs, ⟨n, e⟩, _⟩ := st.own p hp
      exact ⟨_, e⟩
    · exact st.v0 a ha, st.tab⟩
/-- a def is called with a lambda, a list or range and a list -/
theorem Ev.callLam {x : Str} {ra c P : Addr} {o : Obj} {fd : FuncData} {np pos lp : Pos} {params : Arguments} {body e2 e3 : Expr} {scope : Scope} {cl : List (Str × Addr)} {ds d0 : List Dat} {d : Dat} (hf : EvS f O ρ (.Name x np) (.val (.ref ra))) (ho : f.G.get? ra = some o) (hod : o.data = .func fd)
    (C : CodeIs f.G c P) (hc : f.env.code = .ref c) (B : BuiltM f.mg f.G) (hdef : defaultsOf params f.env = ([], [])) (hcl : closureFor scope f.env = pure cl) (h2 : EvQ f O ρ e2 ds) (h3 : Ev f O ρ e3 (.list d0))
    (hcall : ∀ (s₁ s : Shared) (fa : Addr) (v2 v3 : Value) (qual : Str) (pm cdv ct : Value) (Q E : Value → Shared → Prop), St f O ρ s₁ → s₁.heap.get? fa = some (lamObj qual params body scope cl pm cdv ct) → CodeOk s₁.heap cdv → Mv f.G f.W s₁ s → St f O ρ s → SeqV (f.V O) s.heap v2 ds → Has (f.V O) s.heap v3 (.list d0) →
      (∀ v s', Mv f.G f.W s s' → Has (f.V O) s'.heap v d → Q v s') → wpAny f.M f.A (call (.ref ra) [.ref fa, v2, v3]) Q E s)
    (hns : starEach [.Lambda params body scope lp, e2, e3] f.env = [(false, eval (.Lambda params body scope lp) f.env), (false, eval e2 f.env), (false, eval e3 f.env)] := by rfl) : Ev f O ρ (.Call (.Name x np) [.Lambda params body scope lp, e2, e3] [] pos) d := by
  apply Ev.mk
  intro s Q E st k
  refine wpAny_Call_NameR (hf.run s _ _ st fun fv s₁ m₁ h₁ => ?_)
  have h₁' : fv = .ref ra := h₁
  subst h₁'
  have st1 := st.mv m₁
  rw [hns]
  refine PySem.Calls.callWith_function (o := o) (fd := fd) (PySem.Calls.evalArgs_plain (PySem.Calls.spliced_cons (lam_make st1 C hc B hdef hcl fun fa s₂ qual pm cdv ct m₂ hfa hcd hfr => PySem.Calls.spliced_cons (h2 s₂ _ _ (st1.mv m₂) fun v2 s₃ m₃ hq => PySem.Calls.spliced_cons (h3.run s₃ _ _ (st1.mv (m₂.trans m₃)) fun v3 s₄ m₄ hv => PySem.Calls.spliced_nil ?_)))))
  have st4 := st1.mv (m₂.trans (m₃.trans m₄))
  refine ⟨⟨st4.bel.stays _ _ ho, hod⟩, ?_⟩
  exact hcall s₂ s₄ fa v2 v3 qual pm cdv ct Q E (st1.mv m₂) hfa hcd (m₃.trans m₄) st4 (hq.mv m₄) hv fun v s₅ m₅ h₅ => k v s₅ (m₁.trans (m₂.trans (m₃.trans (m₄.trans m₅)))) h₅
end
end Mine

namespace Mine
section
variable {f : Fm} {O : List (Addr × List Dat)} {ρ : List (Str × Slot)} {e iter tgt : Expr} {np pos : Pos} {ds ds' : List Dat} {x nm : Str} {tp : Pos}
theorem It.of (h : It f O ρ iter tgt ds) (e : ds = ds') : It f O ρ iter tgt ds' := e ▸ h
theorem rangeC_run {n : Nat} {s : Shared} {Q E : Value → Shared → Prop} (st : St f O ρ s) (hf : EvS f O ρ (.Name x np) (.val (.type "range"))) (he : Ev f O ρ e (.int n))
    (k : ∀ s₀ t u v tk, Mv f.G f.W s s₀ → Q (.ref s₀.heap.objs.size) { s₀ with heap := s₀.heap.push (rangeObj n t u v), toks := tk })
    (hns : starEach [e] f.env = (false, eval e f.env) :: starEach [] f.env := by rfl) (hpl : (backTo pos (starEach [e] f.env)).any (·.1) = false := by rfl) : wpAny f.M f.A (eval (.Call (.Name x np) [e] [] pos) f.env) Q E s := by
  refine callT_run st hf (EvL.consE he EvL.nilE hns) (fun vs s' m hv => ?_) hns hpl
  cases hv with
  | cons a b =>
    cases b
    cases a
    exact call_range_1 (k s' _ _ _ _ m)
theorem It.rangeC {n : Nat} (hf : EvS f O ρ (.Name x np) (.val (.type "range"))) (he : Ev f O ρ e (.int n)) (hn : n ≤ 1000000) (hns : starEach [e] f.env = (false, eval e f.env) :: starEach [] f.env := by rfl) (hpl : (backTo pos (starEach [e] f.env)).any (·.1) = false := by rfl) :
    It f O ρ (.Call (.Name x np) [e] [] pos) (.Name nm tp) (rangeD n) := by
  refine It.of (It.rangeV (a := 0) (b := n) (n := n) (by omega) (by decide) (by omega) (by decide) (by omega) fun s Q E st k => rangeC_run st hf he (fun s₀ t u v tk m => k s₀ t u v tk m) hns hpl) ?_
  simp
theorem EvQ.range {n : Nat} (hf : EvS f O ρ (.Name x np) (.val (.type "range"))) (he : Ev f O ρ e (.int n)) (hn : n ≤ 1000000) (hns : starEach [e] f.env = (false, eval e f.env) :: starEach [] f.env := by rfl) (hpl : (backTo pos (starEach [e] f.env)).any (·.1) = false := by rfl) :
    EvQ f O ρ (.Call (.Name x np) [e] [] pos) (rangeD n) := fun s Q E st k =>
  rangeC_run st hf he (fun s₀ t u v tk m => k _ _ (m.trans (.of_keep fun b o e => Heap.get?_push_of_some _ e)) (.inr ⟨_, n, t, u, v, rfl, Heap.get?_push_size _ rfl, hn, rfl⟩)) hns hpl
end
end Mine

namespace Mine
/-! ## the law's heap without its tables, and the law's end -/
def FREED : Obj := { cls := .none, data := .freed, slots := #[] }
def baseH (ts : List Addr) (h : Heap) : Heap := { h with objs := h.objs.mapIdx fun a o => if a ∈ ts then MARK else if (h.get? a).isNone || tabB o then FREED else o }
theorem get_objs {h : Heap} {a : Addr} {o : Obj} (e : h.get? a = some o) : h.objs[a]? = some o := by
  unfold Heap.get? at e
  cases q : h.objs[a]? with
  | none => rw [q] at e; cases e
  | some o' =>
    rw [q] at e
    obtain ⟨c, dd, d, sl⟩ := o'
    cases d <;> first | exact e | cases e
theorem base_objs (ts : List Addr) (h : Heap) (a : Addr) : (baseH ts h).objs[a]? = (h.objs[a]?).map fun o => if a ∈ ts then MARK else if (h.get? a).isNone || tabB o then FREED else o := by
  show (h.objs.mapIdx _)[a]? = _
  rw [Array.getElem?_mapIdx]
theorem base_get {ts : List Addr} {h : Heap} {a : Addr} {o : Obj} (e : (baseH ts h).get? a = some o) : a ∉ ts ∧ h.get? a = some o ∧ tabB o = false := by
  have e₁ := e
  have e' := get_objs e
  rw [base_objs] at e'
  obtain ⟨o₀, q, r⟩ := Option.map_eq_some_iff.mp e'
  have hf : ∀ o' : Obj, o'.data = .freed → o' = o → False := by
    rintro ⟨c, d, dd, sl⟩ rfl rfl
    unfold Heap.get? at e
    rw [get_objs e₁] at e
    cases e
  by_cases h1 : a ∈ ts
  · rw [if_pos h1] at r; exact (hf _ rfl r).elim
  · rw [if_neg h1] at r
    by_cases h2 : ((h.get? a).isNone || tabB o₀) = true
    · rw [if_pos h2] at r; exact (hf _ rfl r).elim
    · rw [if_neg h2] at r
      subst r
      rw [Bool.or_eq_true, not_or] at h2
      refine ⟨h1, ?_, by simpa using h2.2⟩
      cases g : h.get? a with
      | none => rw [g] at h2; exact absurd rfl h2.1
      | some o' => rw [get_objs g] at q; exact q
theorem base_up {ts : List Addr} {h : Heap} {a : Addr} {o : Obj} (e : h.get? a = some o) (ha : a ∉ ts) (hb : tabB o = false) : (baseH ts h).get? a = some o := by
  have q : (baseH ts h).objs[a]? = some o := by
    rw [base_objs, get_objs e, Option.map_some, if_neg ha, e, hb]; rfl
  unfold Heap.get? at e ⊢
  rw [get_objs e] at e
  rw [q]; exact e
theorem base_stays (ts : List Addr) (h : Heap) : (baseH ts h).StaysIn h := fun a o e => (base_get e).2.1
theorem base_grows {ts : List Addr} {h : Heap} {a : Addr} (g : grows (baseH ts h) a) : a ∈ ts := by
  unfold grows growsB at g
  rw [base_objs] at g
  cases q : h.objs[a]? with
  | none => rw [q] at g; cases g
  | some o =>
    rw [q] at g
    simp only [Option.map_some] at g
    by_cases h1 : a ∈ ts
    · exact h1
    · rw [if_neg h1] at g
      exfalso
      by_cases h2 : ((h.get? a).isNone || tabB o) = true
      · rw [if_pos h2] at g; cases g
      · rw [if_neg h2] at g
        rw [Bool.or_eq_true, not_or] at h2
        apply h2.1
        unfold Heap.get?
        rw [q]
        obtain ⟨c, dd, d, sl⟩ := o
        cases d <;> first | rfl | (cases c <;> cases g)
theorem base_mark {ts : List Addr} {h : Heap} {a : Addr} {o : Obj} (ha : a ∈ ts) (e : h.get? a = some o) : grows (baseH ts h) a := by
  unfold grows growsB
  rw [base_objs, get_objs e, Option.map_some, if_pos ha]; rfl
theorem base_ns {ts : List Addr} {h : Heap} {a : Addr} {m : Str → Option Value} (hts : ∀ P ∈ ts, ∃ c, h.TableAt c P #[]) (x : h.Ns a m) : (baseH ts h).Ns a m := by
  obtain ⟨o, es, ep, e, d, r⟩ := x
  refine ⟨o, es, ep, base_up e (fun ha => ?_) (tabB_data fun vs q => by rw [d] at q; cases q), d, r⟩
  obtain ⟨c, _, t⟩ := hts a ha
  rw [t] at e; cases e; cases d
theorem has_ints {V : List Addr} {h : Heap} {vs : List Value} {xs : List Int} (x : IntsAre vs xs) : HasL V h vs (xs.map Dat.int) := by
  induction x with
  | nil => exact .nil
  | cons n t _ ih => exact .cons (.int n t) ih
theorem tabOk_nil (h : Heap) : TabOk h { cls := .none, data := .fields #[] } := ⟨#[], rfl, trivial, fun pos cv e => nomatch e⟩
/-- the law is called, and its contract holds -/
theorem law_end {prog : Program} {w : World} {mg mb : Str → Option Value} {ts : List Addr} {s₁ : Shared} {fa a lvl : Nat} {vs : List Value} {xs : List Int} {R : List Dat → Dat → Prop} {c : ClaimW} {cl : Str → Option Addr} {mean : ExcName → Option Value} {args : List WData}
    (C : ConF prog w mg mb (baseH ts s₁.heap) lvl fa R) (hlvl : lvl ≤ 20) (hR : R [.list (xs.map Dat.int)] (.bool true)) (g : s₁.heap.Ns mainGlobals mg) (b : s₁.heap.Ns builtinsNs mb) (boot : ∀ x : Str, x ≠ "__name__" → mb x = bootBuiltins x) (lim : s₁.heap.NoLimit)
    (hts : ∀ P ∈ ts, ∃ c, s₁.heap.TableAt c P #[]) (hgens : s₁.gens = #[]) (hl : s₁.heap.PlainList a vs.toArray) (hi : IntsAre vs xs) (hpost : c.post args (.bool true) args = true) (hr : ∀ cls, c.raises args cls = false) :
    wpAny (model prog w) callerA (call (.ref fa) [.ref a]) (fun v s' => GoodWG c cl mean args s₁ (.ok (.ret v)) s') (fun e s' => GoodWG c cl mean args s₁ (.error e) s') s₁ := by
  have hfr : callerA.frames = some [] := rfl
  have hd : callerA.depth + 20 < recursionLimit := by decide
  have hu : callerA.units + 40 * 20 + 100 < cLine := by decide
  refine C callerA [] [] s₁ [.ref a] [.list (xs.map Dat.int)] (.bool true) _ _ ?_ hfr (.one (.list hl (fun h => nomatch h) (has_ints hi))) hR fun v s' m hv => ?_
  · refine { bel := ⟨trivial, base_stays _ _, trivial⟩, hh := rfl, dep := by omega, uni := by omega, bas := ⟨base_ns hts g, base_ns hts b, boot, ?_, fun a o e => (base_get e).2.2⟩, frD := fun a ha => absurd (show a ∈ ([] : List Addr) from ha) List.not_mem_nil, v0 := fun a ha => absurd (show a ∈ ([] : List Addr) from ha) List.not_mem_nil, tab := fun P hP => ?_ }
    · obtain ⟨mc, h1, h2⟩ := lim
      exact ⟨mc, base_ns hts h1, h2⟩
    · obtain ⟨cc, _, t⟩ := hts P (base_grows hP)
      exact ⟨_, t, tabOk_nil _⟩
  · cases hv
    refine ⟨.inl ⟨_, .bool true, [], rfl, hr, .bool true, hpost, fun _ => ⟨List.nodup_nil, fun a ha => nomatch ha⟩⟩, ⟨fun q o e => ?_, fun q o e => m.there e⟩, ?_, m.2.1 (.of_eq hgens)⟩
    · have k := m.2.2 q o e
      split at k
      · rename_i hq
        obtain ⟨o', e', ⟨ps, more, d, rfl⟩, _⟩ := k
        obtain ⟨cc, t⟩ := hts q (base_grows hq.2)
        have t2 := t.2
        rw [e] at t2
        exact .inr (.inl ⟨t.isCodeTable, by cases t2; rfl, ps, more, d, e'⟩)
      · obtain ⟨sl, e', z⟩ := k
        rcases z with z | rfl
        · exact absurd (show q ∈ ([] : List Addr) from z.1) List.not_mem_nil
        · exact .inl e'
    · obtain ⟨⟨h', tk, gs, e, _⟩, _⟩ := m
      rw [e]
end Mine

namespace Mine
/-! ## one walk from sign to sign -/
theorem app_nil0 (ws : List (Nat × List Nat)) : app ws [] = ws := by
  unfold app
  cases h : ws.getLast? with
  | none => rfl
  | some p =>
    have hne : ws ≠ [] := by rintro rfl; simp at h
    rw [List.getLast?_eq_some_getLast hne] at h
    have h' := Option.some.inj h
    simp only [List.append_nil]
    rw [← h']
    exact List.dropLast_concat_getLast hne
theorem app_concat (ws : List (Nat × List Nat)) (p : Nat × List Nat) (b : List Nat) : app (ws ++ [p]) b = ws ++ [(p.1, p.2 ++ b)] := by
  unfold app; simp
theorem app_app (ws : List (Nat × List Nat)) (a b : List Nat) : app (app ws a) b = app ws (a ++ b) := by
  rcases List.eq_nil_or_concat ws with rfl | ⟨l, p, rfl⟩
  · rfl
  · rw [List.concat_eq_append, app_concat, app_concat, app_concat, List.append_assoc]
structure Wk where
  ws : List (Nat × List Nat)
  ins : Option Nat
  cl : Option Nat
  fr : Bool
def wstp (σ : Wk) (c : Nat) : Wk :=
  if σ.ins = some c then ⟨beg σ.fr c σ.ws, none, some c, false⟩
  else if σ.ins ≠ none then ⟨app (beg σ.fr c σ.ws) [c], σ.ins, σ.cl, false⟩
  else if c = 39 ∨ c = 34 then ⟨app (beg σ.fr c σ.ws) (if σ.cl = some c then [c] else []), some c, none, false⟩
  else if c = 32 then ⟨beg σ.fr c σ.ws, none, none, true⟩
  else ⟨app (beg σ.fr c σ.ws) [c], none, none, false⟩
theorem wstp_close (ws : List (Nat × List Nat)) (q : Nat) (cl : Option Nat) : wstp ⟨ws, some q, cl, false⟩ q = ⟨ws, none, some q, false⟩ := by
  simp [wstp, beg]
theorem wstp_in (ws : List (Nat × List Nat)) {q c : Nat} (cl : Option Nat) (h : ¬ c = q) : wstp ⟨ws, some q, cl, false⟩ c = ⟨app ws [c], some q, cl, false⟩ := by
  simp [wstp, beg, Ne.symm h]
theorem wstp_open (ws : List (Nat × List Nat)) {c : Nat} (cl : Option Nat) (fr : Bool) (h : c = 39 ∨ c = 34) : wstp ⟨ws, none, cl, fr⟩ c = ⟨app (beg fr c ws) (if cl = some c then [c] else []), some c, none, false⟩ := by
  simp [wstp, h]
theorem wstp_blank (ws : List (Nat × List Nat)) (cl : Option Nat) (fr : Bool) : wstp ⟨ws, none, cl, fr⟩ 32 = ⟨beg fr 32 ws, none, none, true⟩ := by
  simp [wstp]
theorem wstp_sign (ws : List (Nat × List Nat)) {c : Nat} (cl : Option Nat) (fr : Bool) (h : ¬ (c = 39 ∨ c = 34)) (h' : ¬ c = 32) : wstp ⟨ws, none, cl, fr⟩ c = ⟨app (beg fr c ws) [c], none, none, false⟩ := by
  simp [wstp, h, h']
def wk (σ : Wk) (l : List Nat) : Wk := l.foldl wstp σ
theorem wk_nil (σ : Wk) : wk σ [] = σ := rfl
theorem wk_cons (σ : Wk) (c : Nat) (l : List Nat) : wk σ (c :: l) = wk (wstp σ c) l := rfl
theorem wk_app (σ : Wk) (a b : List Nat) : wk σ (a ++ b) = wk (wk σ a) b := List.foldl_append
theorem wstp_other (ws : List (Nat × List Nat)) {q d : Nat} (h : ¬ d = q) : wstp ⟨ws, none, some q, false⟩ d = wstp ⟨ws, none, none, false⟩ d := by
  simp [wstp, Ne.symm h]
theorem wk_in {q : Nat} (hq : q = 39 ∨ q = 34) : ∀ r ws, (wk ⟨ws, some q, none, false⟩ r).ws = (wk ⟨app ws (scanQ q r), none, none, false⟩ (r.drop ((scanQ q r).length + (scanQ q r).count q + 1))).ws := by
  refine scanQ_induct (q := q) ?_ ?_ ?_ ?_ ?_
  · intro ws; rw [scanQ_nil, app_nil0]; rfl
  · intro ws; rw [scanQ_one, app_nil0, wk_cons, wstp_close]; rfl
  · intro r ih ws
    rw [scanQ_qq, wk_cons, wk_cons, wstp_close, wstp_open _ _ _ hq, if_pos rfl, ih]
    show (wk ⟨app (app ws [q]) _, none, none, false⟩ _).ws = _
    rw [app_app, List.singleton_append, List.length_cons, List.count_cons_self]
    have : (scanQ q r).length + 1 + ((scanQ q r).count q + 1) + 1 = ((scanQ q r).length + (scanQ q r).count q + 1) + 1 + 1 := by omega
    rw [this, List.drop_succ_cons, List.drop_succ_cons]
  · intro d r h ws
    rw [scanQ_q _ _ h, app_nil0, wk_cons, wstp_close]
    show _ = (wk ⟨ws, none, none, false⟩ (d :: r)).ws
    rw [wk_cons, wk_cons, wstp_other _ h]
  · intro c r h ih ws
    rw [scanQ_ne _ _ h, wk_cons, wstp_in _ _ h, ih, app_app, List.singleton_append, List.length_cons, List.count_cons_of_ne h]
    have : (scanQ q r).length + 1 + (scanQ q r).count q + 1 = ((scanQ q r).length + (scanQ q r).count q + 1) + 1 := by omega
    rw [this, List.drop_succ_cons]
theorem rdL_wk (n : Nat) : ∀ (l : List Nat) (fr : Bool) (ws : List (Nat × List Nat)), l.length ≤ n → rdL l fr ws = (wk ⟨ws, none, none, fr⟩ l).ws := by
  induction n with
  | zero => intro l fr ws h; rw [List.length_eq_zero_iff.mp (Nat.le_zero.mp h)]; rfl
  | succ n ih =>
    intro l fr ws h
    cases l with
    | nil => rfl
    | cons c r =>
      have hr : r.length ≤ n := by simpa using h
      by_cases hc : c = 39 ∨ c = 34
      · rw [rdL_mark _ _ _ hc, wk_cons, wstp_open _ _ _ hc, wk_in hc, ih _ _ _ (by rw [List.length_drop]; omega)]
        simp only [reduceCtorEq, if_false, app_nil0]
      · by_cases h2 : c = 32
        · subst h2
          rw [rdL_blank, wk_cons, wstp_blank, ih _ _ _ hr]
        · rw [rdL_sign _ _ _ hc h2, wk_cons, wstp_sign _ _ _ hc h2, ih _ _ _ hr]
def wk0 (l : List Nat) : Wk := wk ⟨[], none, none, true⟩ l
theorem rd_wk (l : List Nat) : rd l = (wk0 l).ws := rdL_wk _ l true [] (Nat.le_refl _)
/-- which signs are safe -/
theorem safe_list : ∀ c < 128, safeN c = decide (c ∈ ([97, 98, 99, 100, 101, 102, 103, 104, 105, 106, 107, 108, 109, 110, 111, 112, 113, 114, 115, 116, 117, 118, 119, 120, 121, 122, 65, 66, 67, 68, 69, 70, 71, 72, 73, 74, 75, 76, 77, 78, 79, 80, 81, 82, 83, 84, 85, 86, 87, 88, 89, 90, 48, 49, 50, 51, 52, 53, 54, 55, 56, 57, 95, 64, 37, 43, 61, 58, 44, 46, 47, 45] : List Nat)) := by decide +kernel
theorem chset_hi : ∀ c < 256, 128 ≤ c → chset c = false := by decide +kernel
theorem safeN_hi {c : Nat} (h : 128 ≤ c) : safeN c = false := by
  unfold safeN
  have h1 : chset c = false := by
    by_cases h2 : c < 256
    · exact chset_hi c h2 h
    · unfold chset; simp [h2]
  rw [h1, Bool.false_or]
  unfold Sre.isWord Sre.isDigit
  have : ¬ c ≤ 57 ∧ ¬ c ≤ 90 ∧ ¬ c ≤ 122 ∧ ¬ c = 95 := by omega
  simp [this]
theorem safe_lt {c : Nat} (h : safeN c = true) : c < 128 := by
  apply Nat.lt_of_not_le
  intro h'
  rw [safeN_hi h'] at h; cases h
theorem safe_ne {c : Nat} (h : safeN c = true) : ¬ (c = 39 ∨ c = 34) ∧ ¬ c = 32 := by
  refine ⟨?_, ?_⟩
  · rintro (rfl | rfl) <;> revert h <;> decide +kernel
  · rintro rfl; revert h; decide +kernel
end Mine

namespace Mine
local macro_rules | `(tactic| walk_at "boot") => `(tactic| first | exact boot_len | exact boot_chr | exact boot_range | exact boot_zip | exact boot_enumerate | exact boot_sum | exact boot_list | exact boot_str | exact boot_iter | exact boot_next)
local macro_rules | `(tactic| walk_at "sz") => `(tactic| first | assumption | (simp only [S_length, List.length_append, List.length_cons, List.length_nil, List.length_map, sizeLine_eq] at *; omega))
local macro_rules | `(tactic| walk_at "op") => `(tactic| first
  | exact Op2.addInt
  | exact Op2.eqStr
  | exact Op2.neStr
  | exact Op2.ltInt
  | exact Op2.geInt
  | exact Op2.eqInt
  | exact Op2.modInt (by decide)
  | (refine' Op2.addStr ?sz; (case' sz => (try walk_at "sz")))
  | (refine' Op2.addList ?sz; (case' sz => (try walk_at "sz"))))
local macro_rules | `(tactic| walk_at "opn") => `(tactic| first | (refine' OpN.lenStr ?sz; (case' sz => (try walk_at "sz"))) | (refine' OpN.lenList ?sz; (case' sz => (try walk_at "sz"))))
local macro_rules | `(tactic| walk_at "evp") => `(tactic| first
  | exact EvP.no
  | (refine' EvP.yes ?x1; (case' x1 => walk_at "ev")))
local macro_rules | `(tactic| walk_at "ev") => `(tactic| first
  | exact Ev.strC
  | exact Ev.intC
  | exact Ev.noneC
  | exact Ev.boolC
  | exact Ev.name (by rfl)
  | (refine' Ev.neg ?x1; (case' x1 => walk_at "ev"))
  | (refine' Ev.bin ?x1 ?x2 ?x3; (case' x1 => walk_at "ev"); (case' x2 => walk_at "ev"); (case' x3 => walk_at "op"))
  | (refine' Ev.cmp ?x1 ?x2 ?x3; (case' x1 => walk_at "ev"); (case' x2 => walk_at "ev"); (case' x3 => walk_at "op"))
  | (refine' Ev.listD ?x1; (case' x1 => walk_at "evl"))
  | (refine' Ev.tupleD ?x1; (case' x1 => walk_at "evl"))
  | (refine' Ev.sliceStr ?x1 ?x2 ?x3 ?sz; (case' x1 => walk_at "ev"); (case' x2 => walk_at "evp"); (case' x3 => walk_at "evp"); (case' sz => (try walk_at "sz")))
  | (refine' Ev.sliceList ?x1 ?x2 ?x3 ?sz; (case' x1 => walk_at "ev"); (case' x2 => walk_at "evp"); (case' x3 => walk_at "evp"); (case' sz => (try walk_at "sz")))
  | (refine' Ev.callB (Ev.builtin (by rfl) (by assumption) (by walk_at "boot")) ?x1 ?x2; (case' x1 => walk_at "evl"); (case' x2 => walk_at "opn"))
  | (refine' Ev.callT (Ev.builtin (by rfl) (by assumption) (by walk_at "boot")) ?x1 ?x2; (case' x1 => walk_at "evl"); (case' x2 => walk_at "opn"))
  | (refine' Ev.itemStr ?x1 ?x2 ?h0 ?hc ?sz; (case' x1 => walk_at "ev"); (case' x2 => walk_at "ev"); (case' sz => (try walk_at "sz")))
  | (refine' Ev.itemList ?x1 ?x2 ?hj ?hd ?sz; (case' x1 => walk_at "ev"); (case' x2 => walk_at "ev"); (case' sz => (try walk_at "sz"))))
local macro_rules | `(tactic| walk_at "evl") => `(tactic| first
  | exact EvL.nilE
  | (refine' EvL.consE ?x1 ?x2; (case' x1 => walk_at "ev"); (case' x2 => walk_at "evl")))
local macro_rules | `(tactic| walk_at "tr") => `(tactic| first
  | (refine' Tr.cmp ?x1 ?x2 ?x3; (case' x1 => walk_at "ev"); (case' x2 => walk_at "ev"); (case' x3 => walk_at "op"))
  | (refine' Tr.notE ?x1; (case' x1 => walk_at "tr"))
  | exact Tr.orNil
  | exact Tr.andNil
  | (refine' Tr.intE ?x1; (case' x1 => walk_at "ev")))
local macro_rules | `(tactic| walk_at "asg") => `(tactic| (refine' Ex.consX (ExS.assign (.inl (by rfl)) ?x1 (thenN ?x2)); (case' x1 => walk_at "ev")))
local macro_rules | `(tactic| walk_at "sub") => `(tactic| first | exact Sub.nilS _ | (refine Sub.consS (by rfl) ?_; walk_at "sub"))

abbrev PR : Program := PySem.Challenge.rw_oy0021_01.row.prog
noncomputable abbrev KK (w : World) : Frag := Mine.hd.heap_39 w.params
/-- what the names of the top stand for -/
structure Names (mg : Str → Option Value) : Prop where
  len : mg (Str.ofString "len") = none
  chr : mg (Str.ofString "chr") = none
  range : mg (Str.ofString "range") = none
  zip : mg (Str.ofString "zip") = none
  enumerate : mg (Str.ofString "enumerate") = none
  sum : mg (Str.ofString "sum") = none
  str : mg (Str.ofString "str") = none
  iter : mg (Str.ofString "iter") = none
  err : mg (Str.ofString "error_reply") = some (.ref 54)
  parse257 : mg (Str.ofString "parse257") = some (.ref 63)
  reduce : mg (Str.ofString "reduce") = some (.ref 72)
  missing : mg (Str.ofString "_initial_missing") = some (.ref 64)
  find : mg (Str.ofString "_find_unsafe") = some (.ref 85)
  join : mg (Str.ofString "join") = some (.ref 84)
  quote : mg (Str.ofString "quote") = some (.ref 92)
  words : mg (Str.ofString "_law_words") = some (.ref 99)
  steps : mg (Str.ofString "_law_steps") = some (.ref 104)
  line : mg (Str.ofString "_law_line") = some (.ref 111)
  text : mg (Str.ofString "_law_text") = some (.ref 116)
  worn : mg (Str.ofString "_law_worn") = some (.ref 121)
  turned : mg (Str.ofString "_law_turned") = some (.ref 126)
  read : mg (Str.ofString "_law_read") = some (.ref 133)
  torn : mg (Str.ofString "_law_torn") = some (.ref 140)
  asked : mg (Str.ofString "_law_asked") = some (.ref 147)
/-- the top -/
structure TopF (w : World) (mg : Str → Option Value) (G : Heap) : Prop where
  KI : (KK w).In G
  N : Names mg
  B : BuiltM mg G
  t79 : grows G 79
  t149 : grows G 149

section
variable {w : World} {mg mb : Str → Option Value} {G : Heap}
set_option maxHeartbeats 800000 in
theorem c_parse257 (KI : (KK w).In G) (N : Names mg) : Con PR w mg mb G 1 63 R257 := by
  have hm := N.len
  refine Con.of_def [Str.ofString "resp"] (KI _ _ (by rfl)) (by rfl) ?_ (by rfl) (by rfl) (by rfl) (by rfl) (fun vs hv => ?_) (by decide) (by rfl) (fun ds d ⟨l, e, _⟩ => by rw [e]; rfl) (by decide) (by rfl) (by rfl) (by rfl) ?_
  · exact codeRec_of KI (by rfl)
  · match vs, hv with
    | [v], _ => rfl
  · rintro A L outer V s hd hu ds d ⟨l, rfl, hlen, hpre, rfl⟩
    dsimp only [parm, List.map, List.zip_cons_cons, List.zip_nil_right]
    refine' Ex.consX (ExS.ifX (v := false) (Tr.of ?tr ?tv) (fun h => nomatch h) fun _ => Ex.nilX (thenN ?_))
    case tr => walk_at "tr"
    case tv =>
      have e1 : sl l none (some 3) = [50, 53, 55] := by rw [← hpre]; exact sl_upto l 3
      rw [e1]; decide
    refine' Ex.consX (ExS.ifX (Tr.of ?tr ?tv) (v := !decide ((l.drop 3).take 2 = [32, 34])) (fun hq => ?h1) (fun hq => ?h2))
    case tr => walk_at "tr"
    case tv =>
      have e1 : sl l (some 3) (some 5) = (l.drop 3).take 2 := sl_run l 3 5 (by decide)
      have e2 : Str.ofString " \"" = S [32, 34] := by decide
      rw [e1, e2]
      by_cases h : (l.drop 3).take 2 = [32, 34] <;> simp [h, S_inj]
    case h1 =>
      have hq' : ¬ (l.drop 3).take 2 = [32, 34] := by simpa using hq
      refine Ex.consX (ExS.ret Ev.strC ?_)
      show Dat.str _ = Dat.str _
      rw [p257, if_neg hq']; rfl
    case h2 =>
      have hq' : (l.drop 3).take 2 = [32, 34] := by simpa using hq
      refine Ex.nilX (thenN ?_)
      walk_at "asg"
      walk_at "asg"
      walk_at "asg"
      skip
      refine Ex.weak (ρ' := [(Str.ofString "resp", .dat (.str (S l))), (Str.ofString "dirname", .dat (.str (S []))), (Str.ofString "i", .dat (.int (5 : Nat))), (Str.ofString "n", .dat (.int l.length))]) ?_ (by rw [S_length]; walk_at "sub")
      have h5 : 5 ≤ l.length := by
        have := congrArg List.length hq'
        simp at this; omega
      refine Ex.consX (ExS.whileX (Inv257 l) (l.length - 5) ⟨rfl, 5, [], h5, rfl, by simp, by simp, rfl⟩ ?_)
      rintro k O ρ ⟨rfl, i, acc, hi, rfl, hacc, hscan, rfl⟩
      refine ⟨decide ((i : Int) < l.length), by walk_at "tr", fun hf => thenN ?_, fun ht => ?_⟩
      · have hil : i = l.length := by have := of_decide_eq_false hf; omega
        subst hil
        refine Ex.consX (ExS.ret (Ev.name (by rfl)) ?_)
        show Dat.str _ = Dat.str _
        rw [p257, if_pos hq', ← hscan]
        simp [scan_nil]
      · have hil : i < l.length := by have := of_decide_eq_true ht; omega
        obtain ⟨c, r, hcr⟩ : ∃ c r, l.drop i = c :: r := ⟨_, _, List.drop_eq_getElem_cons hil⟩
        have hc : l[i]? = some c := by
          have := congrArg (·[0]?) hcr
          simpa using this
        have hr : l.drop (i + 1) = r := by
          have := congrArg (List.drop 1) hcr
          simpa [List.drop_drop] using this
        rw [hcr] at hscan
        refine' Ex.consX (ExS.assign (.inl (by rfl)) (Ev.itemStr (cc := c) ?x1 ?x2 ?h0 ?hc ?sz) (thenN ?_))
        case x1 => walk_at "ev"
        case x2 => walk_at "ev"
        case h0 => omega
        case hc => simpa using hc
        case sz => walk_at "sz"
        walk_at "asg"
        refine' Ex.consX (ExS.ifX (Tr.of ?tr ?tv) (v := decide (c = 34)) (fun h34 => ?h1) (fun h34 => ?h2))
        case tr => walk_at "tr"
        case tv =>
          have e2 : Str.ofString "\"" = S [34] := by decide
          rw [e2, S_beq]; by_cases h : c = 34 <;> simp [h]
        case h1 =>
          have h34' : c = 34 := of_decide_eq_true h34
          subst h34'
          have iv : ((i : Int) + 1).toNat = i + 1 := by omega
          rcases Nat.lt_or_ge (i + 1) l.length with hlt | hge
          · have hd1 : r.head? = l[i + 1]? := by
              rw [← hr]; simp
            refine' Ex.consX (ExS.ifX (v := l[i + 1] != 34) (Tr.of (Tr.orE (v := false) (w := l[i + 1] != 34) (Tr.of ?tr ?tv) (fun _ => Tr.of (Tr.orE (w := false) (Tr.of (v' := l[i + 1] != 34) (Tr.cmp (Ev.itemStr (cc := l[i + 1]) ?x1 ?x2 ?h0 ?hc ?sz) ?x3 ?x4) ?tv2) fun _ => Tr.orNil) (by simp))) (by simp)) (fun hb => ?h1b) (fun hb => ?h2b))
            case tr => walk_at "tr"
            case tv => simp; omega
            case x1 => walk_at "ev"
            case x2 => walk_at "ev"
            case h0 => omega
            case hc => rw [iv]; exact List.getElem?_eq_getElem hlt
            case sz => walk_at "sz"
            case x3 => walk_at "ev"
            case x4 => walk_at "op"
            case tv2 =>
              have e2 : Str.ofString "\"" = S [34] := by decide
              rw [e2]
              simp only [bne, S_beq]
              by_cases h : l[i + 1] = 34 <;> simp [h]
            case h1b =>
              refine Ex.consX (ExS.brkX (thenN ?_))
              refine Ex.consX (ExS.ret (Ev.name (by rfl)) ?_)
              show Dat.str _ = Dat.str _
              rw [p257, if_pos hq', ← hscan, scan_q, List.append_nil]
              rw [hd1, List.getElem?_eq_getElem hlt]
              simpa using hb
            case h2b =>
              refine Ex.nilX (thenN ?_)
              walk_at "asg"
              refine Ex.nilX (thenN ?_)
              walk_at "asg"
              obtain ⟨r', rfl⟩ : ∃ r', r = 34 :: r' := by
                rw [List.getElem?_eq_getElem hlt] at hd1
                have hb' : l[i + 1] = 34 := by simpa using hb
                cases r with
                | nil => cases hd1
                | cons d r' => rw [hb'] at hd1; cases hd1; exact ⟨r', rfl⟩
              have hr2 : l.drop (i + 1 + 1) = r' := by
                have := congrArg (List.drop 1) hr
                simpa [List.drop_drop] using this
              refine Ex.nilX ⟨l.length - (i + 1 + 1), by omega, _, ⟨rfl, i + 1 + 1, acc ++ [34], by omega, rfl, by simp; omega, ?_, rfl⟩, ?_⟩
              · rw [← hscan, hr2, scan_qq]; simp
              · rw [S_append]; walk_at "sub"
          · refine' Ex.consX (ExS.ifX (v := true) (Tr.of (Tr.orE (v := true) (w := true) (Tr.of ?tr ?tv) (fun h => nomatch h)) rfl) (fun _ => ?h1b) (fun hb => nomatch hb))
            case tr => walk_at "tr"
            case tv => simp; omega
            case h1b =>
              refine Ex.consX (ExS.brkX (thenN ?_))
              refine Ex.consX (ExS.ret (Ev.name (by rfl)) ?_)
              show Dat.str _ = Dat.str _
              have hr0 : r = [] := by rw [← hr]; exact List.drop_of_length_le hge
              rw [p257, if_pos hq', ← hscan, hr0, scan_q, List.append_nil]
              simp
        case h2 =>
          have h34' : ¬ c = 34 := of_decide_eq_false h34
          refine Ex.nilX (thenN ?_)
          walk_at "asg"
          skip
          refine Ex.nilX ⟨l.length - (i + 1), by omega, _, ⟨rfl, i + 1, acc ++ [c], by omega, rfl, by simp; omega, ?_, rfl⟩, ?_⟩
          · rw [← hscan, hr, scan_ne _ h34']; simp
          · rw [S_append]; walk_at "sub"
end

section
variable {w : World} {mg mb : Str → Option Value} {G : Heap}
def Rturned (ds : List Dat) (d : Dat) : Prop := ∃ l : List Nat, ds = [.str (S l)] ∧ l.length ≤ 1000000 ∧ d = .str (S (turn l))
theorem jn_nil_ones (l : List Nat) : jn [] (l.map fun c => [c]) = l := by
  induction l with
  | nil => rfl
  | cons a r ih =>
    cases r with
    | nil => rfl
    | cons b r =>
      show [a] ++ [] ++ jn [] (([b] : List Nat) :: r.map fun c => [c]) = _
      rw [show jn [] (([b] : List Nat) :: r.map fun c => [c]) = b :: r from ih]
      rfl
set_option maxHeartbeats 800000 in
theorem c_turned (KI : (KK w).In G) : Con PR w mg mb G 1 126 Rturned := by
  refine Con.of_def [Str.ofString "text"] (KI _ _ (by rfl)) (by rfl) ?_ (by rfl) (by rfl) (by rfl) (by rfl) (fun vs hv => ?_) (by decide) (by rfl) (fun ds d ⟨l, e, _⟩ => by rw [e]; rfl) (by decide) (by rfl) (by rfl) (by rfl) ?_
  · exact codeRec_of KI (by rfl)
  · match vs, hv with
    | [v], _ => rfl
  · rintro A L outer V s hd hu ds d ⟨l, rfl, hlen, rfl⟩
    dsimp only [parm, List.map, List.zip_cons_cons, List.zip_nil_right]
    refine' Ex.consX (ExS.ret (Ev.methS (x := S []) ?x1 (Ev.compA (xs := l) (j := fun c => Dat.str (S [c])) (g := fun c => Dat.str (S [trn c])) (ρc := []) (It.str (x := l) ?x2) (by rfl) Cap.nil ?turn ?sz1) F.slot_str_join F.type_str_join (Op2.joinL (l.map fun c => [trn c]) ?x5 ?x3)) ?x4)
    case x1 => exact Ev.strC
    case x2 => walk_at "ev"
    case x5 => simp
    case sz1 => walk_at "sz"
    case turn =>
      intro C s₁ V K D Dd acc c hc
      refine ⟨_, Sub.nilS _, As.name (.inl (by rfl)), ?_⟩
      have e1 : Str.ofString "\"" = S [34] := by decide
      have e2 : Str.ofString "'" = S [39] := by decide
      refine' Ev.ite (v := decide (c = 34)) (Tr.of ?tr1 ?tv1) (fun h => ?h1) (fun h => ?h2)
      case tr1 => walk_at "tr"
      case tv1 => rw [e1, S_beq]; by_cases h : c = 34 <;> simp [h]
      case h1 =>
        have : c = 34 := of_decide_eq_true h
        refine Ev.of Ev.strC ?_
        rw [e2]; simp [trn, this]
      case h2 =>
        have : ¬ c = 34 := of_decide_eq_false h
        refine' Ev.ite (v := decide (c = 39)) (Tr.of ?tr2 ?tv2) (fun h => ?h3) (fun h => ?h4)
        case tr2 => walk_at "tr"
        case tv2 => rw [e2, S_beq]; by_cases h : c = 39 <;> simp [h]
        case h3 =>
          have : c = 39 := of_decide_eq_true h
          refine Ev.of Ev.strC ?_
          rw [e1]; simp [trn, this]
        case h4 =>
          have h2 : ¬ c = 39 := of_decide_eq_false h
          refine Ev.of (Ev.name (by rfl)) ?_
          simp [trn, this, h2]
    case x3 =>
      simp only [List.map_map, List.length_map, List.length_nil, Nat.mul_zero, Nat.add_zero]
      have : (l.map (List.length ∘ fun c => [trn c])).sum = l.length := by
        clear hlen
        induction l with
        | nil => rfl
        | cons a r ih => simp only [List.map_cons, List.sum_cons, ih, List.length_cons, Function.comp]; simp; omega
      rw [this, sizeLine_eq]; omega
    case x4 =>
      show Dat.str _ = Dat.str _
      have := jn_nil_ones (turn l)
      unfold turn at this ⊢
      rw [List.map_map] at this
      exact congrArg (fun x => Dat.str (S x)) this
end

section
variable {w : World} {mg mb : Str → Option Value} {G : Heap}
def wsD (ws : List (Nat × List Nat)) : List Dat := ws.map fun p => Dat.str (S p.2)
def Rread (ds : List Dat) (d : Dat) : Prop := ∃ l : List Nat, ds = [.str (S l)] ∧ l.length ≤ 400000 ∧ d = .list (wsD (rd l))
def Iread (l : List Nat) (k : Nat) (O : List (Addr × List Dat)) (ρ : List (Str × Slot)) : Prop :=
  ∃ (ad : Addr) (place : Nat) (fr : Bool) (ws : List (Nat × List Nat)), k = (l.drop place).length ∧ O = [(ad, wsD ws)] ∧ (fr = false → ws ≠ []) ∧ rdL (l.drop place) fr ws = rd l ∧
    wsum ws + (l.drop place).length ≤ l.length ∧ ws.length + (l.drop place).length ≤ l.length ∧
    ρ = [(Str.ofString "line", .dat (.str (S l))), (Str.ofString "turned", .dat (.str (S (turn l)))), (Str.ofString "words", .val (.ref ad)), (Str.ofString "place", .dat (.int place)), (Str.ofString "fresh", .dat (.bool fr))]
theorem wsD_length (ws : List (Nat × List Nat)) : (wsD ws).length = ws.length := by simp [wsD]
theorem wsD_last {ws : List (Nat × List Nat)} {p : Nat × List Nat} (h : ws.getLast? = some p) : (wsD ws)[ws.length - 1]? = some (.str (S p.2)) := by
  unfold wsD
  rw [List.getElem?_map, ← List.getLast?_eq_getElem?, h]; rfl
theorem wsD_app {ws : List (Nat × List Nat)} {p : Nat × List Nat} (st : List Nat) (h : ws.getLast? = some p) : (wsD ws).dropLast ++ [.str (S (p.2 ++ st))] = wsD (app ws st) := by
  rw [app_eq st h]; unfold wsD
  rw [List.map_append, List.map_dropLast]; rfl
theorem app_nil (ws : List (Nat × List Nat)) : app ws [] = ws := by
  unfold app
  cases h : ws.getLast? with
  | none => rfl
  | some p =>
    have : ws ≠ [] := by rintro rfl; simp at h
    rw [List.getLast?_eq_some_getLast this] at h
    have h' := Option.some.inj h
    have := List.dropLast_concat_getLast this
    rw [h'] at this
    simpa using this
set_option maxHeartbeats 1600000 in
theorem c_read (KI : (KK w).In G) (N : Names mg) : Con PR w mg mb G 2 133 Rread := by
  have hm := N.len
  refine Con.of_def [Str.ofString "line"] (KI _ _ (by rfl)) (by rfl) ?_ (by rfl) (by rfl) (by rfl) (by rfl) (fun vs hv => ?_) (by decide) (by rfl) (fun ds d ⟨l, e, _⟩ => by rw [e]; rfl) (by decide) (by rfl) (by rfl) (by rfl) ?_
  · exact codeRec_of KI (by rfl)
  · match vs, hv with
    | [v], _ => rfl
  · rintro A L outer V s hd hu ds d ⟨l, rfl, hlen, rfl⟩
    dsimp only [parm, List.map, List.zip_cons_cons, List.zip_nil_right]
    refine' Ex.consX (ExS.assign (.inl (by rfl)) (Ev.callF (Ev.global (by rfl) N.turned) (KI _ _ (by rfl)) (by rfl) ?x1 (OpN.con (c_turned KI) ⟨l, rfl, ?x2, rfl⟩ ?x3 ?x4)) (thenN ?_))
    case x1 => walk_at "evl"
    case x2 => omega
    case x3 => show A.depth + 1 + 1 < _; omega
    case x4 => show A.units + 3 + 40 * 1 + 100 < _; omega
    refine Ex.consX (ExS.assignOwn (.inl (by rfl)) EvL.nilE fun ad => thenN ?_)
    walk_at "asg"
    walk_at "asg"
    skip
    refine Ex.weak (ρ' := [(Str.ofString "line", .dat (.str (S l))), (Str.ofString "turned", .dat (.str (S (turn l)))), (Str.ofString "words", .val (.ref ad)), (Str.ofString "place", .dat (.int (0 : Nat))), (Str.ofString "fresh", .dat (.bool true))]) ?_ (by walk_at "sub")
    refine Ex.consX (ExS.whileX (Iread l) l.length ⟨ad, 0, true, [], by simp, rfl, (fun h => nomatch h), rfl, by simp [wsum], by simp, rfl⟩ ?_)
    rintro k O ρ ⟨ad, place, fr, ws, rfl, rfl, hne, hrd, hs1, hs2, rfl⟩
    refine ⟨decide ((place : Int) < l.length), by rw [← S_length l]; walk_at "tr", fun hf => thenN ?_, fun ht => ?_⟩
    · have hil : l.length ≤ place := by have := of_decide_eq_false hf; omega
      rw [List.drop_of_length_le hil, rdL_nil] at hrd
      refine Ex.consX (ExS.retOwn (EvS.name (by rfl)) (List.mem_singleton.mpr rfl) ?_)
      show Dat.list _ = Dat.list _
      rw [hrd]
    · have hil : place < l.length := by have := of_decide_eq_true ht; omega
      obtain ⟨c, r, hcr⟩ : ∃ c r, l.drop place = c :: r := ⟨_, _, List.drop_eq_getElem_cons hil⟩
      have hc : l[place]? = some c := by
        have := congrArg (·[0]?) hcr
        simpa using this
      have hr : l.drop (place + 1) = r := by
        have := congrArg (List.drop 1) hcr
        simpa [List.drop_drop] using this
      have hrl : r.length = l.length - (place + 1) := by rw [← hr, List.length_drop]
      have hll : (l.drop place).length = r.length + 1 := by rw [hcr]; rfl
      rw [hll] at hs1 hs2
      rw [hcr] at hrd
      refine' Ex.consX (ExS.assign (.inl (by rfl)) (Ev.itemStr (cc := c) ?x1 ?x2 ?h0 ?hc ?sz) (thenN ?_))
      case x1 => walk_at "ev"
      case x2 => walk_at "ev"
      case h0 => omega
      case hc => simpa using hc
      case sz => walk_at "sz"
      skip
      generalize hws1 : beg fr c ws = ws1
      have hne1 : ws1 ≠ [] := by rw [← hws1]; exact beg_ne hne
      have hl1 : ws1.length ≤ ws.length + 1 := by rw [← hws1]; exact beg_length _ _ _
      have hsum1 : wsum ws1 = wsum ws := by rw [← hws1]; exact wsum_beg _ _ _
      obtain ⟨p, hp⟩ : ∃ p, ws1.getLast? = some p := ⟨_, List.getLast?_eq_some_getLast hne1⟩
      have hpl := wsum_last hp
      refine' Ex.consM [(ad, wsD ws1)] [(Str.ofString "sign", .dat (.str (S [c]))), (Str.ofString "line", .dat (.str (S l))), (Str.ofString "turned", .dat (.str (S (turn l)))), (Str.ofString "words", .val (.ref ad)), (Str.ofString "place", .dat (.int place)), (Str.ofString "fresh", .dat (.bool fr))]
        (ExS.ifX (v := fr) (Tr.boolE (Ev.name (by rfl))) (fun hfr => ?h1) (fun hfr => ?h2)) ?_
      case h1 =>
        refine Ex.consX (ExS.append (i := 0) (EvS.name (by rfl)) (by rfl) Ev.strC (by rw [wsD_length, sizeLine_eq]; omega) (thenN ?_))
        have e : ([(ad, wsD ws)] : List (Addr × List Dat)).set 0 (ad, wsD ws ++ [.str (S [])]) = [(ad, wsD ws1)] := by
          rw [← hws1]; subst hfr; simp [beg, wsD]
        rw [show Str.ofString "" = S [] from rfl, e]
        exact nilN (by walk_at "sub")
      case h2 =>
        have e : ws = ws1 := by rw [← hws1]; subst hfr; rfl
        rw [e]
        exact nilN (by walk_at "sub")
      refine' Ex.consM [(ad, wsD ws1)] [(Str.ofString "sign", .dat (.str (S [c]))), (Str.ofString "line", .dat (.str (S l))), (Str.ofString "turned", .dat (.str (S (turn l)))), (Str.ofString "words", .val (.ref ad)), (Str.ofString "place", .dat (.int place)), (Str.ofString "fresh", .dat (.bool (decide (c = 32))))]
        (ExS.assign (d := .bool (decide (c = 32))) (.inl (by rfl)) (Ev.of ?x1 ?x2) (nextN ?x3)) ?_
      case x1 => walk_at "ev"
      case x2 =>
        rw [show Str.ofString " " = S [32] from rfl, S_beq]
        by_cases h : c = 32 <;> simp [h]
      case x3 => walk_at "sub"
      have e34 : Str.ofString "\"" = S [34] := by decide
      have e39 : Str.ofString "'" = S [39] := by decide
      generalize hst : (if c = 39 ∨ c = 34 then scanQ c r else [c]) = st
      generalize hpl' : (if c = 39 ∨ c = 34 then place + (scanQ c r).length + (scanQ c r).count c + 2 else place + 1) = pl
      refine' Ex.consM [(ad, wsD ws1)] [(Str.ofString "strand", .dat (.str (S st))), (Str.ofString "sign", .dat (.str (S [c]))), (Str.ofString "line", .dat (.str (S l))), (Str.ofString "turned", .dat (.str (S (turn l)))), (Str.ofString "words", .val (.ref ad)), (Str.ofString "place", .dat (.int pl)), (Str.ofString "fresh", .dat (.bool (decide (c = 32))))]
        (ExS.ifX (v := decide (c = 39 ∨ c = 34)) (Tr.of (Tr.cmp ?y1 ?y2 (Op2.inStrs (ys := [Str.ofString "'", Str.ofString "\""]))) ?y3) (fun hm => ?h1) (fun hm => ?h2)) ?_
      case y1 => walk_at "ev"
      case y2 => walk_at "ev"
      case y3 =>
        simp only [e34, e39, List.any_cons, List.any_nil, S_beq]
        by_cases h : c = 39 <;> by_cases h' : c = 34 <;> simp [h, h'] <;> omega
      case h1 =>
        have hm' : c = 39 ∨ c = 34 := of_decide_eq_true hm
        rw [if_pos hm'] at hst hpl'
        have e257 : Str.ofString "257 " = S [50, 53, 55, 32] := by decide
        generalize hlt : (if c = 34 then l else turn l) = lt
        have hltl : lt.length = l.length := by rw [← hlt]; split <;> simp [turn_length]
        have hsl : sl lt (some (place : Int)) none = 34 :: (if c = 34 then r else turn r) := by
          rw [sl_from, ← hlt]
          rcases hm' with rfl | rfl
          · simp only [if_neg (show ¬ (39 : Nat) = 34 by decide)]
            unfold turn
            rw [← List.map_drop, hcr]; rfl
          · simp only [if_true]; exact hcr
        generalize hsc : (if c = 34 then scanQ 34 r else scan (turn r)) = sc
        have hscl : sc.length = st.length := by
          rw [← hsc, ← hst]
          rcases hm' with rfl | rfl
          · simp only [if_neg (show ¬ (39 : Nat) = 34 by decide)]
            rw [scan_eq, ← turn_length, turn_scan]
          · simp
        refine' Ex.consM [(ad, wsD ws1)] [(Str.ofString "strand", .dat (.str (S sc))), (Str.ofString "sign", .dat (.str (S [c]))), (Str.ofString "line", .dat (.str (S l))), (Str.ofString "turned", .dat (.str (S (turn l)))), (Str.ofString "words", .val (.ref ad)), (Str.ofString "place", .dat (.int place)), (Str.ofString "fresh", .dat (.bool (decide (c = 32))))]
          (ExS.assign (d := .str (S sc)) (.inl (by rfl)) (Ev.callF (Ev.global (by rfl) N.parse257) (KI _ _ (by rfl)) (by rfl) (EvL.consE (Ev.bin Ev.strC (Ev.sliceStr (x := lt) (Ev.ite (v := decide (c = 34)) (Tr.of ?z1 ?z2) (fun h => ?z3) (fun h => ?z4)) (EvP.yes ?z5) EvP.no ?z6) (Op2.addStr ?z7)) EvL.nilE) (OpN.con (c_parse257 KI N) ⟨[50, 53, 55, 32] ++ sl lt (some (place : Int)) none, ?w1, ?w2, ?w3, ?w4⟩ ?w5 ?w6)) (nextN ?nx)) ?_
        case z1 => walk_at "tr"
        case z2 => rw [e34, S_beq]; by_cases h : c = 34 <;> simp [h]
        case z3 =>
          have : c = 34 := of_decide_eq_true h
          refine Ev.of (Ev.name (by rfl)) ?_
          rw [← hlt, if_pos this]
        case z4 =>
          have : ¬ c = 34 := of_decide_eq_false h
          refine Ev.of (Ev.name (by rfl)) ?_
          rw [← hlt, if_neg this]
        case z5 => walk_at "ev"
        case z6 => rw [hltl, sizeLine_eq]; omega
        case z7 =>
          have := sl_length_le lt (some (place : Int)) none
          rw [e257, S_length, S_length, sizeLine_eq]
          simp only [List.length_cons, List.length_nil]
          omega
        case w1 => rw [e257, S_append]
        case w2 =>
          have := sl_length_le lt (some (place : Int)) none
          simp only [List.length_append, List.length_cons, List.length_nil]
          omega
        case w3 => rfl
        case w4 =>
          have e3 : ([50, 53, 55, 32] ++ sl lt (some (place : Int)) none).drop 3 = 32 :: sl lt (some (place : Int)) none := rfl
          have e5 : ([50, 53, 55, 32] ++ sl lt (some (place : Int)) none).drop 5 = (sl lt (some (place : Int)) none).drop 1 := rfl
          unfold p257
          have e7 : ∀ z : List Nat, List.take 2 (32 :: 34 :: z) = [32, 34] := fun _ => rfl
          rw [e3, e5, hsl, if_pos (e7 _), ← hsc]
          rcases hm' with rfl | rfl
          · rfl
          · rw [← scan_eq]; rfl
        case w5 => show A.depth + 1 + 1 < _; omega
        case w6 => show A.units + 3 + 40 * 1 + 100 < _; omega
        case nx => walk_at "sub"
        have hscl2 : sc.length ≤ r.length := by
          rw [hscl, ← hst]; exact scanQ_len c r
        refine' Ex.consM [(ad, wsD ws1)] [(Str.ofString "strand", .dat (.str (S st))), (Str.ofString "sign", .dat (.str (S [c]))), (Str.ofString "line", .dat (.str (S l))), (Str.ofString "turned", .dat (.str (S (turn l)))), (Str.ofString "words", .val (.ref ad)), (Str.ofString "place", .dat (.int place)), (Str.ofString "fresh", .dat (.bool (decide (c = 32))))]
          (ExS.assign (d := .str (S st)) (.inl (by rfl)) (Ev.ite (v := decide (c = 34)) (Tr.of ?z1 ?z2) (fun h => ?z3) (fun h => ?z4)) (nextN ?z5)) ?_
        case z1 => walk_at "tr"
        case z2 => rw [e34, S_beq]; by_cases h : c = 34 <;> simp [h]
        case z3 =>
          have : c = 34 := of_decide_eq_true h
          refine Ev.of (Ev.name (by rfl)) ?_
          rw [← hsc, ← hst, if_pos this, this]
        case z4 =>
          have hn : ¬ c = 34 := of_decide_eq_false h
          have h39 : c = 39 := by omega
          refine Ev.callF (Ev.global (by rfl) N.turned) (KI _ _ (by rfl)) (by rfl) (EvL.consE (Ev.name (by rfl)) EvL.nilE) (OpN.con (c_turned KI) ⟨sc, rfl, ?_, ?_⟩ ?_ ?_)
          · omega
          · rw [← hsc, if_neg hn, scan_eq, turn_scan, ← hst, h39]
          · show A.depth + 1 + 1 < _; omega
          · show A.units + 3 + 40 * 1 + 100 < _; omega
        case z5 => walk_at "sub"
        refine' Ex.consX (ExS.assign (d := .int pl) (.inl (by rfl)) (Ev.of (Ev.bin (Ev.bin (Ev.bin ?z1 ?z2 Op2.addInt) (Ev.methS ?z3 ?z4 F.slot_str_count F.type_str_count (Op2.countOne (x := st) (y := c))) Op2.addInt) Ev.intC Op2.addInt) ?z5) (thenN (nilN ?nx)))
        case z1 => walk_at "ev"
        case z2 => walk_at "ev"
        case z3 => exact Ev.name (by rfl)
        case z4 => exact Ev.name (by rfl)
        case z5 =>
          congr 1
          rw [S_length, ← hpl', ← hst]
          have : (scanQ c r).count c = List.count c (scanQ c r) := rfl
          omega
        case nx => walk_at "sub"
      case h2 =>
        have hm' : ¬ (c = 39 ∨ c = 34) := of_decide_eq_false hm
        rw [if_neg hm'] at hst hpl'
        refine' Ex.consX (ExS.assign (d := .str (S st)) (.inl (by rfl)) (Ev.of (Ev.name (by rfl)) (by rw [← hst])) (thenN ?_))
        refine' Ex.consX (ExS.assign (d := .int pl) (.inl (by rfl)) (Ev.of ?z1 ?z2) (thenN (nilN ?nx)))
        case z1 => walk_at "ev"
        case z2 => rw [← hpl']; rfl
        case nx => walk_at "sub"
      have hstl : st.length ≤ r.length + 1 := by
        rw [← hst]; split
        · have := scanQ_len c r; omega
        · simp
      have hplc : place < pl := by rw [← hpl']; split <;> omega
      generalize hst2 : (if c = 32 then [] else st) = st2
      have hst2l : st2.length ≤ st.length := by rw [← hst2]; split <;> simp
      refine' Ex.consX (ExS.setLast (i := 0) (EvS.name (by rfl)) (by rfl) ?z1 (Ev.bin (Ev.itemOwn (EvS.name (by rfl)) (List.mem_singleton.mpr rfl) ?z2 ?z3 (wsD_last hp) ?z4) (Ev.ite (d := .str (S st2)) (v := decide (c = 32)) (Tr.boolE (Ev.name (by rfl))) (fun h => ?z5) (fun h => ?z6)) (Op2.addStr ?z7)) ?z8 ?z9 (thenN (Ex.nilX ?z10)))
      case z1 => walk_at "ev"
      case z2 => walk_at "ev"
      case z3 =>
        have : 0 < ws1.length := List.length_pos_iff.mpr hne1
        rw [wsD_length, seqIndex_neg (by decide) (by omega)]
        congr 1; omega
      case z4 => rw [wsD_length, sizeLine_eq]; omega
      case z5 =>
        refine Ev.of Ev.strC ?_
        rw [← hst2, if_pos (of_decide_eq_true h)]; rfl
      case z6 =>
        refine Ev.of (Ev.name (by rfl)) ?_
        rw [← hst2, if_neg (of_decide_eq_false h)]
      case z7 => rw [S_length, S_length, sizeLine_eq]; omega
      case z8 => intro h; exact hne1 (List.length_eq_zero_iff.mp (by rw [← wsD_length, h]; rfl))
      case z9 => rw [wsD_length, sizeLine_eq]; omega
      case z10 =>
        have eO : ([(ad, wsD ws1)] : List (Addr × List Dat)).set 0 (ad, (wsD ws1).dropLast ++ [.str (S p.2 ++ S st2)]) = [(ad, wsD (app ws1 st2))] := by
          rw [S_append, wsD_app st2 hp]; rfl
        rw [eO]
        have hdl : (l.drop pl).length = l.length - pl := List.length_drop
        have hwa := wsum_app (ws := ws1) st2
        have hla := app_length ws1 st2
        have hrem : rdL (l.drop pl) (decide (c = 32)) (app ws1 st2) = rd l := by
          rw [← hrd, ← hst2]
          by_cases hm : c = 39 ∨ c = 34
          · rw [if_pos hm] at hst hpl'
            rw [rdL_mark r fr ws hm, hws1, hst]
            have hc32 : ¬ c = 32 := by omega
            have e1 : l.drop pl = r.drop (st.length + st.count c + 1) := by
              rw [← hr, List.drop_drop, ← hpl', hst]; congr 1; omega
            rw [e1, if_neg hc32]; congr 1; simp [hc32]
          · rw [if_neg hm] at hst hpl'
            by_cases hc32 : c = 32
            · subst hc32
              rw [rdL_blank, hws1, if_pos rfl, app_nil, ← hpl', hr]; rfl
            · rw [rdL_sign r fr ws hm hc32, hws1, if_neg hc32, ← hst, ← hpl', hr]; congr 1; simp [hc32]
        have hcnt : st2.length + (l.drop pl).length ≤ r.length + 1 := by
          rw [hdl]
          by_cases hm : c = 39 ∨ c = 34
          · rw [if_pos hm] at hst hpl'
            rw [hst] at hpl'; omega
          · rw [if_neg hm] at hst hpl'
            rw [← hst] at hst2l; simp at hst2l; omega
        refine ⟨(l.drop pl).length, by rw [hdl, hll]; omega, _, ⟨ad, pl, decide (c = 32), app ws1 st2, rfl, rfl, fun _ => app_ne _ hne1, hrem, ?_, ?_, rfl⟩, by walk_at "sub"⟩
        · omega
        · rw [hla, hdl]; omega
end

section
variable {w : World} {mg mb : Str → Option Value} {G : Heap}
abbrev Step := Nat × Option (List Nat)
def oD : Option (List Nat) → Dat
  | none => .none
  | some t => .str (S t)
def stD1 (p : Step) : Dat := .tuple [.str (S [p.1]), oD p.2]
def stD (xs : List Step) : List Dat := xs.map stD1
def Rtext (ds : List Dat) (d : Dat) : Prop := ∃ xs : List Step, ds = [.list (stD xs)] ∧ xs.length ≤ 100000 ∧ d = .str (S (xs.map (·.1)))
theorem jn_ones {α : Type} (g : α → Nat) (l : List α) : jn [] (l.map fun c => [g c]) = l.map g := by
  rw [← jn_nil_ones (l.map g), List.map_map]; rfl
theorem sum_ones {α : Type} (g : α → Nat) (l : List α) : ((l.map fun c => [g c]).map List.length).sum = l.length := by
  induction l with
  | nil => rfl
  | cons a r ih => simp only [List.map_cons, List.sum_cons, ih, List.length_cons, List.length_nil]; omega
set_option maxHeartbeats 800000 in
theorem c_text (KI : (KK w).In G) : Con PR w mg mb G 1 116 Rtext := by
  refine Con.of_def [Str.ofString "steps"] (KI _ _ (by rfl)) (by rfl) ?_ (by rfl) (by rfl) (by rfl) (by rfl) (fun vs hv => ?_) (by decide) (by rfl) (fun ds d ⟨l, e, _⟩ => by rw [e]; rfl) (by decide) (by rfl) (by rfl) (by rfl) ?_
  · exact codeRec_of KI (by rfl)
  · match vs, hv with
    | [v], _ => rfl
  · rintro A L outer V s hd hu ds d ⟨xs, rfl, hlen, rfl⟩
    dsimp only [parm, List.map, List.zip_cons_cons, List.zip_nil_right]
    refine' Ex.consX (ExS.ret (Ev.of (Ev.methS (x := S []) ?x1 (Ev.compA (xs := xs) (j := stD1) (g := fun p => Dat.str (S [p.1])) (ρc := []) (It.list (ds := stD xs) ?x2) (by rfl) Cap.nil ?turn ?sz1) F.slot_str_join F.type_str_join (Op2.joinL (xs.map fun p => [p.1]) ?x5 ?x3)) ?x4) rfl)
    case x1 => exact Ev.strC
    case x2 => walk_at "ev"
    case x5 => simp
    case sz1 => walk_at "sz"
    case turn =>
      intro C s₁ V K D Dd acc p hp
      exact ⟨_, Sub.nilS _, As.tuple2 (.inl (by rfl)) (.inl (by rfl)), Ev.name (by rfl)⟩
    case x3 =>
      rw [sum_ones, sizeLine_eq]; simp; omega
    case x4 => rw [jn_ones]
end

section
variable {w : World} {mg mb : Str → Option Value} {G : Heap}
/-- the shell's dress of a text -/
def QZ : List Nat := [39, 34, 39, 34, 39]
def qt (l : List Nat) : List Nat := if l = [] then [39, 39] else if l.all safeN then l else 39 :: rep 39 QZ l ++ [39]
def Rquote (ds : List Dat) (d : Dat) : Prop := ∃ l : List Nat, ds = [.str (S l)] ∧ l.length ≤ 50000 ∧ d = .str (S (qt l))
theorem pat85 (KI : (KK w).In G) : PatIs G 85 77 76 :=
  ⟨KI _ _ (by rfl), ⟨_, _, _, _, _, _, KI _ _ (by rfl)⟩, ⟨_, _, _, KI _ _ (by rfl), by decide +kernel⟩⟩
set_option maxHeartbeats 800000 in
theorem c_quote (KI : (KK w).In G) (N : Names mg) : Con PR w mg mb G 1 92 Rquote := by
  refine Con.of_def [Str.ofString "s"] (KI _ _ (by rfl)) (by rfl) ?_ (by rfl) (by rfl) (by rfl) (by rfl) (fun vs hv => ?_) (by decide) (by rfl) (fun ds d ⟨l, e, _⟩ => by rw [e]; rfl) (by decide) (by rfl) (by rfl) (by rfl) ?_
  · exact codeRec_of KI (by rfl)
  · match vs, hv with
    | [v], _ => rfl
  · rintro A L outer V s hd hu ds d ⟨l, rfl, hlen, rfl⟩
    dsimp only [parm, List.map, List.zip_cons_cons, List.zip_nil_right]
    refine' Ex.consX (ExS.ifX (v := decide (l = [])) (Tr.of (Tr.notE (Tr.strE (Ev.name (by rfl)) ?x1)) ?x2) (fun h => ?h1) (fun h => ?h2))
    case x1 => rw [S_length, sizeLine_eq]; omega
    case x2 => rw [S_length]; cases l <;> simp; omega
    case h1 =>
      have : l = [] := of_decide_eq_true h
      refine Ex.consX (ExS.ret Ev.strC ?_)
      show Dat.str _ = Dat.str _
      rw [qt, if_pos this]; rfl
    case h2 =>
      have hne : ¬ l = [] := of_decide_eq_false h
      refine Ex.nilX (thenN ?_)
      refine' Ex.consX (ExS.ifX (v := l.all safeN) (Tr.findUnsafe (Ev.global (by rfl) N.find) (pat85 KI) (Ev.name (by rfl)) ?x1) (fun h => ?h1) (fun h => ?h2))
      case x1 => rw [sizeLine_eq]; omega
      case h1 =>
        refine Ex.consX (ExS.ret (Ev.name (by rfl)) ?_)
        show Dat.str _ = Dat.str _
        rw [qt, if_neg hne, if_pos h]
      case h2 =>
        have hl : (rep 39 QZ l).length ≤ l.length * 6 := rep_length 39 QZ l
        have e39 : Str.ofString "'" = S [39] := by decide
        have ez : Str.ofString "'\"'\"'" = S QZ := by decide
        refine Ex.nilX (thenN ?_)
        refine Ex.consX (ExS.ret (d := .str (S (qt l))) (Ev.of (Ev.bin (Ev.replC (a := Str.ofString "'") (y := 39) (z := QZ) (l := l) (by rfl) (by decide) (by omega) (by decide) ?_) Ev.strC (Op2.addStr ?_)) ?_) rfl)
        · rw [jn_cut, e39, S_length, sizeLine_eq]
          have : QZ.length = 5 := rfl
          simp; omega
        · rw [jn_cut, e39, S_append, S_length, S_length, sizeLine_eq]
          have : QZ.length = 5 := rfl
          simp; omega
        · rw [jn_cut, e39, S_append, S_append, qt, if_neg hne, if_neg (by rw [h]; decide)]
          rfl
end

section
variable {w : World} {mg mb : Str → Option Value} {G : Heap}
def Rjoin (ds : List Dat) (d : Dat) : Prop := ∃ ps : List (List Nat), ds = [.list (ps.map fun p => .str (S p))] ∧ ps.length ≤ sizeLine ∧ (∀ p ∈ ps, p.length ≤ 50000) ∧ ((ps.map qt).map List.length).sum + ps.length ≤ sizeLine ∧ d = .str (S (jn [32] (ps.map qt)))
theorem code83 (T : TopF w mg G) : CodeIs G 83 79 :=
  ⟨⟨_, _, _, _, _, _, _, _, _, T.KI _ _ (by rfl), rfl, rfl, rfl, rfl, rfl, rfl, rfl⟩, by decide, T.t79⟩
set_option maxHeartbeats 800000 in
theorem c_join (T : TopF w mg G) : Con PR w mg mb G 5 84 Rjoin := by
  refine Con.of_def [Str.ofString "split_command"] (T.KI _ _ (by rfl)) (by rfl) ?_ (by rfl) (by rfl) (by rfl) (by rfl) (fun vs hv => ?_) (by decide) (by rfl) (fun ds d ⟨l, e, _⟩ => by rw [e]; rfl) (by decide) (by rfl) (by rfl) (by rfl) ?_
  · exact codeRec_of T.KI (by rfl)
  · match vs, hv with
    | [v], _ => rfl
  · rintro A L outer V s hd hu ds d ⟨ps, rfl, hlen, hpl, hj, rfl⟩
    dsimp only [parm, List.map, List.zip_cons_cons, List.zip_nil_right]
    refine Ex.consX (ExS.ret (Ev.joinGen (sep := [32]) (ps := ps) (gf := qt) (code83 T) (by rfl) T.B (by rfl) (c_quote (erase_in T.KI) T.N) (fun p hp => ⟨p, rfl, hpl p hp, rfl⟩) (T.KI _ _ (by rfl)) (by rfl) (by rfl) T.N.quote (by rfl) (by rfl) (by decide) (by rfl) (by rfl) (by rfl) ?_ ?_ hlen ?_) rfl)
    · show A.depth + 1 + 2 < _; omega
    · show A.units + 3 + 8 + 40 + 100 < _; omega
    · simpa using hj
end

section
variable {w : World} {mg mb : Str → Option Value} {G : Heap}
def SAFE : List Nat := [97, 98, 99, 100, 101, 102, 103, 104, 105, 106, 107, 108, 109, 110, 111, 112, 113, 114, 115, 116, 117, 118, 119, 120, 121, 122, 65, 66, 67, 68, 69, 70, 71, 72, 73, 74, 75, 76, 77, 78, 79, 80, 81, 82, 83, 84, 85, 86, 87, 88, 89, 90, 48, 49, 50, 51, 52, 53, 54, 55, 56, 57, 95, 64, 37, 43, 61, 58, 44, 46, 47, 45]
theorem eSAFE : Str.ofString "abcdefghijklmnopqrstuvwxyzABCDEFGHIJKLMNOPQRSTUVWXYZ0123456789_@%+=:,./-" = S SAFE := by decide +kernel
def okw (w : List Nat) : Bool := !(w == []) && w.all fun c => decide (c ∈ SAFE)
def hid (x : Int) : List Step := if x ≠ 0 then [(34, some []), (34, some [34])] else [(39, some []), (34, some []), (39, some [39]), (34, some []), (39, some [])]
def mk (x : Int) : Nat := if x ≠ 0 then 34 else 39
def sg (x : Int) (c : Nat) : List Step := if c = mk x then hid x else [(c, some [c])]
def stp (x : Int) (w : List Nat) : List Step := if x = 0 ∧ okw w = true then w.map fun c => (c, some [c]) else (mk x, some []) :: (w.flatMap (sg x) ++ [(mk x, some [])])
/-- signs -/
def okc (l : List Nat) : Prop := ∀ c ∈ l, c < 1114112
theorem strOk_S {l : List Nat} (h : okc l) : PyData.strOk (S l) = true := by
  unfold PyData.strOk S
  simp only [List.size_toArray, List.all_toArray', List.all_eq_true, decide_eq_true_eq]
  exact h
def Rsteps (ds : List Dat) (d : Dat) : Prop := ∃ (l : List Nat) (x : Int), ds = [.str (S l), .int x] ∧ l.length ≤ 10000 ∧ okc l ∧ d = .list (stD (stp x l))
theorem sg_len (x : Int) (c : Nat) : (sg x c).length ≤ 5 := by
  unfold sg hid; split
  · split <;> simp
  · simp
theorem sgs_len (x : Int) (l : List Nat) : (l.flatMap (sg x)).length ≤ 5 * l.length := by
  induction l with
  | nil => simp
  | cons a r ih =>
    rw [List.flatMap_cons, List.length_append, List.length_cons]
    have := sg_len x a
    omega
theorem Ev.pair {f : Fm} {O : List (Addr × List Dat)} {ρ : List (Str × Slot)} {a b : Str} {k1 k2 k : Nat} {p1 p2 p : Pos} : Ev f O ρ (.Tuple [.Constant (.str a) k1 p1, .Constant (.str b) k2 p2] k p) (.tuple [.str a, .str b]) := Ev.tupleD (EvL.consE Ev.strC (EvL.consE Ev.strC EvL.nilE))
set_option maxHeartbeats 8000000 in
theorem c_steps (KI : (KK w).In G) : Con PR w mg mb G 1 104 Rsteps := by
  refine Con.of_def [Str.ofString "word", Str.ofString "dress"] (KI _ _ (by rfl)) (by rfl) ?_ (by rfl) (by rfl) (by rfl) (by rfl) (fun vs hv => ?_) (by decide) (by rfl) (fun ds d ⟨l, x, e, _⟩ => by rw [e]; rfl) (by decide) (by rfl) (by rfl) (by rfl) ?_
  · exact codeRec_of KI (by rfl)
  · match vs, hv with
    | [v1, v2], _ => rfl
  · rintro A L outer V s hd hu ds d ⟨l, x, rfl, hlen, hok, rfl⟩
    dsimp only [parm, List.map, List.zip_cons_cons, List.zip_nil_right]
    have hu2 : A.units + 3 + 64 < cLine := by omega
    have e34 : Str.ofString "\"" = S [34] := by decide
    have e39 : Str.ofString "'" = S [39] := by decide
    refine Ex.consX (ExS.assign (d := .str (S SAFE)) (.inr ⟨rfl, by rfl, _, by rfl⟩) (Ev.of Ev.strC (by rw [eSAFE])) (thenN ?_))
    refine' Ex.consX (ExS.ifX (v := decide (x = 0 ∧ okw l = true)) (Tr.of (Tr.andE (w := !(l == []) && l.all fun c => decide (c ∈ SAFE)) (Tr.notE (Tr.intE (Ev.name (by rfl)))) (fun h1 => Tr.of (Tr.andE (w := l.all fun c => decide (c ∈ SAFE)) (v := !(l == [])) (Tr.of (Tr.cmp (Ev.name (by rfl)) Ev.strC Op2.neStr) ?x4) fun h2 => Tr.of (Tr.andE (w := true) (v := l.all fun c => decide (c ∈ SAFE)) (Tr.cmp (Ev.comp (xs := l) (j := fun c => Dat.str (S [c])) (p := fun c => !decide (c ∈ SAFE)) (g := fun c => .str (S [c])) (ρc := [(Str.ofString "safe", .dat (.str (S SAFE)))]) (It.str (x := l) ?y1) (by rfl) ?y2 ?y3 ?y4) (Ev.listD EvL.nilE) (Op2.eqD ?y5 ?y6 hu2 ?y7)) fun _ => Tr.andNil) (by simp)) rfl)) ?x5) (fun h => ?h1) (fun h => ?h2))
    case x4 =>
      rw [show Str.ofString "" = S [] from rfl]
      simp only [bne, S_beq]
    case y1 => exact Ev.name (by rfl)
    case y2 =>
      refine Cap.of (Sub.consS (by rfl) (Sub.nilS _)) ?_ ?_ ?_
      · intro y hy
        rw [List.mem_singleton.mp hy]
        exact ⟨L + 1, by rfl, by rfl, .inl (by rfl), .inl (by rfl)⟩
      · intro p hp
        rw [List.mem_singleton.mp hp]; rfl
      · exact List.pairwise_singleton _ _
    case y3 =>
      intro C s₁ V' K D Dd acc i c hc
      refine ⟨_, ?_, As.name (.inl (by rfl)), Ts.one (Tr.cmp (Ev.name (by rfl)) (Ev.name (by rfl)) (Op2.notInStr1)), fun _ => Ev.name (by rfl)⟩
      walk_at "sub"
    case y4 => rw [sizeLine_eq]; omega
    case y5 =>
      simp only [kqdOk, List.all_eq_true]
      intro d hd
      unfold picked at hd
      obtain ⟨c, hc, rfl⟩ := List.mem_map.mp hd
      have hc' := hok c (List.mem_filter.mp hc).1
      exact strOk_S (fun y hy => by rw [List.mem_singleton.mp hy]; exact hc')
    case y6 => rfl
    case y7 =>
      rw [List.all_eq_true]
      unfold picked
      constructor
      · intro h
        rw [List.filter_eq_nil_iff.mpr fun c hc => by simp [of_decide_eq_true (h c hc)]]
        rfl
      · intro h c hc
        injection h with h
        have h' := List.filter_eq_nil_iff.mp (List.map_eq_nil_iff.mp h) c hc
        simpa using h'
    case x5 =>
      rw [Bool.eq_iff_iff]
      by_cases hx : x = 0 <;> simp [hx, okw]
    case h1 =>
      have h' := of_decide_eq_true h
      refine' Ex.consX (ExS.ret (Ev.of (Ev.compA (xs := l) (j := fun c => Dat.str (S [c])) (g := fun c => stD1 (c, some [c])) (ρc := []) (It.str (x := l) ?y1) (by rfl) Cap.nil ?y3 ?y4) ?y5) rfl)
      case y1 => exact Ev.name (by rfl)
      case y3 =>
        intro C s₁ V' K D Dd acc c hc
        exact ⟨_, Sub.nilS _, As.name (.inl (by rfl)), Ev.tupleD (EvL.consE (Ev.name (by rfl)) (EvL.consE (Ev.name (by rfl)) EvL.nilE))⟩
      case y4 => rw [sizeLine_eq]; omega
      case y5 =>
        rw [stp, if_pos h']; simp [stD]
    case h2 =>
      have h' : ¬ (x = 0 ∧ okw l = true) := of_decide_eq_false h
      refine Ex.nilX (thenN ?_)
      refine' Ex.consM [] [(Str.ofString "mark", .dat (.str (S [mk x]))), (Str.ofString "word", .dat (.str (S l))), (Str.ofString "dress", .dat (.int x))] (ExS.assign (d := .str (S [mk x])) (.inr ⟨rfl, by rfl, _, by rfl⟩) (Ev.ite (v := x != 0) (Tr.intE (Ev.name (by rfl))) (fun h => ?y1) (fun h => ?y2)) (nextN ?y3)) ?_
      case y1 =>
        have hx : x ≠ 0 := by simpa using h
        exact Ev.of Ev.strC (by rw [e34, mk, if_pos hx])
      case y2 =>
        have hx : ¬ x ≠ 0 := by simpa using h
        exact Ev.of Ev.strC (by rw [e39, mk, if_neg hx])
      case y3 => walk_at "sub"
      refine' Ex.consM [] [(Str.ofString "hidden", .dat (.list (stD (hid x)))), (Str.ofString "mark", .dat (.str (S [mk x]))), (Str.ofString "word", .dat (.str (S l))), (Str.ofString "dress", .dat (.int x))] (ExS.assign (d := .list (stD (hid x))) (.inr ⟨rfl, by rfl, _, by rfl⟩) (Ev.ite (v := x != 0) (Tr.intE (Ev.name (by rfl))) (fun h => ?y1) (fun h => ?y2)) (nextN ?y3)) ?_
      case y1 =>
        have hx : x ≠ 0 := by simpa using h
        refine Ev.of (d := .list [.tuple [.str (Str.ofString "\""), .str (Str.ofString "")], .tuple [.str (Str.ofString "\""), .str (Str.ofString "\"")]]) (Ev.listD (EvL.consE Ev.pair (EvL.consE Ev.pair EvL.nilE))) ?_
        rw [hid, if_pos hx, e34]; rfl
      case y2 =>
        have hx : ¬ x ≠ 0 := by simpa using h
        refine Ev.of (d := .list [.tuple [.str (Str.ofString "'"), .str (Str.ofString "")], .tuple [.str (Str.ofString "\""), .str (Str.ofString "")], .tuple [.str (Str.ofString "'"), .str (Str.ofString "'")], .tuple [.str (Str.ofString "\""), .str (Str.ofString "")], .tuple [.str (Str.ofString "'"), .str (Str.ofString "")]]) ?_ ?_
        · walk_at "ev"
        rw [hid, if_neg hx, e34, e39]; rfl
      case y3 => walk_at "sub"
      have hpk := sgs_len x l
      refine Ex.consX (ExS.ret (d := .list (stD (stp x l))) (Ev.of (d := .list ([stD1 (mk x, some [])] ++ (l.flatMap (sg x)).map stD1 ++ [stD1 (mk x, some [])])) ?_ ?_) rfl)
      · refine' Ev.bin (Ev.bin (a := .list [stD1 (mk x, some [])]) (b := .list ((l.flatMap (sg x)).map stD1)) ?y1 (Ev.comp2 (xs := l) (j := fun c => Dat.str (S [c])) (ys := sg x) (j2 := stD1) (g2 := stD1) (ρc := [(Str.ofString "hidden", .dat (.list (stD (hid x)))), (Str.ofString "mark", .dat (.str (S [mk x])))]) (It.str (x := l) ?y2) (by rfl) ?y3 ?y4 ?y5 (by intro _ _; rfl)) (Op2.addList ?y6)) (b := .list [stD1 (mk x, some [])]) ?y7 (Op2.addList ?y8)
        case y1 =>
          refine Ev.of (Ev.listD (EvL.consE (Ev.tupleD (EvL.consE (Ev.name (by rfl)) (EvL.consE Ev.strC EvL.nilE))) EvL.nilE)) ?_
          rfl
        case y2 => walk_at "ev"
        case y3 =>
          refine Cap.of (Sub.consS (by rfl) (Sub.consS (by rfl) (Sub.nilS _))) ?_ ?_ ?_
          · intro y hy
            simp only [List.map_cons, List.map_nil, List.mem_cons, List.not_mem_nil, or_false] at hy
            rcases hy with rfl | rfl
            · exact ⟨_, by rfl, by rfl, .inl (by rfl), .inl (by rfl)⟩
            · exact ⟨_, by rfl, by rfl, .inl (by rfl), .inl (by rfl)⟩
          · intro p hp
            simp only [List.mem_cons, List.not_mem_nil, or_false] at hp
            rcases hp with rfl | rfl <;> rfl
          · refine List.pairwise_cons.mpr ⟨fun b hb => ?_, List.pairwise_singleton _ _⟩
            rw [List.mem_singleton.mp hb]
            exact Nat.ne_of_lt (Nat.lt_succ_self _)
        case y4 =>
          intro C s₁ V' K D Dd acc c hc
          refine' ⟨_, ?_, As.name (.inl (by rfl)), It.list (Ev.ite (d := .list ((sg x c).map stD1)) (v := decide (c = mk x)) (Tr.of (Tr.cmp (Ev.name (by rfl)) (Ev.name (by rfl)) Op2.eqStr) ?z1) (fun h => ?z2) (fun h => ?z3)), fun V'' K'' D'' acc' y hy => ⟨_, ?_, As.name (.inl (by rfl)), Ev.name (by rfl)⟩⟩
          case refine'_1 => walk_at "sub"
          case z1 => rw [S_beq]; by_cases h : c = mk x <;> simp [h]
          case z2 =>
            have h' := of_decide_eq_true h
            refine Ev.of (Ev.name (by rfl)) ?_
            rw [sg, if_pos h']; rfl
          case z3 =>
            have h' := of_decide_eq_false h
            refine Ev.of (Ev.listD (EvL.consE (Ev.tupleD (EvL.consE (Ev.name (by rfl)) (EvL.consE (Ev.name (by rfl)) EvL.nilE))) EvL.nilE)) ?_
            rw [sg, if_neg h']; rfl
          case refine'_2 => walk_at "sub"
        case y5 => rw [sizeLine_eq]; omega
        case y6 => simp only [List.length_cons, List.length_nil, List.length_map, sizeLine_eq]; omega
        case y7 =>
          refine Ev.of (Ev.listD (EvL.consE (Ev.tupleD (EvL.consE (Ev.name (by rfl)) (EvL.consE Ev.strC EvL.nilE))) EvL.nilE)) ?_
          rfl
        case y8 => simp only [List.length_append, List.length_cons, List.length_nil, List.length_map, sizeLine_eq]; omega
      · rw [stp, if_neg h']
        simp [stD]
end

section
variable {w : World} {mg mb : Str → Option Value} {G : Heap}
def wD (ws : List (List Nat)) : List Dat := ws.map fun p => Dat.str (S p)
def iD (xs : List Int) : List Dat := xs.map Dat.int
def lineP (ps : List (List Nat × Int)) : List Step := ps.flatMap fun p => (32, none) :: stp p.2 p.1
def Rline (ds : List Dat) (d : Dat) : Prop := ∃ (ws : List (List Nat)) (xs : List Int), ds = [.list (wD ws), .list (iD xs)] ∧ (∀ p ∈ ws, p.length ≤ 10000 ∧ okc p) ∧ (lineP (ws.zip xs)).length ≤ 100000 ∧ d = .list (stD ((lineP (ws.zip xs)).drop 1))
theorem lineP_take (ps : List (List Nat × Int)) (i : Nat) (p : List Nat × Int) (h : ps[i]? = some p) : lineP (ps.take (i + 1)) = lineP (ps.take i) ++ ((32, none) :: stp p.2 p.1) := by
  unfold lineP
  rw [List.take_add_one, h, List.flatMap_append]
  simp
theorem lineP_le (ps : List (List Nat × Int)) (i : Nat) : (lineP (ps.take i)).length ≤ (lineP ps).length := by
  have : lineP ps = lineP (ps.take i) ++ lineP (ps.drop i) := by
    unfold lineP
    rw [← List.flatMap_append, List.take_append_drop]
  rw [this, List.length_append]; omega
theorem zip_wD (ws : List (List Nat)) (xs : List Int) : ((wD ws).zip (iD xs)).map (fun p => Dat.tuple [p.1, p.2]) = (ws.zip xs).map fun p => Dat.tuple [.str (S p.1), .int p.2] := by
  unfold wD iD
  rw [List.zip_map, List.map_map]; rfl
set_option maxHeartbeats 1600000 in
theorem c_line (KI : (KK w).In G) (N : Names mg) : Con PR w mg mb G 2 111 Rline := by
  have hz := N.zip
  refine Con.of_def [Str.ofString "words", Str.ofString "dresses"] (KI _ _ (by rfl)) (by rfl) ?_ (by rfl) (by rfl) (by rfl) (by rfl) (fun vs hv => ?_) (by decide) (by rfl) (fun ds d ⟨l, x, e, _⟩ => by rw [e]; rfl) (by decide) (by rfl) (by rfl) (by rfl) ?_
  · exact codeRec_of KI (by rfl)
  · match vs, hv with
    | [v1, v2], _ => rfl
  · rintro A L outer V s hd hu ds d ⟨ws, xs, rfl, hws, hlen, rfl⟩
    dsimp only [parm, List.map, List.zip_cons_cons, List.zip_nil_right]
    generalize hps : ws.zip xs = ps at hlen
    refine Ex.consX (ExS.assign (d := .list []) (.inl (by rfl)) (Ev.listD EvL.nilE) (thenN ?_))
    refine' Ex.consX (ExS.forX (It.zipC (d1 := wD ws) (d2 := iD xs) (Ev.builtin (by rfl) hz boot_zip) ?x1 ?x2) (fun i O ρ => O = [] ∧ ρ = [(Str.ofString "steps", .dat (.list (stD (lineP (ps.take i)))))]) ?x3 ?x4 ?x5 ?x6)
    case x1 => exact Ev.name (by rfl)
    case x2 => exact Ev.name (by rfl)
    case x3 => exact ⟨_, ⟨rfl, rfl⟩, by walk_at "sub"⟩
    case x4 => rintro i O' ρ' ⟨rfl, _⟩; rfl
    case x5 =>
      rintro V' K D i O' ρ' d ⟨rfl, rfl⟩ hd'
      rw [zip_wD, hps, List.getElem?_map] at hd'
      obtain ⟨p, hp, rfl⟩ := Option.map_eq_some_iff.mp hd'
      refine ⟨_, As.tuple2 (.inl (by rfl)) (.inl (by rfl)), ?_⟩
      have hpm : p ∈ ws.zip xs := by rw [hps]; exact List.mem_of_getElem? hp
      obtain ⟨h1, h2⟩ := hws p.1 (List.of_mem_zip hpm).1
      have hle := lineP_le ps (i + 1)
      rw [lineP_take ps i p hp, List.length_append, List.length_cons] at hle
      refine' Ex.consX (ExS.assign (d := .list (stD (lineP (ps.take (i + 1))))) (.inl (by rfl)) (Ev.of (Ev.bin (Ev.bin (Ev.name (by rfl)) ?y1 (Op2.addList ?y2)) (Ev.callF (Ev.global (by rfl) N.steps) (KI _ _ (by rfl)) (by rfl) (EvL.consE (Ev.name (by rfl)) (EvL.consE (Ev.name (by rfl)) EvL.nilE)) (OpN.con (c_steps KI) ⟨p.1, p.2, rfl, h1, h2, rfl⟩ ?y3 ?y4)) (Op2.addList ?y5)) ?y6) (thenN (Ex.nilX ⟨_, ⟨rfl, rfl⟩, ?y7⟩)))
      case y1 => exact Ev.listD (EvL.consE (Ev.tupleD (EvL.consE Ev.strC (EvL.consE Ev.noneC EvL.nilE))) EvL.nilE)
      case y2 => simp only [stD, List.length_cons, List.length_nil, List.length_map, sizeLine_eq]; omega
      case y3 => show A.depth + 1 + 1 < _; omega
      case y4 => show A.units + 3 + 40 * 1 + 100 < _; omega
      case y5 => simp only [stD, List.length_append, List.length_cons, List.length_nil, List.length_map, sizeLine_eq]; omega
      case y6 =>
        rw [lineP_take ps i p hp]
        unfold stD
        rw [List.map_append, List.append_assoc]; rfl
      case y7 => walk_at "sub"
    case x6 =>
      rintro O' ρ' ⟨rfl, rfl⟩
      have hl : ((List.zip (wD ws) (iD xs)).map fun p => Dat.tuple [p.1, p.2]).length = ps.length := by rw [zip_wD, hps, List.length_map]
      rw [hl, List.take_length]
      refine thenN (Ex.consX (ExS.ret (Ev.of (Ev.sliceList (lo := some 1) (hi := none) (Ev.name (by rfl)) (EvP.yes Ev.intC) EvP.no ?_) ?_) rfl))
      · simp only [stD, List.length_map, sizeLine_eq]; omega
      · have := sl_from (stD (lineP ps)) 1
        simp only [Int.natCast_one] at this
        rw [this]
        unfold stD
        rw [List.map_drop]
end

section
variable {w : World} {mg mb : Str → Option Value} {G : Heap}
def rt (l : List Nat) : List Nat := 34 :: rep 34 [34, 34] l ++ [34]
def drs (x : Int) (l : List Nat) : List Nat := if x ≠ 0 then rt l else qt l
def tD (p : List Nat × Int) : Dat := .tuple [.str (S p.1), .int p.2]
def Rworn (ds : List Dat) (d : Dat) : Prop := ∃ (ws : List (List Nat)) (xs : List Int), ds = [.list (wD ws), .list (iD xs)] ∧ (∀ p ∈ ws, p.length ≤ 10000) ∧ (ws.zip xs).length ≤ 10000 ∧ ((ws.zip xs).map fun p => (drs p.2 p.1).length).sum + (ws.zip xs).length ≤ sizeLine ∧ d = .str (S (jn [32] ((ws.zip xs).map fun p => drs p.2 p.1)))
set_option maxHeartbeats 1600000 in
theorem c_worn (KI : (KK w).In G) (N : Names mg) : Con PR w mg mb G 2 121 Rworn := by
  have hz := N.zip
  refine Con.of_def [Str.ofString "words", Str.ofString "dresses"] (KI _ _ (by rfl)) (by rfl) ?_ (by rfl) (by rfl) (by rfl) (by rfl) (fun vs hv => ?_) (by decide) (by rfl) (fun ds d ⟨l, x, e, _⟩ => by rw [e]; rfl) (by decide) (by rfl) (by rfl) (by rfl) ?_
  · exact codeRec_of KI (by rfl)
  · match vs, hv with
    | [v1, v2], _ => rfl
  · rintro A L outer V s hd hu ds d ⟨ws, xs, rfl, hws, hlen, hsum, rfl⟩
    dsimp only [parm, List.map, List.zip_cons_cons, List.zip_nil_right]
    have e34 : Str.ofString "\"" = S [34] := by decide
    have e3434 : Str.ofString "\"\"" = S [34, 34] := by decide
    refine' Ex.consX (ExS.ret (Ev.methS (x := S [32]) ?x1 (Ev.compA (xs := ws.zip xs) (j := tD) (g := fun p : List Nat × Int => Dat.str (S (drs p.2 p.1))) (ρc := []) ?x2 (by rfl) Cap.nil ?turn ?sz1) F.slot_str_join F.type_str_join (Op2.joinL ((ws.zip xs).map fun p : List Nat × Int => drs p.2 p.1) ?x5 ?x3)) rfl)
    case x1 => exact Ev.of Ev.strC (by rw [show Str.ofString " " = S [32] from by decide])
    case x2 =>
      have : (ws.zip xs).map tD = ((wD ws).zip (iD xs)).map fun p => Dat.tuple [p.1, p.2] := by rw [zip_wD]; rfl
      rw [this]
      exact It.zipC (Ev.builtin (by rfl) hz boot_zip) (Ev.name (by rfl)) (Ev.name (by rfl))
    case turn =>
      intro C s₁ V' K D Dd acc p hp
      have hpl := hws p.1 (List.of_mem_zip hp).1
      refine' ⟨_, Sub.nilS _, As.tuple2 (.inl (by rfl)) (.inl (by rfl)), Ev.ite (v := p.2 != 0) (Tr.intE (Ev.name (by rfl))) (fun h => ?y1) (fun h => ?y2)⟩
      case y1 =>
        have hx : p.2 ≠ 0 := by simpa using h
        have hr : (rep 34 [34, 34] p.1).length ≤ p.1.length * 3 := rep_length 34 [34, 34] p.1
        have hc := cut_len 34 p.1
        have hj : ((cut 34 p.1).map List.length).sum + (cut 34 p.1).length * 2 ≤ sizeLine := by
          have h1 : ((cut 34 p.1).map List.length).sum ≤ p.1.length := by
            clear hpl hr hc hp
            induction p.1 with
            | nil => simp [cut]
            | cons a r ih =>
              unfold cut
              split
              · simp only [List.map_cons, List.sum_cons, List.length_nil, List.length_cons]; omega
              · split
                · rename_i q qs e
                  rw [e] at ih
                  simp only [List.map_cons, List.sum_cons, List.length_cons] at ih ⊢; omega
                · simp
          rw [sizeLine_eq]; omega
        refine Ev.of (Ev.bin (Ev.bin Ev.strC (Ev.methS (x := S [34, 34]) (Ev.of Ev.strC (by rw [e3434])) (Ev.methS (x := S p.1) (Ev.name (by rfl)) (Ev.of Ev.strC (by rw [e34])) F.slot_str_split F.type_str_split (Op2.splitOne (x := p.1) (y := 34) ?_)) F.slot_str_join F.type_str_join (Op2.joinL (cut 34 p.1) rfl ?_)) (Op2.addStr ?_)) Ev.strC (Op2.addStr ?_)) ?_
        · rw [sizeLine_eq]; omega
        · exact hj
        · rw [jn_cut, e34, S_length, S_length, sizeLine_eq]; simp only [List.length_cons, List.length_nil]; omega
        · rw [jn_cut, e34, S_append, S_length, S_length, sizeLine_eq]; simp only [List.length_append, List.length_cons, List.length_nil]; omega
        · rw [jn_cut, e34, S_append, S_append]; show Dat.str _ = Dat.str (S (drs p.2 p.1)); unfold drs; rw [if_pos hx]; rfl
      case y2 =>
        have hx : ¬ p.2 ≠ 0 := by simpa using h
        refine Ev.of (Ev.callF (Ev.global (by rfl) N.quote) (KI _ _ (by rfl)) (by rfl) (EvL.consE (Ev.name (by rfl)) EvL.nilE) (OpN.con (c_quote KI N) ⟨p.1, rfl, by omega, rfl⟩ ?_ ?_)) (by show Dat.str _ = Dat.str (S (drs p.2 p.1)); unfold drs; rw [if_neg hx])
        · show A.depth + 1 + 1 < _; omega
        · show A.units + 3 + 40 * 1 + 100 < _; omega
    case sz1 => rw [sizeLine_eq]; omega
    case x5 => rw [List.map_map]; rfl
    case x3 =>
      simp only [List.map_map, List.length_map, List.length_cons, List.length_nil]
      have : (ws.zip xs).map (List.length ∘ fun p => drs p.2 p.1) = (ws.zip xs).map fun p => (drs p.2 p.1).length := rfl
      rw [this]; omega
end

section
variable {w : World} {mg mb : Str → Option Value} {G : Heap}
def far (c : Int) : Nat := (128 + (c.fdiv 16).fmod 1113984).toNat
def sgs (c : Int) : List Nat := [39, 34, 32, 97, 39, 34, 92, 47, 233, 10, 13, 9, far c]
def sgn (c : Int) : Nat := (sgs c).getD (c.fmod 16).toNat 0
def wbeg (ws : List (List Nat)) (c : Int) : List (List Nat) := if c.fmod 16 = 13 ∨ c.fmod 16 = 14 ∨ (c.fmod 16 < 13 ∧ ws = []) then ws ++ [[]] else ws
def wstep (ws : List (List Nat)) (c : Int) : List (List Nat) := if c.fmod 16 < 13 then (wbeg ws c).dropLast ++ [(wbeg ws c).getLastD [] ++ [sgn c]] else wbeg ws c
def wordsOf (cs : List Int) : List (List Nat) := cs.foldl wstep []
def Rwords (ds : List Dat) (d : Dat) : Prop := ∃ cs : List Int, ds = [.list (iD cs)] ∧ cs.length ≤ 1000 ∧ d = .list (wD (wordsOf cs))
theorem wordsOf_take (cs : List Int) (i : Nat) (c : Int) (h : cs[i]? = some c) : wordsOf (cs.take (i + 1)) = wstep (wordsOf (cs.take i)) c := by
  unfold wordsOf
  rw [List.take_add_one, h, List.foldl_append]; rfl
theorem wbeg_cases (ws : List (List Nat)) (c : Int) : wbeg ws c = ws ++ [[]] ∨ wbeg ws c = ws := by
  unfold wbeg; split
  · exact .inl rfl
  · exact .inr rfl
theorem wbeg_ne (ws : List (List Nat)) (c : Int) (h : c.fmod 16 < 13) : wbeg ws c ≠ [] := by
  unfold wbeg; split
  · simp
  · rename_i hn
    intro e
    exact hn (.inr (.inr ⟨h, e⟩))
theorem far_lt (c : Int) : far c < 1114112 ∧ 128 ≤ far c := by
  unfold far
  have h1 := Int.fmod_nonneg_of_pos (c.fdiv 16) (show (0 : Int) < 1113984 by decide)
  have h2 := Int.fmod_lt_of_pos (c.fdiv 16) (show (0 : Int) < 1113984 by decide)
  omega
theorem sgn_ok (c : Int) : sgn c < 1114112 := by
  have hf := far_lt c
  unfold sgn sgs
  generalize (c.fmod 16).toNat = k
  match k with
  | 0 | 1 | 2 | 3 | 4 | 5 | 6 | 7 | 8 | 9 | 10 | 11 => simp
  | 12 => exact hf.1
  | k + 13 => exact Nat.zero_lt_succ _
/-- what is kept of the words -/
structure WOk (i : Nat) (ws : List (List Nat)) : Prop where
  n : ws.length ≤ i
  l : ∀ p ∈ ws, p.length ≤ i ∧ okc p
theorem okc_nil : okc [] := fun c h => nomatch h
theorem okc_app {a b : List Nat} (ha : okc a) (hb : okc b) : okc (a ++ b) := fun c h => by
  rcases List.mem_append.mp h with h | h
  · exact ha c h
  · exact hb c h
theorem WOk.beg {i : Nat} {ws : List (List Nat)} (h : WOk i ws) (c : Int) : (wbeg ws c).length ≤ i + 1 ∧ ∀ p ∈ wbeg ws c, p.length ≤ i ∧ okc p := by
  rcases wbeg_cases ws c with e | e <;> rw [e]
  · refine ⟨by have := h.n; simp; omega, fun p hp => ?_⟩
    rcases List.mem_append.mp hp with hp | hp
    · exact h.l p hp
    · rw [List.mem_singleton.mp hp]; exact ⟨by simp, okc_nil⟩
  · exact ⟨by have := h.n; omega, h.l⟩
theorem getLastD_mem {ws : List (List Nat)} (h : ws ≠ []) : ws.getLastD [] ∈ ws := by
  rw [List.getLastD_eq_getLast?, List.getLast?_eq_some_getLast h]
  exact List.getLast_mem h
theorem WOk.step {i : Nat} {ws : List (List Nat)} (h : WOk i ws) (c : Int) : WOk (i + 1) (wstep ws c) := by
  obtain ⟨h1, h2⟩ := h.beg c
  unfold wstep
  split
  · rename_i hc
    have hne := wbeg_ne ws c hc
    have hpos : 0 < (wbeg ws c).length := List.length_pos_iff.mpr hne
    obtain ⟨g1, g2⟩ := h2 _ (getLastD_mem hne)
    refine ⟨by simp; omega, fun p hp => ?_⟩
    rcases List.mem_append.mp hp with hp | hp
    · obtain ⟨a, b⟩ := h2 p (List.dropLast_subset _ hp)
      exact ⟨by omega, b⟩
    · rw [List.mem_singleton.mp hp]
      refine ⟨by simp only [List.length_append, List.length_cons, List.length_nil]; omega, okc_app g2 fun x hx => ?_⟩
      rw [List.mem_singleton.mp hx]; exact sgn_ok c
  · exact ⟨h1, fun p hp => let ⟨a, b⟩ := h2 p hp; ⟨by omega, b⟩⟩
theorem WOk.words (cs : List Int) : ∀ i, i ≤ cs.length → WOk i (wordsOf (cs.take i))
  | 0, _ => ⟨by simp [wordsOf], by simp [wordsOf]⟩
  | i + 1, h => by
    have hc : cs[i]? = some cs[i] := List.getElem?_eq_getElem (by omega)
    rw [wordsOf_take cs i _ hc]
    exact (WOk.words cs i (by omega)).step _
theorem kqd_wD {ws : List (List Nat)} (h : ∀ p ∈ ws, okc p) : kqdOk 8 (.list (wD ws)) = true := by
  simp only [kqdOk, List.all_eq_true]
  intro d hd
  obtain ⟨p, hp, rfl⟩ := List.mem_map.mp hd
  exact strOk_S (h p hp)
theorem wD_inj {a b : List (List Nat)} : wD a = wD b ↔ a = b := by
  constructor
  · intro h
    unfold wD at h
    induction a generalizing b with
    | nil => cases b with
      | nil => rfl
      | cons x y => simp at h
    | cons x y ih =>
      cases b with
      | nil => simp at h
      | cons p q =>
        simp only [List.map_cons, List.cons.injEq, Dat.str.injEq] at h
        rw [S_inj.mp h.1, ih h.2]
  · rintro rfl; rfl
def Iwords (cs : List Int) (i : Nat) (O : List (Addr × List Dat)) (ρ : List (Str × Slot)) (ad : Addr) : Prop :=
  O = [(ad, wD (wordsOf (cs.take i)))] ∧ ρ = [(Str.ofString "words", .val (.ref ad))]
theorem sgsl (c : Int) : (sgs c).length = 13 := rfl
theorem listOf13 {c : Int} : [Dat.str (Str.ofString "'"), .str (Str.ofString "\""), .str (Str.ofString " "), .str (Str.ofString "a"), .str (Str.ofString "'"), .str (Str.ofString "\""), .str (Str.ofString "\\"), .str (Str.ofString "/"), .str (Str.ofString "é"), .str (Str.ofString "\n"), .str (Str.ofString "\r"), .str (Str.ofString "\t"), .str (S [far c])] = (sgs c).map fun x => Dat.str (S [x]) := by
  have h : ∀ (a : Str) (n : Nat), a = S [n] → a = S [n] := fun _ _ h => h
  rw [show Str.ofString "'" = S [39] from by decide, show Str.ofString "\"" = S [34] from by decide, show Str.ofString " " = S [32] from by decide, show Str.ofString "a" = S [97] from by decide, show Str.ofString "\\" = S [92] from by decide, show Str.ofString "/" = S [47] from by decide, show Str.ofString "é" = S [233] from by decide, show Str.ofString "\n" = S [10] from by decide, show Str.ofString "\r" = S [13] from by decide, show Str.ofString "\t" = S [9] from by decide]
  rfl
set_option maxHeartbeats 4000000 in
theorem c_words (KI : (KK w).In G) (N : Names mg) : Con PR w mg mb G 1 99 Rwords := by
  have hch := N.chr
  refine Con.of_def [Str.ofString "cells"] (KI _ _ (by rfl)) (by rfl) ?_ (by rfl) (by rfl) (by rfl) (by rfl) (fun vs hv => ?_) (by decide) (by rfl) (fun ds d ⟨l, e, _⟩ => by rw [e]; rfl) (by decide) (by rfl) (by rfl) (by rfl) ?_
  · exact codeRec_of KI (by rfl)
  · match vs, hv with
    | [v1], _ => rfl
  · rintro A L outer V s hd hu ds d ⟨cs, rfl, hlen, rfl⟩
    dsimp only [parm, List.map, List.zip_cons_cons, List.zip_nil_right]
    have hu2 : A.units + 3 + 64 < cLine := by omega
    refine Ex.consX (ExS.assignOwn (.inl (by rfl)) EvL.nilE fun ad => thenN ?_)
    refine' Ex.consX (ExS.forX (tgt := .Name _ _) (It.list (ds := iD cs) ?x1) (fun i O ρ => Iwords cs i O ρ ad) ?x3 ?x4 ?x5 ?x6)
    case x1 => exact Ev.name (by rfl)
    case x3 => exact ⟨_, ⟨rfl, rfl⟩, by walk_at "sub"⟩
    case x4 => rintro i O' ρ' ⟨rfl, _⟩; rfl
    case x5 =>
      rintro V' K D i O' ρ' d ⟨rfl, rfl⟩ hd'
      unfold iD at hd'
      rw [List.getElem?_map] at hd'
      obtain ⟨c, hc, rfl⟩ := Option.map_eq_some_iff.mp hd'
      have hilt : i < cs.length := (List.getElem?_eq_some_iff.mp hc).1
      have hW := WOk.words cs i (by omega)
      generalize hws : wordsOf (cs.take i) = ws at hW
      obtain ⟨hb1, hb2⟩ := hW.beg c
      refine ⟨_, As.name (.inl (by rfl)), ?_⟩
      have hk0 := Int.fmod_nonneg_of_pos c (show (0 : Int) < 16 by decide)
      have hk1 := Int.fmod_lt_of_pos c (show (0 : Int) < 16 by decide)
      refine Ex.consX (ExS.assign (d := .int (c.fmod 16)) (.inl (by rfl)) (Ev.bin (Ev.name (by rfl)) Ev.intC (Op2.modInt (by decide))) (thenN ?_))
      refine' Ex.consM [(ad, wD (wbeg ws c))] [(Str.ofString "words", .val (.ref ad)), (Str.ofString "cell", .dat (.int c)), (Str.ofString "kind", .dat (.int (c.fmod 16)))] (ExS.ifX (v := decide (c.fmod 16 = 13 ∨ c.fmod 16 = 14 ∨ (c.fmod 16 < 13 ∧ ws = [])))
        (Tr.of (Tr.orE (v := decide (c.fmod 16 = 13 ∨ c.fmod 16 = 14)) (w := decide (c.fmod 16 < 13 ∧ ws = [])) (Tr.of (Tr.cmp (Ev.name (by rfl)) ?y1 (Op2.inInts (ys := [13, 14]))) ?y2) (fun _ => Tr.of (Tr.orE (v := decide (c.fmod 16 < 13 ∧ ws = [])) (w := false) (Tr.of (Tr.andE (v := decide (c.fmod 16 < 13)) (w := decide (ws = [])) (Tr.cmp (Ev.name (by rfl)) Ev.intC Op2.ltInt) fun _ => Tr.of (Tr.andE (v := decide (ws = [])) (w := true) (Tr.eqOwn (es := []) (EvS.name (by rfl)) (List.mem_singleton.mpr rfl) (Ev.listD EvL.nilE) ?y3 (by rfl) hu2 ?y4) fun _ => Tr.andNil) (by simp)) ?y5) fun _ => Tr.orNil) (by simp))) ?y6) (fun h => ?h1) (fun h => ?h2)) ?_
      case y1 => exact Ev.tupleD (EvL.consE Ev.intC (EvL.consE Ev.intC EvL.nilE))
      case y2 =>
        rw [Bool.eq_iff_iff]
        simp only [List.any_cons, List.any_nil, Bool.or_false, Bool.or_eq_true, beq_iff_eq, decide_eq_true_eq]
        omega
      case y3 => exact kqd_wD fun p hp => (hW.l p hp).2
      case y4 =>
        rw [decide_eq_true_eq]
        exact ⟨fun h => by rw [h]; rfl, fun h => wD_inj.mp (show wD ws = wD [] from h)⟩
      case y5 => rw [Bool.eq_iff_iff]; simp
      case y6 => rw [Bool.eq_iff_iff]; simp [or_assoc]
      case h1 =>
        have h' := of_decide_eq_true h
        refine Ex.consX (ExS.append (i := 0) (EvS.name (by rfl)) (by rfl) Ev.strC ?_ (thenN ?_))
        · unfold wD; rw [List.length_map, sizeLine_eq]; have := hW.n; omega
        · have e : ([(ad, wD ws)] : List (Addr × List Dat)).set 0 (ad, wD ws ++ [.str (Str.ofString "")]) = [(ad, wD (wbeg ws c))] := by
            rw [wbeg, if_pos h']
            unfold wD
            rw [List.map_append]; rfl
          rw [e]
          exact nilN (by walk_at "sub")
      case h2 =>
        have h' := of_decide_eq_false h
        have e : wbeg ws c = ws := by rw [wbeg, if_neg h']
        rw [e]
        exact nilN (by walk_at "sub")
      have hst : wordsOf (cs.take (i + 1)) = wstep ws c := by rw [wordsOf_take cs i c hc, hws]
      refine' Ex.consX (ExS.ifX (v := decide (c.fmod 16 < 13)) (Tr.cmp (Ev.name (by rfl)) Ev.intC Op2.ltInt) (fun h => ?h1) (fun h => ?h2))
      case h2 =>
        have h' := of_decide_eq_false h
        refine Ex.nilX (thenN (Ex.nilX ⟨_, ⟨?_, rfl⟩, by walk_at "sub"⟩))
        rw [hst, wstep, if_neg h']
      case h1 =>
        have h' := of_decide_eq_true h
        have hne := wbeg_ne ws c h'
        have hwl : (wD (wbeg ws c)).length = (wbeg ws c).length := by unfold wD; rw [List.length_map]
        have hpos : 0 < (wbeg ws c).length := List.length_pos_iff.mpr hne
        have hm0 := Int.fmod_nonneg_of_pos (c.fdiv 16) (show (0 : Int) < 1113984 by decide)
        have hm1 := Int.fmod_lt_of_pos (c.fdiv 16) (show (0 : Int) < 1113984 by decide)
        refine Ex.consX (ExS.assign (d := .str (S [far c])) (.inl (by rfl)) (Ev.callB (Ev.builtin (by rfl) hch boot_chr) (EvL.consE (Ev.bin Ev.intC (Ev.bin (Ev.bin (Ev.name (by rfl)) Ev.intC (Op2.fdivInt (by decide) (PyProof.noPylong_of_log2 (by decide +kernel)))) Ev.intC (Op2.modInt (by decide))) Op2.addInt) EvL.nilE) (OpN.chr ?_ ?_)) (thenN ?_))
        · omega
        · omega
        · refine' Ex.consX (ExS.setLast (i := 0) (d := .str (S ((wbeg ws c).getLastD [] ++ [sgn c]))) (EvS.name (by rfl)) (by rfl) (Ev.neg Ev.intC) (Ev.of (Ev.bin (Ev.itemOwn (d := .str (S ((wbeg ws c).getLastD []))) (EvS.name (by rfl)) (List.mem_singleton.mpr rfl) (Ev.neg Ev.intC) ?z1 ?z2 ?z3) (Ev.itemList (d := .str (S [sgn c])) (ds := (sgs c).map fun x => Dat.str (S [x])) (j := (c.fmod 16).toNat) ?z4 (Ev.name (by rfl)) ?z5 ?z6 ?z7) (Op2.addStr ?z8)) (by rw [S_append])) ?z9 ?z10 (thenN (Ex.nilX (thenN (Ex.nilX ⟨_, ⟨?z11, rfl⟩, ?z12⟩)))))
          case z1 => rw [hwl]; exact seqIndex_neg (by decide) (by omega)
          case z2 =>
            have e1 : (-1 + ((wbeg ws c).length : Int)).toNat = (wbeg ws c).length - 1 := by omega
            rw [e1]
            unfold wD
            rw [List.getElem?_map, ← List.getLast?_eq_getElem?, List.getLastD_eq_getLast?, List.getLast?_eq_some_getLast hne]; rfl
          case z3 => rw [hwl, sizeLine_eq]; omega
          case z4 => rw [← listOf13]; walk_at "ev"
          case z5 => rw [List.length_map, sgsl]; exact seqIndex_of hk0 (by omega)
          case z6 =>
            rw [List.getElem?_map]
            have hlt : (c.fmod 16).toNat < (sgs c).length := by rw [sgsl]; omega
            rw [sgn, List.getD_eq_getElem?_getD, List.getElem?_eq_getElem hlt]; rfl
          case z7 => rw [List.length_map, sgsl, sizeLine_eq]; omega
          case z8 =>
            have := (hb2 _ (getLastD_mem hne)).1
            rw [S_length, S_length, sizeLine_eq]; simp only [List.length_cons, List.length_nil]; omega
          case z9 => intro e; rw [e] at hwl; simp only [List.length_nil] at hwl; omega
          case z10 => rw [hwl, sizeLine_eq]; omega
          case z11 =>
            rw [hst, wstep, if_pos h']
            unfold wD
            rw [List.map_append, List.map_dropLast]; rfl
          case z12 => walk_at "sub"
    case x6 =>
      rintro O' ρ' ⟨rfl, rfl⟩
      have hl : (iD cs).length = cs.length := by unfold iD; rw [List.length_map]
      rw [hl, List.take_length]
      exact thenN (Ex.consX (ExS.retOwn (EvS.name (by rfl)) (List.mem_singleton.mpr rfl) rfl))
end

section
variable {w : World} {mg mb : Str → Option Value} {G : Heap}
def tstep (a : List (List Nat) × Bool) (p : Step) : List (List Nat) × Bool :=
  match p.2 with
  | none => (a.1, true)
  | some t => (if a.2 then a.1 ++ [t] else a.1.dropLast ++ [a.1.getLastD [] ++ t], false)
def told (xs : List Step) : List (List Nat) × Bool := xs.foldl tstep ([], true)
theorem told_take (xs : List Step) (i : Nat) (p : Step) (h : xs[i]? = some p) : told (xs.take (i + 1)) = tstep (told (xs.take i)) p := by
  unfold told
  rw [List.take_add_one, h, List.foldl_append]; rfl
/-- the steps' parts are small -/
def SOk (xs : List Step) : Prop := ∀ p ∈ xs, p.1 < 1114112 ∧ ∀ t, p.2 = some t → t.length ≤ 1 ∧ okc t
structure TOk (i : Nat) (a : List (List Nat) × Bool) : Prop where
  n : a.1.length ≤ i
  l : ∀ p ∈ a.1, p.length ≤ i ∧ okc p
  ne : a.2 = false → a.1 ≠ []
theorem TOk.step {i : Nat} {a : List (List Nat) × Bool} {p : Step} (h : TOk i a) (hp : ∀ t, p.2 = some t → t.length ≤ 1 ∧ okc t) : TOk (i + 1) (tstep a p) := by
  unfold tstep
  split
  · exact ⟨Nat.le_succ_of_le h.n, fun p hp => let ⟨a, b⟩ := h.l p hp; ⟨Nat.le_succ_of_le a, b⟩, fun h => nomatch h⟩
  · rename_i t e
    obtain ⟨h1, h2⟩ := hp t e
    have hn := h.n
    cases hf : a.2
    · have hne := h.ne hf
      have hpos : 0 < a.1.length := List.length_pos_iff.mpr hne
      obtain ⟨g1, g2⟩ := h.l _ (getLastD_mem hne)
      refine ⟨?_, fun q hq => ?_, fun _ => by simp⟩
      · show (a.1.dropLast ++ [a.1.getLastD [] ++ t]).length ≤ _
        simp only [List.length_append, List.length_dropLast, List.length_cons, List.length_nil]; omega
      · have hq : q ∈ a.1.dropLast ++ [a.1.getLastD [] ++ t] := hq
        rcases List.mem_append.mp hq with hq | hq
        · obtain ⟨x, y⟩ := h.l q (List.dropLast_subset _ hq)
          exact ⟨by omega, y⟩
        · rw [List.mem_singleton.mp hq]
          exact ⟨by rw [List.length_append]; omega, okc_app g2 h2⟩
    · refine ⟨?_, fun q hq => ?_, fun _ => by simp⟩
      · show (a.1 ++ [t]).length ≤ _
        simp only [List.length_append, List.length_cons, List.length_nil]; omega
      · have hq : q ∈ a.1 ++ [t] := hq
        rcases List.mem_append.mp hq with hq | hq
        · obtain ⟨x, y⟩ := h.l q hq
          exact ⟨by omega, y⟩
        · rw [List.mem_singleton.mp hq]
          exact ⟨by omega, h2⟩
theorem TOk.told (xs : List Step) (hx : SOk xs) : ∀ i, i ≤ xs.length → TOk i (told (xs.take i))
  | 0, _ => ⟨by simp [Mine.told], by simp [Mine.told], fun h => nomatch h⟩
  | i + 1, h => by
    have hc : xs[i]? = some xs[i] := List.getElem?_eq_getElem (by omega)
    rw [told_take xs i _ hc]
    exact (TOk.told xs hx i (by omega)).step (hx _ (List.getElem_mem _)).2
def Rtorn (ds : List Dat) (d : Dat) : Prop := ∃ xs : List Step, ds = [.list (stD xs)] ∧ xs.length ≤ 50000 ∧ SOk xs ∧ (∀ i, i < xs.length → (rd ((xs.take (i + 1)).map (·.1))).map (·.2) = (told (xs.take (i + 1))).1) ∧ d = .bool true
theorem wsD_wD (ws : List (Nat × List Nat)) : wsD ws = wD (ws.map (·.2)) := by unfold wsD wD; rw [List.map_map]; rfl
theorem Op2.isNoneO {f : Fm} {O : List (Addr × List Dat)} {ρ : List (Str × Slot)} {to : Option (List Nat)} : Op2 f O ρ (compareOp .Is) (oD to) .none (.bool to.isNone) := by
  intro s va vb Q E st ha hb k
  cases hb
  cases to with
  | none => cases ha; exact is_none_none (k _ _ (.refl s) (.bool _))
  | some t => cases ha; exact is_str_none (k _ _ (.refl s) (.bool _))
theorem sl_but {α : Type} (l : List α) : sl l none (some (-1)) = l.dropLast := by
  simp only [sl, Option.elim, List.drop_zero, Nat.sub_zero]
  rw [List.dropLast_eq_take]
  congr 1
  unfold clipAt
  simp
  omega
set_option maxHeartbeats 4000000 in
theorem c_torn (KI : (KK w).In G) (N : Names mg) : Con PR w mg mb G 3 140 Rtorn := by
  refine Con.of_def [Str.ofString "steps"] (KI _ _ (by rfl)) (by rfl) ?_ (by rfl) (by rfl) (by rfl) (by rfl) (fun vs hv => ?_) (by decide) (by rfl) (fun ds d ⟨l, e, _⟩ => by rw [e]; rfl) (by decide) (by rfl) (by rfl) (by rfl) ?_
  · exact codeRec_of KI (by rfl)
  · match vs, hv with
    | [v1], _ => rfl
  · rintro A L outer V s hd hu ds d ⟨xs, rfl, hlen, hx, H, rfl⟩
    dsimp only [parm, List.map, List.zip_cons_cons, List.zip_nil_right]
    have hu2 : A.units + 3 + 64 < cLine := by omega
    refine Ex.consX (ExS.assign (d := .str (S [])) (.inl (by rfl)) (Ev.of Ev.strC rfl) (thenN ?_))
    refine Ex.consX (ExS.assign (d := .list (wD [])) (.inl (by rfl)) (Ev.listD EvL.nilE) (thenN ?_))
    refine Ex.consX (ExS.assign (d := .bool true) (.inl (by rfl)) Ev.boolC (thenN ?_))
    refine' Ex.consX (ExS.forX (tgt := .Tuple [.Name _ _, .Name _ _] _ _) (It.list (ds := stD xs) ?x1) (fun i O ρ => O = [] ∧ ρ = [(Str.ofString "text", .dat (.str (S ((xs.take i).map (·.1))))), (Str.ofString "words", .dat (.list (wD (told (xs.take i)).1))), (Str.ofString "fresh", .dat (.bool (told (xs.take i)).2))]) ?x3 ?x4 ?x5 ?x6)
    case x1 => exact Ev.name (by rfl)
    case x3 => exact ⟨_, ⟨rfl, rfl⟩, by walk_at "sub"⟩
    case x4 => rintro i O' ρ' ⟨rfl, _⟩; rfl
    case x6 =>
      rintro O' ρ' ⟨rfl, rfl⟩
      exact thenN (Ex.consX (ExS.ret Ev.boolC rfl))
    case x5 =>
      rintro V' K D i O' ρ' d ⟨rfl, rfl⟩ hd'
      unfold stD at hd'
      rw [List.getElem?_map] at hd'
      obtain ⟨p, hp, rfl⟩ := Option.map_eq_some_iff.mp hd'
      have hilt : i < xs.length := (List.getElem?_eq_some_iff.mp hp).1
      have hT := TOk.told xs hx i (by omega)
      have hpx := hx p (List.mem_of_getElem? hp)
      have hT1 := hT.step hpx.2
      have ht := told_take xs i p hp
      have htx : (xs.take (i + 1)).map (·.1) = (xs.take i).map (·.1) ++ [p.1] := by rw [List.take_add_one, hp]; simp
      have hH := H i hilt
      have hlx : ((xs.take (i + 1)).map (·.1)).length ≤ 50000 := by rw [List.length_map, List.length_take]; omega
      rw [ht] at hH
      generalize told (xs.take i) = a at hT hT1 ht hH
      generalize htx0 : (xs.take i).map (·.1) = tx at htx
      rw [htx] at hH hlx
      obtain ⟨c, to⟩ := p
      refine ⟨_, As.tuple2 (d1 := .str (S [c])) (d2 := oD to) (.inl (by rfl)) (.inl (by rfl)), ?_⟩
      refine' Ex.consM [] [(Str.ofString "text", .dat (.str (S (tx ++ [c])))), (Str.ofString "words", .dat (.list (wD a.1))), (Str.ofString "fresh", .dat (.bool a.2)), (Str.ofString "told", .dat (oD to))] (ExS.assign (d := .str (S (tx ++ [c]))) (.inl (by rfl)) (Ev.of (Ev.bin (Ev.name (by rfl)) (Ev.name (by rfl)) (Op2.addStr ?y1)) (by rw [S_append])) (nextN ?y2)) ?_
      case y1 => rw [S_length, S_length, sizeLine_eq]; simp only [List.length_append, List.length_cons, List.length_nil] at hlx ⊢; omega
      case y2 => walk_at "sub"
      generalize hb : tstep a (c, to) = b at hH hT1 ht
      refine' Ex.consM [] [(Str.ofString "text", .dat (.str (S (tx ++ [c])))), (Str.ofString "words", .dat (.list (wD b.1))), (Str.ofString "fresh", .dat (.bool b.2))] (ExS.ifX (v := to.isNone) (Tr.cmp (Ev.name (by rfl)) Ev.noneC ?y1) (fun h => ?h1) (fun h => ?h2)) ?_
      case y1 => exact Op2.isNoneO
      case h1 =>
        have e : to = none := by simpa using h
        subst e
        refine Ex.consX (ExS.assign (d := .bool true) (.inl (by rfl)) Ev.boolC (thenN ?_))
        rw [← hb]
        exact nilN (by walk_at "sub")
      case h2 =>
        obtain ⟨t, rfl⟩ : ∃ t, to = some t := by cases to with
          | none => cases h
          | some t => exact ⟨t, rfl⟩
        have hn := hT.n
        have hwl : (wD a.1).length = a.1.length := by unfold wD; rw [List.length_map]
        have ht1 := (hpx.2 t rfl).1
        refine' Ex.consX (ExS.assign (d := .list (wD b.1)) (.inl (by rfl)) (Ev.ite (v := a.2) (Tr.boolE (Ev.name (by rfl))) (fun h => ?z1) (fun h => ?z2)) (thenN ?_))
        case z1 =>
          refine Ev.of (Ev.bin (Ev.name (by rfl)) (Ev.listD (EvL.consE (Ev.name (by rfl)) EvL.nilE)) (Op2.addList ?_)) ?_
          · rw [hwl, sizeLine_eq]; simp only [List.length_cons, List.length_nil]; omega
          · rw [← hb]
            show _ = Dat.list (wD (if a.2 = true then a.1 ++ [t] else _))
            rw [if_pos h]
            unfold wD; rw [List.map_append]; rfl
        case z2 =>
          have hne := hT.ne h
          have hpos : 0 < a.1.length := List.length_pos_iff.mpr hne
          have hgl := (hT.l _ (getLastD_mem hne)).1
          refine Ev.of (Ev.bin (Ev.sliceList (lo := none) (hi := some (-1)) (Ev.name (by rfl)) EvP.no (EvP.yes (Ev.neg Ev.intC)) ?_) (Ev.listD (EvL.consE (Ev.bin (Ev.itemList (d := .str (S (a.1.getLastD []))) (j := a.1.length - 1) (Ev.name (by rfl)) (Ev.neg Ev.intC) ?_ ?_ ?_) (Ev.name (by rfl)) (Op2.addStr ?_)) EvL.nilE)) (Op2.addList ?_)) ?_
          · rw [hwl, sizeLine_eq]; omega
          · rw [hwl]
            have e1 : (-1 + (a.1.length : Int)).toNat = a.1.length - 1 := by omega
            rw [← e1]; exact seqIndex_neg (by decide) (by omega)
          · unfold wD
            rw [List.getElem?_map, ← List.getLast?_eq_getElem?, List.getLastD_eq_getLast?, List.getLast?_eq_some_getLast hne]; rfl
          · rw [hwl, sizeLine_eq]; omega
          · rw [S_length, S_length, sizeLine_eq]; omega
          · rw [sl_but, List.length_dropLast, hwl, sizeLine_eq]; simp only [List.length_cons, List.length_nil]; omega
          · rw [← hb, sl_but]
            show _ = Dat.list (wD (if a.2 = true then a.1 ++ [t] else a.1.dropLast ++ [a.1.getLastD [] ++ t]))
            rw [if_neg (by rw [h]; decide)]
            unfold wD; rw [List.map_append, S_append, List.map_dropLast]; rfl
        · refine Ex.consX (ExS.assign (d := .bool false) (.inl (by rfl)) Ev.boolC (thenN ?_))
          have hb2 : b.2 = false := by rw [← hb]; rfl
          rw [hb2]
          exact nilN (by walk_at "sub")
      refine' Ex.consX (ExS.ifX (v := false) (Tr.of (Tr.cmp (a := .list (wD b.1)) (b := .list (wD b.1)) (Ev.callF (Ev.global (by rfl) N.read) (KI _ _ (by rfl)) (by rfl) (EvL.consE (Ev.name (by rfl)) EvL.nilE) (OpN.con (c_read KI N) ⟨tx ++ [c], rfl, ?y1, ?y2⟩ ?y3 ?y4)) (Ev.name (by rfl)) (Op2.neD (b := true) ?y5 ?y6 hu2 ?y7)) rfl) (fun h => nomatch h) (fun h => Ex.nilX (thenN (Ex.nilX ⟨_, ⟨rfl, rfl⟩, ?y8⟩))))
      case y1 => exact Nat.le_trans hlx (by decide)
      case y2 => rw [wsD_wD, hH]
      case y3 => show A.depth + 1 + 2 < _; omega
      case y4 => show A.units + 3 + 40 * 2 + 100 < _; omega
      case y5 => exact kqd_wD fun p hp => (hT1.l p hp).2
      case y6 => exact kqd_wD fun p hp => (hT1.l p hp).2
      case y7 => exact ⟨fun _ => rfl, fun _ => rfl⟩
      case y8 =>
        rw [ht, htx]
        walk_at "sub"
end

section
variable {w : World} {mg mb : Str → Option Value} {G : Heap}
def X257 (ds : List Dat) (cls : Value) (x : Str) : Prop := ∃ l : List Nat, ds = [.str (S l)] ∧ l.length ≤ 1000000 ∧ l.take 3 ≠ [50, 53, 55] ∧ cls = .ref 54 ∧ x = S l
theorem err54 (KI : (KK w).In G) : ErrCls G 54 :=
  ⟨_, 53, _, _, _, _, _, _, _, _, _, _, _, _, _, _, _, KI _ _ (by rfl), .of_isNs (isNs_of_in KI (by kernel_rfl)), nsMap_none_of_in KI (by kernel_rfl) (by kernel_rfl), tail_of_in KI (by kernel_rfl)⟩
set_option maxHeartbeats 1600000 in
theorem r_parse257 (KI : (KK w).In G) (N : Names mg) : ConR PR w mg mb G 1 63 X257 := by
  refine ConR.of_def [Str.ofString "resp"] (KI _ _ (by rfl)) (by rfl) ?_ (by rfl) (by rfl) (by rfl) (by rfl) (fun vs hv => ?_) (by decide) (by rfl) (fun ds cls as ⟨l, e, _⟩ => by rw [e]; rfl) (by decide) (by rfl) (by rfl) (by rfl) ?_
  · exact codeRec_of KI (by rfl)
  · match vs, hv with
    | [v], _ => rfl
  · rintro A L outer V s hd hu ds cls as ⟨l, rfl, hlen, hpre, rfl, rfl⟩
    dsimp only [parm, List.map, List.zip_cons_cons, List.zip_nil_right]
    refine ExR.consIf (Tr.of (Tr.cmp (Ev.sliceStr (x := l) (lo := none) (hi := some 3) (Ev.name (by rfl)) EvP.no (EvP.yes Ev.intC) ?_) Ev.strC Op2.neStr) ?_) (ExR.raise (Ev.global (by rfl) N.err) (err54 KI) (Ev.name (by rfl)))
    · rw [sizeLine_eq]; omega
    · have e1 : sl l none (some 3) = l.take 3 := sl_upto l 3
      have e2 : Str.ofString "257" = S [50, 53, 55] := by decide
      rw [e1, e2]
      simp only [bne, S_beq]
      simp [hpre]
def Rasked (ds : List Dat) (d : Dat) : Prop := ∃ l : List Nat, ds = [.str (S l)] ∧ l.length ≤ 1000000 ∧ d = if l.take 3 = [50, 53, 55] then .str (S (p257 l)) else .list [.str (S l)]
set_option maxHeartbeats 1600000 in
theorem c_asked (KI : (KK w).In G) (N : Names mg) : ConF PR w mg mb G 2 147 Rasked := by
  refine ConF.of_def [Str.ofString "reply"] (KI _ _ (by rfl)) (by rfl) ?_ (by rfl) (by rfl) (by rfl) (by rfl) (fun vs hv => ?_) (by decide) (by rfl) (fun ds d ⟨l, e, _⟩ => by rw [e]; rfl) (by decide) (by rfl) (by rfl) (by rfl) ?_
  · exact codeRec_of KI (by rfl)
  · match vs, hv with
    | [v], _ => rfl
  · rintro A L outer V s hst hd hu ds d ⟨l, rfl, hlen, rfl⟩
    dsimp only [parm, List.map, List.zip_cons_cons, List.zip_nil_right]
    by_cases hpre : l.take 3 = [50, 53, 55]
    · rw [if_pos hpre]
      refine Ex.consX (ExS.tryOk (Ev.callF (Ev.global (by rfl) N.parse257) (KI _ _ (by rfl)) (by rfl) (EvL.consE (Ev.name (by rfl)) EvL.nilE) (OpN.con (c_parse257 KI N) ⟨l, rfl, hlen, hpre, rfl⟩ ?_ ?_)) rfl)
      · show A.depth + 1 + 1 < _; omega
      · show A.units + 3 + 40 * 1 + 100 < _; omega
    · rw [if_neg hpre]
      refine Ex.consX (ExS.tryAs (K := KK w) (C := 54) (EvX.callF (Ev.global (by rfl) N.parse257) (KI _ _ (by rfl)) (by rfl) (EvL.consE (Ev.name (by rfl)) EvL.nilE) (r_parse257 KI N) ⟨l, rfl, hlen, hpre, rfl, rfl⟩ ?_ ?_ ?_) ?_ rfl rfl KI (by kernel_rfl) (by kernel_rfl) (err54 KI) (by rfl) N.err (by rfl) (by rfl) N.str boot_str ?_ rfl)
      · exact Around.frames_deeper hst
      · show A.depth + 1 + 1 < _; omega
      · show A.units + 3 + 40 * 1 + 100 < _; omega
      · exact Around.frames_deeper hst
      · show A.units + 3 + 10 < _; omega
end

section
variable {w : World} {mg mb : Str → Option Value} {G : Heap}
/-- reduce over a list or a range from a start on -/
theorem c_reduce (KI : (KK w).In G) (N : Names mg) {lvl : Nat} {A : Around} {outer : List Env} {V : List Addr} {s : Shared} {fa : Addr} {vq vi : Value} {ds : List Dat} {g : Nat → List Dat} {R : List Dat → Dat → Prop} {Q E : Value → Shared → Prop} (pre : Pre mg mb G (lvl + 1) A outer V s)
    (FN : FnAt PR w mg mb G lvl s V fa R) (hq : SeqV V s.heap vq ds) (hi : Has V s.heap vi (.list (g 0))) (hR : ∀ j d, ds[j]? = some d → R [.list (g j), d] (.list (g (j + 1)))) (k : ∀ v s', Mv G (outer.filterMap (·.frame)) s s' → Has V s'.heap v (.list (g ds.length)) → Q v s') :
    wpAny (model PR w) A (call (.ref 72) [.ref fa, vq, vi]) Q E s := by
  obtain ⟨slq, K, hsl, hK, hseq⟩ : ∃ (slq : Slot) (K : List (Addr × Obj)), SlotIs V s.heap slq vq ∧ (∀ p ∈ K, s.heap.get? p.1 = some p.2 ∧ KeepOk p.2) ∧ ∀ (f : Fm) (ρ : List (Str × Slot)), f.V₀ = V → f.K = K → ∀ s' v, St f [] ρ s' → SlotIs (f.V []) s'.heap slq v → SeqV (f.V []) s'.heap v ds := by
    rcases hq with hq | ⟨r, n, t, u, x, rfl, hr, hn, rfl⟩
    · exact ⟨.dat (.list ds), [], hq, fun p hp => (nomatch hp), fun f ρ e1 e2 s' v st hv => .inl hv⟩
    · refine ⟨.val (.ref r), [(r, rangeObj n t u x)], rfl, fun p hp => ?_, fun f ρ e1 e2 s' v st hv => .inr ⟨r, n, t, u, x, hv, ?_, hn, rfl⟩⟩
      · rw [List.mem_singleton.mp hp]; exact ⟨hr, keep_fields rfl rfl⟩
      · exact (st.kep (r, rangeObj n t u x) (by rw [e2]; exact List.mem_singleton.mpr rfl)).1
  refine enter_def (binds := [(Str.ofString "function", .ref fa), (Str.ofString "sequence", vq), (Str.ofString "initial", vi)]) (ρ := [(Str.ofString "function", .val (.ref fa)), (Str.ofString "sequence", slq), (Str.ofString "initial", .dat (.list (g 0)))]) (K := K) pre (by omega) (KI _ _ (by rfl)) (by rfl) (codeRec_of KI (by rfl)) (by rfl) (by rfl) (by rfl) (by rfl) (kp_binds (KI.keeps pre.bel.stays) fun S => by rfl) (by decide) (ps := [Str.ofString "function", Str.ofString "sequence", Str.ofString "initial"]) rfl (by rfl) (by decide) ?_ hK (by rfl) (by rfl) (by rfl) ?_ k
  · intro x sl hx
    simp only [List.lookup_cons, List.lookup_nil] at hx
    split at hx
    · rename_i h; cases hx; have := eq_of_beq h; subst this; exact ⟨_, List.mem_cons_self, rfl⟩
    · split at hx
      · rename_i h; cases hx; have := eq_of_beq h; subst this; exact ⟨_, List.mem_cons_of_mem _ List.mem_cons_self, hsl⟩
      · split at hx
        · rename_i h; cases hx; have := eq_of_beq h; subst this; exact ⟨_, List.mem_cons_of_mem _ (List.mem_cons_of_mem _ List.mem_cons_self), hi⟩
        · cases hx
  · intro L
    refine Ex.iterAs (ds := ds) (sl := slq) (.inl (by rfl)) (Ev.builtin (by rfl) N.iter boot_iter) (EvS.name (by rfl)) (fun s' v st hv => hseq _ _ rfl rfl s' v st hv) fun it V' K' D H => ?_
    refine ExH.consM (O₁ := []) (ρ₁ := [(Str.ofString "function", .val (.ref fa)), (Str.ofString "it", .val it), (Str.ofString "value", .dat (.list (g 0)))]) (ExS.ifX (v := false) (Tr.isNot (ds := g 0) (Ev.name (by rfl)) (Ev.global (by rfl) N.missing) (KI _ _ (by rfl)) (by intro i n h; exact nomatch h)) (fun h => nomatch h) fun _ => ?_) ?_
    · refine Ex.consX (ExS.assign (.inl (by rfl)) (Ev.name (by rfl)) (thenN (Ex.nilX ⟨_, rfl, ?_⟩)))
      walk_at "sub"
    · refine ExH.forHeld (H _ _) (by rfl) (Nat.zero_le _) (fun j ρ => ρ = [(Str.ofString "function", .val (.ref fa)), (Str.ofString "value", .dat (.list (g j)))]) ⟨_, rfl, by walk_at "sub"⟩ ?_ ?_
      · rintro K'' j ρ' d rfl hd
        refine ⟨_, As.name (.inl (by rfl)), ?_⟩
        refine Ex.consX (ExS.assign (d := .list (g (j + 1))) (.inl (by rfl)) (Ev.callFn (EvS.name (by rfl)) FN (fun a ha => ?_) (EvL.consE (Ev.name (by rfl)) (EvL.consE (Ev.name (by rfl)) EvL.nilE)) (hR j d hd) ?_ ?_) (thenN (Ex.nilX ⟨_, _, rfl, rfl, ?_⟩)))
        · exact (H (Str.ofString "") default).new a (by simpa using ha)
        · have := pre.dep; show A.depth + 1 + lvl < _; omega
        · have := pre.uni; show A.units + _ + 40 * lvl + 100 < _; omega
        · walk_at "sub"
      · rintro ρ' rfl
        exact Ex.consX (ExS.ret (Ev.name (by rfl)) rfl)
end

/-- a line's text -/
def lnT (ws : List (List Nat)) (xs : List Int) : List Nat := ((lineP (ws.zip xs)).drop 1).map (·.1)
def basesL : List Int := [0, 13, 13, 1, 2, 2, 2, 77]
def cellsOf (xs : List Int) : List Int := basesL.zipIdx.map fun p => p.1 + (pk (xs.take 60) (some (p.2 : Nat)) none (some 8)).sum
def FR (c : Int) : List Nat := [[50, 53, 55], [105, 116, 39, 115], [], [34, 97, 34]].getD ((c.fdiv 8).fmod 4).toNat []
def BK (c : Int) : List Nat := [[109, 97, 100, 101], [], [34], [105, 116, 39, 115]].getD ((c.fdiv 32).fmod 4).toNat []
def row1 (c : Int) (l : List Nat) : List (List Nat) := [FR c, l, BK c]
def drs1 (c : Int) (l : List Nat) : List Int := [c.fmod 2, if l.length < 41 then (c.fdiv 2).fmod 2 else 1, (c.fdiv 4).fmod 2]
def lin1 (c : Int) (l : List Nat) : List Nat := lnT (row1 c l) (drs1 c l)
def row0 (cs : List Int) : List (List Nat) := wordsOf (cs.take 5)
def drs0 (cs : List Int) : List Int := (List.range (row0 cs).length).map fun p => ((cs.getD 5 0).fdiv (2 ^ p)).fmod 2
def lin0 (cs : List Int) : List Nat := lnT (row0 cs) (drs0 cs)
def rowsL (cs : List Int) : List (List (List Nat)) := [row0 cs, row1 (cs.getD 6 0) (lin0 cs), row1 (cs.getD 7 0) (lin1 (cs.getD 6 0) (lin0 cs))]
def drsL (cs : List Int) : List (List Int) := [drs0 cs, drs1 (cs.getD 6 0) (lin0 cs), drs1 (cs.getD 7 0) (lin1 (cs.getD 6 0) (lin0 cs))]
def linL (cs : List Int) : List (List Nat) := [lin0 cs, lin1 (cs.getD 6 0) (lin0 cs), lin1 (cs.getD 7 0) (lin1 (cs.getD 6 0) (lin0 cs))]
def rD (r : List (List Nat)) : Dat := .list (wD r)
def xD (x : List Int) : Dat := .list (iD x)
def lD (l : List Nat) : Dat := .str (S l)
/-- what is asked of one line -/
structure TripOk (row : List (List Nat)) (x : List Int) (line : List Nat) : Prop where
  n : x.length = row.length
  w : ∀ p ∈ row, p.length ≤ 5000 ∧ okc p
  x3 : row.length ≤ 5
  l : line.length ≤ 5000
  ok : okc line
  worn : jn [32] ((row.zip x).map fun p => drs p.2 p.1) = line
  text : lnT row x = line
  steps : (lineP (row.zip x)).length ≤ 5000
  bare : row.take 1 = [[50, 53, 55]] → x[0]? = some 0 → ∃ a b c, row = [a, b, c] ∧ line.take 3 = [50, 53, 55] ∧ ∃ y z, x = [0, y, z] ∧ p257 line = if y ≠ 0 then b else []
  nbare : ¬ (row.take 1 = [[50, 53, 55]] ∧ x[0]? = some 0) → line.take 3 ≠ [50, 53, 55]
  first : p257 ([50, 53, 55, 32] ++ line) = if (x.take 1).sum ≠ 0 then row.headD [] else []
  hyph : p257 ([50, 53, 55, 45] ++ line) = []
  made : p257 ([50, 53, 55, 32] ++ ((stp 1 line).map (·.1)) ++ [109, 97, 100, 101]) = line
  read : (rd line).map (·.2) = row
/-- what is asked of the cells -/
structure LawH (cs : List Int) : Prop where
  t0 : TripOk (row0 cs) (drs0 cs) (lin0 cs)
  t1 : TripOk (row1 (cs.getD 6 0) (lin0 cs)) (drs1 (cs.getD 6 0) (lin0 cs)) (lin1 (cs.getD 6 0) (lin0 cs))
  t2 : TripOk (row1 (cs.getD 7 0) (lin1 (cs.getD 6 0) (lin0 cs))) (drs1 (cs.getD 7 0) (lin1 (cs.getD 6 0) (lin0 cs))) (lin1 (cs.getD 7 0) (lin1 (cs.getD 6 0) (lin0 cs)))
  sok : SOk ((lineP ((row0 cs).zip (drs0 cs))).drop 1)
  torn : ∀ i, i < ((lineP ((row0 cs).zip (drs0 cs))).drop 1).length → (rd ((((lineP ((row0 cs).zip (drs0 cs))).drop 1).take (i + 1)).map (·.1))).map (·.2) = (told ((((lineP ((row0 cs).zip (drs0 cs))).drop 1).take (i + 1)))).1
  join : jn [32] ((row0 cs).map qt) = lnT (row0 cs) (List.replicate (row0 cs).length 0)
  jlen : (jn [32] ((row0 cs).map qt)).length ≤ 5000
  jsteps : (lineP ((row0 cs).zip (List.replicate (row0 cs).length 0))).length ≤ 5000
section
variable {w : World} {mg mb : Str → Option Value} {G : Heap}
theorem code151 (T : TopF w mg G) : CodeIs G 151 149 :=
  ⟨⟨_, _, _, _, _, _, _, _, _, T.KI _ _ (by rfl), rfl, rfl, rfl, rfl, rfl, rfl, rfl⟩, by decide, T.t149⟩
def Rlaw (ds : List Dat) (d : Dat) : Prop := ∃ xs : List Int, ds = [.list (iD xs)] ∧ xs.length ≤ 63 ∧ LawH (cellsOf xs) ∧ d = .bool true
theorem pick4 {g : List Nat → Dat} {l : List (List Nat)} {i : Int} (hl : l.length = 4) : seqIndex? (i.fmod 4) (l.map g).length = some (i.fmod 4).toNat ∧ (l.map g)[(i.fmod 4).toNat]? = some (g (l.getD (i.fmod 4).toNat [])) := by
  have h0 : 0 ≤ i.fmod 4 := Int.fmod_nonneg_of_pos _ (by decide)
  have h1 : i.fmod 4 < 4 := Int.fmod_lt_of_pos _ (by decide)
  refine ⟨seqIndex_of h0 (by rw [List.length_map, hl]; exact h1), ?_⟩
  have hk : (i.fmod 4).toNat < l.length := by omega
  rw [List.getElem?_map, List.getElem?_eq_getElem hk, List.getD_eq_getElem?_getD, List.getElem?_eq_getElem hk]; rfl
theorem seq_last {n : Nat} : seqIndex? (-1) (n + 1) = some n := by
  rw [seqIndex_neg (by decide) (by omega)]
  congr 1; omega
theorem lin_step (cs : List Int) (i : Nat) (h : i < 2) : (linL cs).take (i + 1 + 1) = (linL cs).take (i + 1) ++ [lin1 (cs.getD (6 + i) 0) ((linL cs).getD i [])] ∧ (drsL cs).take (i + 1 + 1) = (drsL cs).take (i + 1) ++ [drs1 (cs.getD (6 + i) 0) ((linL cs).getD i [])] ∧ (rowsL cs).take (i + 1 + 1) = (rowsL cs).take (i + 1) ++ [row1 (cs.getD (6 + i) 0) ((linL cs).getD i [])] ∧ ∃ a, (linL cs).take (i + 1) = a ++ [(linL cs).getD i []] ∧ a.length = i := by
  match i, h with
  | 0, _ => exact ⟨rfl, rfl, rfl, [], rfl, rfl⟩
  | 1, _ => exact ⟨rfl, rfl, rfl, [_], rfl, rfl⟩
theorem LawH.trip {cs : List Int} (H : LawH cs) (i : Nat) (h : i < 3) : TripOk ((rowsL cs).getD i []) ((drsL cs).getD i []) ((linL cs).getD i []) := by
  match i, h with
  | 0, _ => exact H.t0
  | 1, _ => exact H.t1
  | 2, _ => exact H.t2
theorem rows_next (cs : List Int) (i : Nat) (h : i < 2) : (rowsL cs).getD (i + 1) [] = row1 (cs.getD (6 + i) 0) ((linL cs).getD i []) ∧ (drsL cs).getD (i + 1) [] = drs1 (cs.getD (6 + i) 0) ((linL cs).getD i []) ∧ (linL cs).getD (i + 1) [] = lin1 (cs.getD (6 + i) 0) ((linL cs).getD i []) := by
  match i, h with
  | 0, _ => exact ⟨rfl, rfl, rfl⟩
  | 1, _ => exact ⟨rfl, rfl, rfl⟩
theorem jn_sum : ∀ ps : List (List Nat), (ps.map List.length).sum ≤ (jn [32] ps).length
  | [] => by simp
  | [p] => by simp [jn]
  | p :: q :: r => by
    have := jn_sum (q :: r)
    simp only [jn, List.map_cons, List.sum_cons, List.length_append] at this ⊢
    omega
theorem TripOk.wornR {row : List (List Nat)} {x : List Int} {line : List Nat} (h : TripOk row x line) : Rworn [rD row, xD x] (lD line) := by
  have h1 : (row.zip x).length ≤ 5 := by rw [List.length_zip]; have := h.x3; omega
  refine ⟨row, x, rfl, fun p hp => Nat.le_trans (h.w p hp).1 (by decide), by omega, ?_, by rw [h.worn]; rfl⟩
  have h2 := jn_sum ((row.zip x).map fun p => drs p.2 p.1)
  rw [h.worn, List.map_map] at h2
  have h3 := h.l
  have h4 : ((row.zip x).map fun p => (drs p.2 p.1).length).sum ≤ line.length := h2
  rw [sizeLine_eq]; omega
def TL (cs : List Int) : List (List (List Nat)) := [[[], lin1 (cs.getD 7 0) (lin1 (cs.getD 6 0) (lin0 cs)), []], row1 (cs.getD 7 0) (lin1 (cs.getD 6 0) (lin0 cs)), row1 (cs.getD 6 0) (lin0 cs), row0 cs]
theorem tl_step {cs : List Int} (H : LawH cs) (j : Nat) (hj : j < 3) : ∃ a p l q, (TL cs).take (j + 1) = a ++ [p] ∧ a.length = j ∧ p[1]? = some l ∧ p.length = 3 ∧ (TL cs).take (j + 1 + 1) = a ++ [p] ++ [q] ∧ (rd l).map (·.2) = q ∧ l.length ≤ 5000 := by
  match j, hj with
  | 0, _ => exact ⟨[], _, _, _, rfl, rfl, rfl, rfl, rfl, H.t2.read, H.t2.l⟩
  | 1, _ => exact ⟨[_], _, _, _, rfl, rfl, rfl, rfl, rfl, H.t1.read, H.t1.l⟩
  | 2, _ => exact ⟨[_, _], _, _, _, rfl, rfl, rfl, rfl, rfl, H.t0.read, H.t0.l⟩
def HEADS : List (List Nat) := [[], [50, 53, 55, 32], [50, 53, 55, 45], [50, 53, 48, 32], [50, 48, 55, 32], [49, 53, 55, 32]]
def askD (l : List Nat) : Dat := if l.take 3 = [50, 53, 55] then .str (S (p257 l)) else .list [.str (S l)]
def bareB (row : List (List Nat)) (x : List Int) : Bool := decide (row.take 1 = [[50, 53, 55]]) && x.headD 1 == 0
theorem bareB_iff {row : List (List Nat)} {x : List Int} : bareB row x = true ↔ row.take 1 = [[50, 53, 55]] ∧ x[0]? = some 0 := by
  unfold bareB
  cases x with
  | nil => simp
  | cons a r => simp
theorem trip_get (cs : List Int) (i : Nat) (d : Dat) (h : (trips ((rowsL cs).map rD) ((drsL cs).map xD) ((linL cs).map lD))[i]? = some d) : i < 3 ∧ d = .tuple [rD ((rowsL cs).getD i []), xD ((drsL cs).getD i []), lD ((linL cs).getD i [])] := by
  match i with
  | 0 => exact ⟨by decide, (Option.some.inj h).symm⟩
  | 1 => exact ⟨by decide, (Option.some.inj h).symm⟩
  | 2 => exact ⟨by decide, (Option.some.inj h).symm⟩
  | i + 3 => exact nomatch h
theorem seq0 {n : Nat} (h : 0 < n) : seqIndex? 0 n = some 0 := by rw [seqIndex_of (by decide) (by omega)]; rfl
theorem one_sz (d : Dat) : [d].length ≤ sizeLine := by rw [sizeLine_eq, List.length_singleton]; decide
theorem cells_len (xs : List Int) : (cellsOf xs).length = 8 := by simp [cellsOf, basesL]
set_option maxHeartbeats 16000000 in
theorem c_law (T : TopF w mg G) : ConF PR w mg mb G 8 152 Rlaw := by
  have KI := T.KI
  have N := T.N
  refine ConF.of_def [Str.ofString "script"] (KI _ _ (by rfl)) (by rfl) ?_ (by rfl) (by rfl) (by rfl) (by rfl) (fun vs hv => ?_) (by decide) (by rfl) (fun ds d ⟨l, e, _⟩ => by rw [e]; rfl) (by decide) (by rfl) (by rfl) (by rfl) ?_
  · exact codeRec_of KI (by rfl)
  · match vs, hv with
    | [v1], _ => rfl
  · rintro A L outer V s hst hd hu ds d ⟨xs, rfl, hlen, H, rfl⟩
    dsimp only [parm, List.map, List.zip_cons_cons, List.zip_nil_right]
    have hu2 : A.units + 3 + 64 < cLine := by omega
    have hn60 : (xs.take 60).length ≤ 60 := by rw [List.length_take]; omega
    refine' Ex.consM [] [(Str.ofString "numbers", .dat (.list (iD (xs.take 60))))] (ExS.assign (d := .list (iD (xs.take 60))) (.inr ⟨rfl, by rfl, _, by rfl⟩) (Ev.of (Ev.sliceList (lo := none) (hi := some 60) (Ev.name (by rfl)) EvP.no (EvP.yes Ev.intC) ?y1) ?y2) (nextN (by walk_at "sub"))) ?_
    case y1 => rw [iD, List.length_map, sizeLine_eq]; omega
    case y2 =>
      have : sl (iD xs) none (some 60) = (iD xs).take 60 := sl_upto _ 60
      rw [this]; simp [iD]
    generalize hcs : cellsOf xs = cs at H
    have hcl : cs.length = 8 := by rw [← hcs]; exact cells_len xs
    refine' Ex.consM [] [(Str.ofString "cells", .dat (.list (iD cs)))] (ExS.assign (d := .list (iD cs)) (.inr ⟨rfl, by rfl, _, by rfl⟩) (Ev.of (Ev.compA (xs := basesL.zipIdx) (j := fun p => Dat.tuple [.int (p.2 : Nat), .int p.1]) (g := fun p => Dat.int (p.1 + (pk (xs.take 60) (some (p.2 : Nat)) none (some 8)).sum)) (ρc := [(Str.ofString "numbers", .dat (.list (iD (xs.take 60))))])
      (It.of (It.enumC (d1 := iD basesL) (Ev.builtin (by rfl) N.enumerate boot_enumerate) ?y1) ?y2) (by rfl) ?y3 ?y4 ?y5) ?y6) (nextN (by walk_at "sub"))) ?_
    case y1 => walk_at "ev"
    case y2 =>
      unfold iD
      rw [List.zipIdx_map, List.map_map]; rfl
    case y3 =>
      refine Cap.of (Sub.consS (by rfl) (Sub.nilS _)) ?_ ?_ ?_
      · intro y hy
        rw [List.mem_singleton.mp hy]
        exact ⟨_, by rfl, by rfl, .inl (by rfl), .inl (by rfl)⟩
      · intro p hp
        rw [List.mem_singleton.mp hp]; rfl
      · exact List.pairwise_singleton _ _
    case y4 =>
      intro C s₁ V' K D Dd acc p hp
      refine' ⟨_, ?w0, As.tuple2 (.inl (by rfl)) (.inl (by rfl)), Ev.bin (Ev.name (by rfl)) (Ev.callB (Ev.builtin (by rfl) N.sum boot_sum) (EvL.consE (Ev.of (Ev.sliceStep (lo := some (p.2 : Nat)) (hi := none) (st := some 8) (Ev.name (by rfl)) (EvP.yes (Ev.name (by rfl))) EvP.no (EvP.yes Ev.intC) (by decide) ?z1) ?z2) EvL.nilE) OpN.sum) Op2.addInt⟩
      case w0 => walk_at "sub"
      case z1 => rw [iD, List.length_map, sizeLine_eq]; omega
      case z2 => unfold iD; rw [pk_map]
    case y5 => rw [sizeLine_eq]; decide
    case y6 => rw [← hcs]; unfold cellsOf iD; rw [List.map_map]; rfl
    have ht0 := H.t0
    refine' Ex.consX (ExS.assignOwn (ds := [rD (row0 cs)]) (.inr ⟨rfl, by rfl, _, by rfl⟩) (EvL.consE (Ev.callF (Ev.global (by rfl) N.words) (KI _ _ (by rfl)) (by rfl) (EvL.consE (Ev.of (Ev.sliceList (lo := none) (hi := some 5) (Ev.name (by rfl)) EvP.no (EvP.yes Ev.intC) ?y1) ?y2) EvL.nilE) (OpN.con (c_words KI N) ⟨cs.take 5, rfl, ?y3, rfl⟩ ?y4 ?y5)) EvL.nilE) (fun ad1 => thenN ?_))
    case y1 => rw [iD, List.length_map, sizeLine_eq]; omega
    case y2 =>
      have : sl (iD cs) none (some 5) = (iD cs).take 5 := sl_upto _ 5
      rw [this]; simp [iD]
    case y3 => rw [List.length_take]; omega
    case y4 => show A.depth + 1 + 1 < _; omega
    case y5 => show A.units + 3 + 40 * 1 + 100 < _; omega
    refine' Ex.consX (ExS.assignOwn (ds := [xD (drs0 cs)]) (.inr ⟨rfl, by rfl, _, by rfl⟩) (EvL.consE (Ev.of (Ev.compA (xs := List.range (row0 cs).length) (j := fun p => Dat.int (p : Nat)) (g := fun p => Dat.int (((cs.getD 5 0).fdiv (2 ^ p)).fmod 2)) (ρc := [(Str.ofString "cells", .dat (.list (iD cs)))]) (It.rangeC (n := (row0 cs).length) (Ev.builtin (by rfl) N.range boot_range) (Ev.of (Ev.callB (Ev.builtin (by rfl) N.len boot_len) (EvL.consE (Ev.itemOwn (j := 0) (ds := [rD (row0 cs)]) (d := rD (row0 cs)) (EvS.name (by rfl)) (List.mem_singleton.mpr rfl) Ev.intC (by rfl) (by rfl) (one_sz _)) EvL.nilE) (OpN.lenList ?y1)) ?y2) ?y3) (by rfl) ?y4 ?y5 ?y6) ?y7) EvL.nilE) (fun ad2 => thenN ?_))
    case y1 => rw [wD, List.length_map, sizeLine_eq]; have := ht0.x3; omega
    case y2 => rw [wD, List.length_map]
    case y3 => have := ht0.x3; omega
    case y4 =>
      refine Cap.of (Sub.consS (by rfl) (Sub.nilS _)) ?_ ?_ ?_
      · intro y hy
        rw [List.mem_singleton.mp hy]
        exact ⟨_, by rfl, by rfl, .inl (by rfl), .inl (by rfl)⟩
      · intro p hp
        rw [List.mem_singleton.mp hp]; rfl
      · exact List.pairwise_singleton _ _
    case y5 =>
      intro C s₁ V' K D Dd acc p hp
      have hp5 : p < 5 := Nat.lt_of_lt_of_le (List.mem_range.mp hp) ht0.x3
      refine' ⟨_, ?w0, As.name (.inl (by rfl)), Ev.bin (Ev.bin (Ev.itemList (j := 5) (d := .int (cs.getD 5 0)) (Ev.name (by rfl)) Ev.intC ?z1 ?z2 ?z3) (Ev.of (d' := .int (2 ^ p)) (Ev.bin Ev.intC (Ev.name (by rfl)) (Op2.pow2 (n := (p : Nat)) (by omega) (by omega))) (by simp)) (Op2.fdivInt ?z4 ?z5)) Ev.intC (Op2.modInt (by decide))⟩
      case w0 => walk_at "sub"
      case z1 => rw [iD, List.length_map, hcl]; rfl
      case z2 =>
        unfold iD
        rw [List.getElem?_map, List.getElem?_eq_getElem (by omega), List.getD_eq_getElem?_getD, List.getElem?_eq_getElem (by omega)]; rfl
      case z3 => rw [iD, List.length_map, sizeLine_eq]; omega
      case z4 => exact Int.ne_of_gt (Int.pow_pos (by decide))
      case z5 =>
        match p, hp5 with
        | 0, _ => exact PyProof.noPylong_of_log2 (by decide +kernel)
        | 1, _ => exact PyProof.noPylong_of_log2 (by decide +kernel)
        | 2, _ => exact PyProof.noPylong_of_log2 (by decide +kernel)
        | 3, _ => exact PyProof.noPylong_of_log2 (by decide +kernel)
        | 4, _ => exact PyProof.noPylong_of_log2 (by decide +kernel)
    case y6 => rw [List.length_range, sizeLine_eq]; have := ht0.x3; omega
    case y7 => unfold xD iD drs0; rw [List.map_map]; rfl
    refine' Ex.consX (ExS.assignOwn (ds := [lD (lin0 cs)]) (.inl (by rfl)) (EvL.consE (Ev.callF (Ev.global (by rfl) N.text) (KI _ _ (by rfl)) (by rfl) (EvL.consE (Ev.callF (Ev.global (by rfl) N.line) (KI _ _ (by rfl)) (by rfl) (EvL.consE (Ev.itemOwn (j := 0) (ds := [rD (row0 cs)]) (d := rD (row0 cs)) (EvS.name (by rfl)) (List.mem_cons_of_mem _ (List.mem_singleton.mpr rfl)) Ev.intC (by rfl) (by rfl) (one_sz _)) (EvL.consE (Ev.itemOwn (j := 0) (ds := [xD (drs0 cs)]) (d := xD (drs0 cs)) (EvS.name (by rfl)) List.mem_cons_self Ev.intC (by rfl) (by rfl) (one_sz _)) EvL.nilE)) (OpN.con (c_line KI N) ⟨row0 cs, drs0 cs, rfl, ?y1, ?y2, rfl⟩ ?y3 ?y4)) EvL.nilE) (OpN.con (c_text KI) ⟨_, rfl, ?y5, rfl⟩ ?y6 ?y7)) EvL.nilE) (fun ad3 => thenN ?_))
    case y1 => exact fun p hp => let ⟨a, b⟩ := ht0.w p hp; ⟨Nat.le_trans a (by decide), b⟩
    case y2 => exact Nat.le_trans ht0.steps (by decide)
    case y3 => show A.depth + 1 + 2 < _; omega
    case y4 => show A.units + 3 + 40 * 2 + 100 < _; omega
    case y5 => rw [List.length_drop]; have := ht0.steps; omega
    case y6 => show A.depth + 1 + 1 < _; omega
    case y7 => show A.units + 3 + 40 * 1 + 100 < _; omega
    have i0 : ∀ i : Nat, i < 2 → ∀ d, (iD (cs.drop 6))[i]? = some d → d = .int (cs.getD (6 + i) 0) := fun i hi d hd => by
      unfold iD at hd
      rw [List.getElem?_map, List.getElem?_drop, List.getElem?_eq_getElem (by omega)] at hd
      rw [List.getD_eq_getElem?_getD, List.getElem?_eq_getElem (by omega)]
      exact (Option.some.inj hd).symm
    refine' Ex.consX (ExS.forX (It.list (ds := iD (cs.drop 6)) ?x1) (fun i O ρ => O = [(ad3, ((linL cs).take (i + 1)).map lD), (ad2, ((drsL cs).take (i + 1)).map xD), (ad1, ((rowsL cs).take (i + 1)).map rD)] ∧ ρ = [(Str.ofString "cells", .dat (.list (iD cs))), (Str.ofString "rows", .val (.ref ad1)), (Str.ofString "dresses", .val (.ref ad2)), (Str.ofString "lines", .val (.ref ad3))]) ?x3 ?x4 ?x5 ?x6)
    case x1 =>
      refine Ev.of (Ev.sliceList (lo := some 6) (hi := none) (Ev.name (by rfl)) (EvP.yes Ev.intC) EvP.no ?_) ?_
      · rw [iD, List.length_map, sizeLine_eq]; omega
      · have : sl (iD cs) (some 6) none = (iD cs).drop 6 := sl_from _ 6
        rw [this]; simp [iD]
    case x3 => exact ⟨_, ⟨rfl, rfl⟩, by walk_at "sub"⟩
    case x4 => rintro i O' ρ' ⟨rfl, _⟩; rfl
    case x5 =>
      rintro V' K D i O' ρ' d ⟨rfl, rfl⟩ hd'
      have hi : i < 2 := by
        have := (List.getElem?_eq_some_iff.mp hd').1
        rw [iD, List.length_map, List.length_drop] at this; omega
      rw [i0 i hi d hd']
      obtain ⟨e1, e2, e3, a, ea, hal⟩ := lin_step cs i hi
      obtain ⟨n1, n2, n3⟩ := rows_next cs i hi
      have hT := H.trip (i + 1) (by omega)
      have hT0 := H.trip i (by omega)
      rw [n1, n2, n3] at hT
      refine' ⟨_, As.name (.inl (by rfl)), Ex.mono (Φ := fun o => ∃ ρ₁, o = .next [(ad3, ((linL cs).take (i + 1 + 1)).map lD), (ad2, ((drsL cs).take (i + 1 + 1)).map xD), (ad1, ((rowsL cs).take (i + 1 + 1)).map rD)] ρ₁ ∧ Sub [(Str.ofString "cells", .dat (.list (iD cs))), (Str.ofString "rows", .val (.ref ad1)), (Str.ofString "dresses", .val (.ref ad2)), (Str.ofString "lines", .val (.ref ad3))] ρ₁) ?m1 ?m2⟩
      case m2 =>
        rintro o ⟨ρ₁, rfl, hs⟩
        exact ⟨_, ⟨rfl, rfl⟩, hs⟩
      rw [e1, e2, e3]
      have hlR : ((rowsL cs).take (i + 1)).length = i + 1 := by rw [List.length_take]; show min (i + 1) 3 = _; omega
      have hlX : ((drsL cs).take (i + 1)).length = i + 1 := by rw [List.length_take]; show min (i + 1) 3 = _; omega
      rw [ea]
      generalize (linL cs).getD i [] = l at hT hT0
      generalize cs.getD (6 + i) 0 = c at hT
      generalize (rowsL cs).take (i + 1) = RS at hlR
      generalize (drsL cs).take (i + 1) = XS at hlX
      clear e1 e2 e3 ea n1 n2 n3
      have hll : l.length ≤ 5000 := hT0.l
      simp only [List.map_append, List.map_cons, List.map_nil]
      have hf := pick4 (g := fun x => Dat.str (S x)) (l := [[50, 53, 55], [105, 116, 39, 115], [], [34, 97, 34]]) (i := c.fdiv 8) rfl
      have hb := pick4 (g := fun x => Dat.str (S x)) (l := [[109, 97, 100, 101], [], [34], [105, 116, 39, 115]]) (i := c.fdiv 32) rfl
      refine' Ex.consX (ExS.assign (d := .str (S (FR c))) (.inl (by rfl)) (Ev.itemList (ds := [[50, 53, 55], [105, 116, 39, 115], [], [34, 97, 34]].map fun x => Dat.str (S x)) (Ev.of (Ev.listD (EvL.consE Ev.strC (EvL.consE Ev.strC (EvL.consE Ev.strC (EvL.consE Ev.strC EvL.nilE))))) ?y1) (Ev.bin (Ev.bin (Ev.name (by rfl)) Ev.intC (Op2.fdivInt (by decide) (PyProof.noPylong_of_log2 (by decide +kernel)))) Ev.intC (Op2.modInt (by decide))) hf.1 hf.2 ?y2) (thenN ?_))
      case y1 => rfl
      case y2 => rw [sizeLine_eq]; decide
      refine' Ex.consX (ExS.assign (d := .str (S (BK c))) (.inl (by rfl)) (Ev.itemList (ds := [[109, 97, 100, 101], [], [34], [105, 116, 39, 115]].map fun x => Dat.str (S x)) (Ev.of (Ev.listD (EvL.consE Ev.strC (EvL.consE Ev.strC (EvL.consE Ev.strC (EvL.consE Ev.strC EvL.nilE))))) ?y1) (Ev.bin (Ev.bin (Ev.name (by rfl)) Ev.intC (Op2.fdivInt (by decide) (PyProof.noPylong_of_log2 (by decide +kernel)))) Ev.intC (Op2.modInt (by decide))) hb.1 hb.2 ?y2) (thenN ?_))
      case y1 => rfl
      case y2 => rw [sizeLine_eq]; decide
      have lastL : ∀ {O ρ ox ix p} {F : Fm}, EvS F O ρ ox (.val (.ref ad3)) → (ad3, a.map lD ++ [lD l]) ∈ O → Ev F O ρ ix (.int (-1)) → (∀ o j, subscripted ix false o j = operate [o, j] (getItem o j)) → Ev F O ρ (.Subscript ox ix p) (lD l) := fun h1 h2 h3 h4 => Ev.itemOwn (j := a.length) h1 h2 h3 (by rw [List.length_append, List.length_map]; exact seq_last) (by simp) (by rw [List.length_append, List.length_map, sizeLine_eq]; simp; omega) h4
      refine' Ex.consX (ExS.append (i := 2) (ad := ad1) (ds := RS.map rD) (d := rD (row1 c l)) (EvS.name (by rfl)) (by rfl) (Ev.of (d := .list [.str (S (FR c)), lD l, .str (S (BK c))]) (Ev.listD (EvL.consE (Ev.name (by rfl)) (EvL.consE (lastL (EvS.name (by rfl)) List.mem_cons_self (Ev.neg Ev.intC) (by intros; with_unfolding_all rfl)) (EvL.consE (Ev.name (by rfl)) EvL.nilE)))) rfl) ?y1 (thenN ?_))
      case y1 => rw [List.length_map, sizeLine_eq]; omega
      refine' Ex.consX (ExS.append (i := 1) (ad := ad2) (ds := XS.map xD) (d := xD (drs1 c l)) (EvS.name (by rfl)) (by rfl) (Ev.of (d := .list [.int (c.fmod 2), .int (if l.length < 41 then (c.fdiv 2).fmod 2 else 1), .int ((c.fdiv 4).fmod 2)]) (Ev.listD (EvL.consE (Ev.bin (Ev.name (by rfl)) Ev.intC (Op2.modInt (by decide))) (EvL.consE (Ev.ite (d := .int (if l.length < 41 then (c.fdiv 2).fmod 2 else 1)) (v := decide (l.length < 41)) ?y1 (fun h => ?y2) (fun h => ?y3)) (EvL.consE (Ev.bin (Ev.bin (Ev.name (by rfl)) Ev.intC (Op2.fdivInt (by decide) (PyProof.noPylong_of_log2 (by decide +kernel)))) Ev.intC (Op2.modInt (by decide))) EvL.nilE)))) rfl) ?y4 (thenN ?_))
      case y1 =>
        refine Tr.of (Tr.cmp (Ev.callB (Ev.builtin (by rfl) N.len boot_len) (EvL.consE (lastL (EvS.name (by rfl)) List.mem_cons_self (Ev.neg Ev.intC) (by intros; with_unfolding_all rfl)) EvL.nilE) (OpN.lenStr ?_)) Ev.intC Op2.ltInt) ?_
        · rw [S_length, sizeLine_eq]; omega
        · rw [S_length]
          by_cases hq : l.length < 41
          · simp [hq]; omega
          · simp [hq]; omega
      case y2 =>
        have h' := of_decide_eq_true h
        exact Ev.of (Ev.bin (Ev.bin (Ev.name (by rfl)) Ev.intC (Op2.fdivInt (by decide) (PyProof.noPylong_of_log2 (by decide +kernel)))) Ev.intC (Op2.modInt (by decide))) (by rw [if_pos h'])
      case y3 =>
        have h' := of_decide_eq_false h
        exact Ev.of Ev.intC (by rw [if_neg h'])
      case y4 => rw [List.length_map, sizeLine_eq]; omega
      refine' Ex.consX (ExS.append (i := 0) (ad := ad3) (ds := a.map lD ++ [lD l]) (d := lD (lin1 c l)) (EvS.name (by rfl)) (by rfl) (Ev.callF (Ev.global (by rfl) N.text) (KI _ _ (by rfl)) (by rfl) (EvL.consE (Ev.callF (Ev.global (by rfl) N.line) (KI _ _ (by rfl)) (by rfl) (EvL.consE (Ev.itemOwn (j := RS.length) (ds := RS.map rD ++ [rD (row1 c l)]) (d := rD (row1 c l)) (EvS.name (by rfl)) ?w1 (Ev.neg Ev.intC) ?w2 ?w3 ?w4) (EvL.consE (Ev.itemOwn (j := XS.length) (ds := XS.map xD ++ [xD (drs1 c l)]) (d := xD (drs1 c l)) (EvS.name (by rfl)) ?v1 (Ev.neg Ev.intC) ?v2 ?v3 ?v4) EvL.nilE)) (OpN.con (c_line KI N) ⟨row1 c l, drs1 c l, rfl, ?y1, ?y2, rfl⟩ ?y3 ?y4)) EvL.nilE) (OpN.con (c_text KI) ⟨_, rfl, ?y5, rfl⟩ ?y6 ?y7)) ?y8 (thenN ?_))
      case w1 => exact List.mem_cons_of_mem _ (List.mem_cons_of_mem _ (List.mem_singleton.mpr rfl))
      case w2 => rw [List.length_append, List.length_map]; exact seq_last
      case w3 => simp
      case w4 => rw [List.length_append, List.length_map, List.length_singleton, sizeLine_eq]; omega
      case v1 => exact List.mem_cons_of_mem _ List.mem_cons_self
      case v2 => rw [List.length_append, List.length_map]; exact seq_last
      case v3 => simp
      case v4 => rw [List.length_append, List.length_map, List.length_singleton, sizeLine_eq]; omega
      case y1 => exact fun p hp => let ⟨a, b⟩ := hT.w p hp; ⟨Nat.le_trans a (by decide), b⟩
      case y2 => exact Nat.le_trans hT.steps (by decide)
      case y3 => show A.depth + 1 + 2 < _; omega
      case y4 => show A.units + 3 + 40 * 2 + 100 < _; omega
      case y5 => rw [List.length_drop]; have := hT.steps; omega
      case y6 => show A.depth + 1 + 1 < _; omega
      case y7 => show A.units + 3 + 40 * 1 + 100 < _; omega
      case y8 => rw [List.length_append, List.length_map, List.length_singleton, sizeLine_eq]; omega
      exact Ex.nilX ⟨_, rfl, by walk_at "sub"⟩
    case x6 =>
      rintro O' ρ' ⟨rfl, rfl⟩
      refine thenN ?_
      have e2 : (iD (cs.drop 6)).length = 2 := by rw [iD, List.length_map, List.length_drop]; omega
      rw [e2]
      have k1 : (linL cs).take 3 = linL cs := rfl
      have k2 : (drsL cs).take 3 = drsL cs := rfl
      have k3 : (rowsL cs).take 3 = rowsL cs := rfl
      rw [show 2 + 1 = 3 from rfl, k1, k2, k3]
      refine Ex.freeze (ρ' := [(Str.ofString "rows", .dat (.list ((rowsL cs).map rD))), (Str.ofString "dresses", .dat (.list ((drsL cs).map xD))), (Str.ofString "lines", .dat (.list ((linL cs).map lD)))]) (Frz.own (ad := ad1) (by rfl) (List.mem_cons_of_mem _ (List.mem_cons_of_mem _ (List.mem_singleton.mpr rfl))) (Frz.own (ad := ad2) (by rfl) (List.mem_cons_of_mem _ List.mem_cons_self) (Frz.own (ad := ad3) (by rfl) List.mem_cons_self Frz.nil))) ?_
      clear i0
      refine' Ex.consM [] [(Str.ofString "rows", .dat (.list ((rowsL cs).map rD))), (Str.ofString "dresses", .dat (.list ((drsL cs).map xD))), (Str.ofString "lines", .dat (.list ((linL cs).map lD))), (Str.ofString "wrapped", .dat (.list ((linL cs).map lD)))] (ExS.assign (d := .list ((linL cs).map lD)) (.inl (by rfl)) (Ev.callLam (ds := [.int 1, .int 2]) (d0 := [lD (lin0 cs)]) (Ev.global (by rfl) N.reduce) (KI _ _ (by rfl)) (by rfl) (code151 T) (by rfl) T.B (by rfl) (by rfl) (EvQ.list (Ev.listD (EvL.consE Ev.intC (EvL.consE Ev.intC EvL.nilE)))) (Ev.listD (EvL.consE (Ev.callF (Ev.global (by rfl) N.worn) (KI _ _ (by rfl)) (by rfl) (EvL.consE (Ev.itemList (j := 0) (ds := (rowsL cs).map rD) (d := rD (row0 cs)) (Ev.name (by rfl)) Ev.intC (by rfl) (by rfl) ?y1) (EvL.consE (Ev.itemList (j := 0) (ds := (drsL cs).map xD) (d := xD (drs0 cs)) (Ev.name (by rfl)) Ev.intC (by rfl) (by rfl) ?y2) EvL.nilE)) (OpN.con (c_worn KI N) ht0.wornR ?y3 ?y4)) EvL.nilE)) ?y5) (nextN (by walk_at "sub"))) ?_
      case y1 => rw [List.length_map, sizeLine_eq]; show 3 ≤ _; decide
      case y2 => rw [List.length_map, sizeLine_eq]; show 3 ≤ _; decide
      case y3 => show A.depth + 1 + 2 < _; omega
      case y4 => show A.units + 3 + 40 * 2 + 100 < _; omega
      case y5 =>
        intro s₁ s₂ fa v2 v3 qual pm cdv ct Q E st1 hfa hcd m st2 hq hv k
        have FN := (lam_fnAt (ps := [Str.ofString "texts", Str.ofString "place"]) (lvl := 3) (R := fun ds d => ∃ j : Nat, j < 2 ∧ ds = [.list (((linL cs).take (j + 1)).map lD), .int ((j : Int) + 1)] ∧ d = .list (((linL cs).take (j + 1 + 1)).map lD)) (ρc := [(Str.ofString "rows", .dat (.list ((rowsL cs).map rD))), (Str.ofString "dresses", .dat (.list ((drsL cs).map xD)))]) st1 hfa hcd ?_ (by decide) ?_ (by decide) (by rfl) (by decide) (by rfl) (by rfl) (by rfl) ?_ ?_).mv m (fun a ha => .inl ha)
        · refine c_reduce KI N (lvl := 3) (g := fun j => ((linL cs).take (j + 1)).map lD) (Pre.of st2 ?_ ?_) FN hq hv ?_ k
          · show A.depth + 1 + 4 < _; omega
          · show A.units + 3 + 40 * 4 + 100 < _; omega
          · intro j d hd
            match j with
            | 0 => cases hd; exact ⟨0, by decide, rfl, rfl⟩
            | 1 => cases hd; exact ⟨1, by decide, rfl, rfl⟩
            | j + 2 => cases hd
        · refine CapL.of (Sub.consS (by rfl) (Sub.consS (by rfl) (Sub.nilS _))) ?_ ?_ ?_
          · intro y hy
            simp only [List.map_cons, List.map_nil, List.mem_cons, List.not_mem_nil, or_false] at hy
            rcases hy with rfl | rfl
            · exact ⟨by rfl, ⟨_, by rfl, by rfl⟩, .inl (by rfl)⟩
            · exact ⟨by rfl, ⟨_, by rfl, by rfl⟩, .inl (by rfl)⟩
          · intro p hp
            simp only [List.mem_cons, List.not_mem_nil, or_false] at hp
            rcases hp with rfl | rfl <;> rfl
          · refine List.pairwise_cons.mpr ⟨fun b hb => ?_, List.pairwise_singleton _ _⟩
            rw [List.mem_singleton.mp hb]
            show (_ : Nat) ≠ _
            omega
        · intro q pm cdv ct vs hv
          match vs, hv with
          | [a, b], _ => rfl
        · rintro ds d ⟨j, _, rfl, _⟩; rfl
        · rintro A' outer' V' s' q L' fa' cdv' ds d hd' hu' ⟨j, hj, rfl, rfl⟩
          dsimp only [parm, List.map, List.zip_cons_cons, List.zip_nil_right, List.cons_append, List.nil_append]
          obtain ⟨e1, e2, e3, a, ea, hal⟩ := lin_step cs j hj
          obtain ⟨n1, n2, n3⟩ := rows_next cs j hj
          have hT := H.trip (j + 1) (by omega)
          have i1 : seqIndex? ((j : Int) + 1) ((rowsL cs).map rD).length = some (j + 1) := by
            rw [List.length_map]
            have : (rowsL cs).length = 3 := rfl
            rw [this, seqIndex_of (by omega) (by omega)]; congr 1
          have i2 : seqIndex? ((j : Int) + 1) ((drsL cs).map xD).length = some (j + 1) := by
            rw [List.length_map]
            have : (drsL cs).length = 3 := rfl
            rw [this, seqIndex_of (by omega) (by omega)]; congr 1
          have g1 : ((rowsL cs).map rD)[j + 1]? = some (rD ((rowsL cs).getD (j + 1) [])) := by
            match j, hj with
            | 0, _ => rfl
            | 1, _ => rfl
          have g2 : ((drsL cs).map xD)[j + 1]? = some (xD ((drsL cs).getD (j + 1) [])) := by
            match j, hj with
            | 0, _ => rfl
            | 1, _ => rfl
          have z1 : ((rowsL cs).map rD).length ≤ sizeLine := by rw [List.length_map, sizeLine_eq]; show 3 ≤ _; decide
          have z2 : ((drsL cs).map xD).length ≤ sizeLine := by rw [List.length_map, sizeLine_eq]; show 3 ≤ _; decide
          rw [n1] at g1 hT
          rw [n2] at g2 hT
          rw [n3] at hT
          rw [e1, ea]
          generalize (linL cs).getD j [] = l at hT g1 g2
          generalize cs.getD (6 + j) 0 = c at hT g1 g2
          have hz3 : (wD (row1 c l)).length ≤ sizeLine := by rw [wD, List.length_map, sizeLine_eq]; show 3 ≤ _; decide
          refine' Ev.of (Ev.bin (Ev.name (by rfl)) (Ev.listD (EvL.consE (Ev.callF (Ev.global (by rfl) N.worn) (KI _ _ (by rfl)) (by rfl) (EvL.consE (Ev.of (d' := rD (row1 c l)) (Ev.listD (EvL.consE (Ev.itemList (j := 0) (ds := wD (row1 c l)) (d := .str (S (FR c))) (Ev.itemList (Ev.name (by rfl)) (Ev.name (by rfl)) i1 g1 z1) Ev.intC (by rfl) (by rfl) hz3) (EvL.consE (Ev.itemList (j := a.length) (d := lD l) (Ev.name (by rfl)) (Ev.neg Ev.intC) ?y1 ?y2 ?y3) (EvL.consE (Ev.itemList (j := 2) (ds := wD (row1 c l)) (d := .str (S (BK c))) (Ev.itemList (Ev.name (by rfl)) (Ev.name (by rfl)) i1 g1 z1) Ev.intC (by rfl) (by rfl) hz3) EvL.nilE)))) rfl) (EvL.consE (Ev.itemList (Ev.name (by rfl)) (Ev.name (by rfl)) i2 g2 z2) EvL.nilE)) (OpN.con (c_worn KI N) hT.wornR ?y4 ?y5)) EvL.nilE)) (Op2.addList ?y6)) ?y7
          case y1 => rw [List.length_map, List.length_append]; exact seq_last
          case y2 => simp
          case y3 => rw [List.length_map, List.length_append, List.length_singleton, sizeLine_eq]; omega
          case y4 => show A'.depth + 1 + 2 < _; omega
          case y5 => show A'.units + 3 + 40 * 2 + 100 < _; omega
          case y6 => rw [List.length_map, List.length_append, List.length_singleton, List.length_singleton, sizeLine_eq]; omega
          case y7 => simp
      have kqL : kqdOk 8 (.list ((linL cs).map lD)) = true := by
        simp only [kqdOk, List.all_eq_true, List.mem_map]
        rintro d ⟨l, hl, rfl⟩
        have : okc l := by
          simp only [linL, List.mem_cons, List.not_mem_nil, or_false] at hl
          rcases hl with rfl | rfl | rfl
          · exact H.t0.ok
          · exact H.t1.ok
          · exact H.t2.ok
        exact strOk_S this
      refine' Ex.consM [] [(Str.ofString "rows", .dat (.list ((rowsL cs).map rD))), (Str.ofString "dresses", .dat (.list ((drsL cs).map xD))), (Str.ofString "lines", .dat (.list ((linL cs).map lD)))] (ExS.ifX (v := false) (Tr.cmp (Ev.name (by rfl)) (Ev.name (by rfl)) (Op2.neD (b := true) kqL kqL hu2 (by simp))) (fun h => nomatch h) (fun _ => nilN (by walk_at "sub"))) ?_
      have kl2 : ((linL cs).map lD)[2]? = some (lD (lin1 (cs.getD 7 0) (lin1 (cs.getD 6 0) (lin0 cs)))) := rfl
      have zL : ((linL cs).map lD).length ≤ sizeLine := by rw [List.length_map, sizeLine_eq]; show 3 ≤ _; decide
      have zR : ((rowsL cs).map rD).length ≤ sizeLine := by rw [List.length_map, sizeLine_eq]; show 3 ≤ _; decide
      have zX : ((drsL cs).map xD).length ≤ sizeLine := by rw [List.length_map, sizeLine_eq]; show 3 ≤ _; decide
      refine' Ex.consM [] [(Str.ofString "rows", .dat (.list ((rowsL cs).map rD))), (Str.ofString "dresses", .dat (.list ((drsL cs).map xD))), (Str.ofString "lines", .dat (.list ((linL cs).map lD))), (Str.ofString "told", .dat (.list ((TL cs).map rD)))] (ExS.assign (d := .list ((TL cs).map rD)) (.inl (by rfl)) (Ev.callLam (ds := rangeD 3) (d0 := [rD [[], lin1 (cs.getD 7 0) (lin1 (cs.getD 6 0) (lin0 cs)), []]]) (Ev.global (by rfl) N.reduce) (KI _ _ (by rfl)) (by rfl) (code151 T) (by rfl) T.B (by rfl) (by rfl) (EvQ.range (n := 3) (Ev.builtin (by rfl) N.range boot_range) Ev.intC (by decide)) (Ev.of (Ev.listD (EvL.consE (Ev.listD (EvL.consE Ev.strC (EvL.consE (Ev.itemList (Ev.name (by rfl)) Ev.intC (by rfl) kl2 zL) (EvL.consE Ev.strC EvL.nilE)))) EvL.nilE)) rfl) ?y5) (nextN (by walk_at "sub"))) ?_
      case y5 =>
        intro s₁ s₂ fa v2 v3 qual pm cdv ct Q E st1 hfa hcd m st2 hq hv k
        have FN := (lam_fnAt (ps := [Str.ofString "read", Str.ofString "turn"]) (lvl := 3) (R := fun ds d => ∃ j : Nat, j < 3 ∧ ds = [.list (((TL cs).take (j + 1)).map rD), .int (j : Int)] ∧ d = .list (((TL cs).take (j + 1 + 1)).map rD)) (ρc := []) st1 hfa hcd CapL.nil (by decide) ?_ (by decide) (by rfl) (by decide) (by rfl) (by rfl) (by rfl) ?_ ?_).mv m (fun a ha => .inl ha)
        · refine c_reduce KI N (lvl := 3) (g := fun j => ((TL cs).take (j + 1)).map rD) (Pre.of st2 ?_ ?_) FN hq hv ?_ k
          · show A.depth + 1 + 4 < _; omega
          · show A.units + 3 + 40 * 4 + 100 < _; omega
          · intro j d hd
            have hj : j < 3 := by have := (List.getElem?_eq_some_iff.mp hd).1; simpa using this
            unfold rangeD at hd
            rw [List.getElem?_map, List.getElem?_range hj] at hd
            cases hd
            exact ⟨j, hj, rfl, rfl⟩
        · intro q pm cdv ct vs hv
          match vs, hv with
          | [a, b], _ => rfl
        · rintro ds d ⟨j, _, rfl, _⟩; rfl
        · rintro A' outer' V' s' q L' fa' cdv' ds d hd' hu' ⟨j, hj, rfl, rfl⟩
          dsimp only [parm, List.map, List.zip_cons_cons, List.zip_nil_right, List.cons_append, List.nil_append]
          obtain ⟨a, p, l, q2, e1, hal, e3, e4, e5, e6, e7⟩ := tl_step H j hj
          rw [e1, e5]
          refine' Ev.of (Ev.bin (Ev.name (by rfl)) (Ev.listD (EvL.consE (Ev.callF (Ev.global (by rfl) N.read) (KI _ _ (by rfl)) (by rfl) (EvL.consE (Ev.itemList (j := 1) (ds := wD p) (d := .str (S l)) (Ev.itemList (j := a.length) (d := rD p) (Ev.name (by rfl)) (Ev.neg Ev.intC) ?y1 ?y2 ?y3) Ev.intC ?y4 ?y5 ?y6) EvL.nilE) (OpN.con (c_read KI N) ⟨l, rfl, Nat.le_trans e7 (by decide), rfl⟩ ?y7 ?y8)) EvL.nilE)) (Op2.addList ?y9)) ?y10
          case y1 => rw [List.length_map, List.length_append]; exact seq_last
          case y2 => simp
          case y3 => rw [List.length_map, List.length_append, List.length_singleton, sizeLine_eq]; omega
          case y4 => rw [wD, List.length_map, e4]; rfl
          case y5 => unfold wD; rw [List.getElem?_map, e3]; rfl
          case y6 => rw [wD, List.length_map, e4, sizeLine_eq]; decide
          case y7 => show A'.depth + 1 + 2 < _; omega
          case y8 => show A'.units + 3 + 40 * 2 + 100 < _; omega
          case y9 => rw [List.length_map, List.length_append, List.length_singleton, List.length_singleton, sizeLine_eq]; omega
          case y10 => rw [wsD_wD, e6]; simp [rD]
      have kqR : ∀ l : List (List (List Nat)), (∀ r ∈ l, ∀ p ∈ r, okc p) → kqdOk 8 (.list (l.map rD)) = true := by
        intro l hl
        simp only [kqdOk, List.all_eq_true, List.mem_map]
        rintro d ⟨r, hr, rfl⟩
        simp only [rD, kqdOk, List.all_eq_true, wD, List.mem_map]
        rintro d ⟨p, hp, rfl⟩
        exact strOk_S (hl r hr p hp)
      have okR : ∀ r ∈ [row1 (cs.getD 7 0) (lin1 (cs.getD 6 0) (lin0 cs)), row1 (cs.getD 6 0) (lin0 cs), row0 cs], ∀ p ∈ r, okc p := by
        intro r hr
        simp only [List.mem_cons, List.not_mem_nil, or_false] at hr
        rcases hr with rfl | rfl | rfl
        · exact fun p hp => (H.t2.w p hp).2
        · exact fun p hp => (H.t1.w p hp).2
        · exact fun p hp => (H.t0.w p hp).2
      refine' Ex.consM [] [(Str.ofString "rows", .dat (.list ((rowsL cs).map rD))), (Str.ofString "dresses", .dat (.list ((drsL cs).map xD))), (Str.ofString "lines", .dat (.list ((linL cs).map lD)))] (ExS.ifX (v := false) (Tr.of (Tr.orE (v := false) (w := false) (Tr.of (Tr.cmp (a := .list ([row1 (cs.getD 7 0) (lin1 (cs.getD 6 0) (lin0 cs)), row1 (cs.getD 6 0) (lin0 cs), row0 cs].map rD)) (b := .list ([row1 (cs.getD 7 0) (lin1 (cs.getD 6 0) (lin0 cs)), row1 (cs.getD 6 0) (lin0 cs), row0 cs].map rD)) (Ev.of (Ev.sliceList (lo := some 1) (hi := none) (Ev.name (by rfl)) (EvP.yes Ev.intC) EvP.no ?y1) ?y2)
        (Ev.of (Ev.listD (EvL.consE (Ev.itemList (j := 2) (d := rD (row1 (cs.getD 7 0) (lin1 (cs.getD 6 0) (lin0 cs)))) (Ev.name (by rfl)) Ev.intC (by rfl) (by rfl) zR) (EvL.consE (Ev.itemList (j := 1) (d := rD (row1 (cs.getD 6 0) (lin0 cs))) (Ev.name (by rfl)) Ev.intC (by rfl) (by rfl) zR) (EvL.consE (Ev.itemList (j := 0) (d := rD (row0 cs)) (Ev.name (by rfl)) Ev.intC (by rfl) (by rfl) zR) EvL.nilE)))) rfl) (Op2.neD (b := true) (kqR _ okR) (kqR _ okR) hu2 (by simp))) (by rfl))
        (fun _ => Tr.of (Tr.orE (v := false) (w := false) (Tr.of (Tr.notE (Tr.boolE (v := true) (Ev.callF (Ev.global (by rfl) N.torn) (KI _ _ (by rfl)) (by rfl) (EvL.consE (Ev.callF (Ev.global (by rfl) N.line) (KI _ _ (by rfl)) (by rfl) (EvL.consE (Ev.itemList (j := 0) (d := rD (row0 cs)) (Ev.name (by rfl)) Ev.intC (by rfl) (by rfl) zR) (EvL.consE (Ev.itemList (j := 0) (d := xD (drs0 cs)) (Ev.name (by rfl)) Ev.intC (by rfl) (by rfl) zX) EvL.nilE)) (OpN.con (c_line KI N) ⟨row0 cs, drs0 cs, rfl, ?y3, ?y4, rfl⟩ ?y5 ?y6)) EvL.nilE) (OpN.con (c_torn KI N) ⟨_, rfl, ?y7, H.sok, H.torn, rfl⟩ ?y8 ?y9)))) (by rfl)) (fun _ => Tr.orNil)) (by rfl))) (by rfl)) (fun h => nomatch h) (fun _ => nilN (by walk_at "sub"))) ?_
      case y1 => rw [List.length_map, sizeLine_eq]; show 4 ≤ _; decide
      case y2 =>
        have : sl ((TL cs).map rD) (some 1) none = ((TL cs).map rD).drop 1 := sl_from _ 1
        rw [this]; rfl
      case y3 => exact fun p hp => let ⟨a, b⟩ := ht0.w p hp; ⟨Nat.le_trans a (by decide), b⟩
      case y4 => exact Nat.le_trans ht0.steps (by decide)
      case y5 => show A.depth + 1 + 2 < _; omega
      case y6 => show A.units + 3 + 40 * 2 + 100 < _; omega
      case y7 => rw [List.length_drop]; have := ht0.steps; omega
      case y8 => show A.depth + 1 + 3 < _; omega
      case y9 => show A.units + 3 + 40 * 3 + 100 < _; omega
      refine' Ex.consX (ExS.forX (It.zip3C (elts := [.Name _ _, .Name _ _, .Name _ _]) (Ev.builtin (by rfl) N.zip boot_zip) (Ev.name (by rfl)) (Ev.name (by rfl)) (Ev.name (by rfl)) (by rfl) (by rfl)) (fun i O ρ => O = [] ∧ ρ = [(Str.ofString "rows", .dat (.list ((rowsL cs).map rD)))]) ?x3 ?x4 ?x5 ?x6)
      case x3 => exact ⟨_, ⟨rfl, rfl⟩, by walk_at "sub"⟩
      case x4 => rintro i O' ρ' ⟨rfl, _⟩; rfl
      case x5 =>
        rintro V' K D i O' ρ' d ⟨rfl, rfl⟩ hd'
        obtain ⟨hi, rfl⟩ := trip_get cs i d hd'
        have hT := H.trip i hi
        generalize (rowsL cs).getD i [] = row at hT
        generalize (drsL cs).getD i [] = x at hT
        generalize (linL cs).getD i [] = line at hT
        refine ⟨_, As.tuple3 (.inl (by rfl)) (.inl (by rfl)) (.inr ⟨rfl, by rfl, _, by rfl⟩), ?_⟩
        have lRow : (wD row).length ≤ sizeLine := by rw [wD, List.length_map, sizeLine_eq]; have := hT.x3; omega
        have lX : (iD x).length ≤ sizeLine := by rw [iD, List.length_map, sizeLine_eq]; have := hT.x3; have := hT.n; omega
        have hll := hT.l
        have cR : ∀ p ∈ row.take 1, okc p := fun p hp => (hT.w p (List.mem_of_mem_take hp)).2
        have s1 : sl (wD row) none (some 1) = wD (row.take 1) := by
          have : sl (wD row) none (some 1) = (wD row).take 1 := sl_upto _ 1
          rw [this]; simp [wD]
        have s2 : sl (iD x) none (some 1) = iD (x.take 1) := by
          have : sl (iD x) none (some 1) = (iD x).take 1 := sl_upto _ 1
          rw [this]; simp [iD]
        have e257 : Str.ofString "257" = S [50, 53, 55] := by decide
        refine' Ex.consM [] [(Str.ofString "rows", .dat (.list ((rowsL cs).map rD))), (Str.ofString "row", .dat (rD row)), (Str.ofString "dress", .dat (xD x)), (Str.ofString "line", .dat (lD line)), (Str.ofString "bare", .dat (.bool (bareB row x)))] (ExS.assign (d := .bool (bareB row x)) (.inl (by rfl)) (Ev.of (Ev.andB (a := decide (row.take 1 = [[50, 53, 55]])) (b := x.headD 1 == 0) (Ev.cmp (a := .list (wD (row.take 1))) (b := .list (wD [[50, 53, 55]])) (Ev.of (Ev.sliceList (ds := wD row) (lo := none) (hi := some 1) (Ev.name (by rfl)) EvP.no (EvP.yes Ev.intC) lRow) (by rw [s1])) (Ev.of (Ev.listD (EvL.consE Ev.strC EvL.nilE)) (by rw [e257]; rfl)) (Op2.eqD (kqd_wD cR) ?y1 hu2 ?y2)) (fun h => ?y3)) rfl) (nextN (by walk_at "sub"))) ?_
        case y1 => exact kqd_wD (ws := [[50, 53, 55]]) (fun p hp c hc => by rw [List.mem_singleton.mp hp] at hc; simp at hc; omega)
        case y2 =>
          rw [decide_eq_true_eq]
          exact ⟨fun q => by rw [q], fun q => wD_inj.mp (by injection q)⟩
        case y3 =>
          have h' := of_decide_eq_true h
          have hne : 0 < x.length := by
            rw [hT.n]
            cases row with
            | nil => simp at h'
            | cons a r => simp
          obtain ⟨a, r, rfl⟩ : ∃ a r, x = a :: r := by
            cases x with
            | nil => simp at hne
            | cons a r => exact ⟨a, r, rfl⟩
          exact Ev.of (Ev.cmp (Ev.itemList (j := 0) (ds := iD (a :: r)) (d := .int a) (Ev.name (by rfl)) Ev.intC (seq0 (by simp [iD])) (by rfl) lX) Ev.intC Op2.eqInt) rfl
        have hbare := @bareB_iff row x
        refine' Ex.consM [] [(Str.ofString "rows", .dat (.list ((rowsL cs).map rD))), (Str.ofString "line", .dat (lD line)), (Str.ofString "due", .dat (.list (HEADS.map fun h => askD (h ++ line))))] (ExS.assign (d := .list (HEADS.map fun h => askD (h ++ line))) (.inl (by rfl)) (Ev.of (d := .list [askD ([] ++ line), askD ([50, 53, 55, 32] ++ line), askD ([50, 53, 55, 45] ++ line), askD ([50, 53, 48, 32] ++ line), askD ([50, 48, 55, 32] ++ line), askD ([49, 53, 55, 32] ++ line)]) (Ev.listD (EvL.consE ?d1 (EvL.consE ?d2 (EvL.consE ?d3 (EvL.consE ?d4 (EvL.consE ?d5 (EvL.consE ?d6 EvL.nilE))))))) rfl) (nextN (by walk_at "sub"))) ?_
        case d1 =>
          refine Ev.ite (v := bareB row x) (Tr.boolE (Ev.name (by rfl))) (fun h => ?_) (fun h => ?_)
          · obtain ⟨b1, b2⟩ := hbare.mp h
            obtain ⟨a, b, c, rfl, t3, y, z, rfl, hp⟩ := hT.bare b1 b2
            have e1 : askD ([] ++ line) = .str (S (if y ≠ 0 then b else [])) := by
              rw [List.nil_append, askD, if_pos t3, hp]
            rw [e1]
            refine Ev.ite (v := y != 0) (Tr.intE (Ev.itemList (j := 1) (ds := iD [0, y, z]) (d := .int y) (Ev.name (by rfl)) Ev.intC (by rfl) (by rfl) lX)) (fun h => ?_) (fun h => ?_)
            · have hy : y ≠ 0 := by simpa using h
              rw [if_pos hy]
              exact Ev.itemList (j := 1) (ds := wD [a, b, c]) (Ev.name (by rfl)) Ev.intC (by rfl) (by rfl) lRow
            · have hy : ¬ y ≠ 0 := by simpa using h
              rw [if_neg hy]
              exact Ev.of Ev.strC rfl
          · have hn : ¬ (row.take 1 = [[50, 53, 55]] ∧ x[0]? = some 0) := fun q => by rw [hbare.mpr q] at h; cases h
            have e1 : askD ([] ++ line) = .list [lD line] := by
              rw [List.nil_append, askD, if_neg (hT.nbare hn)]; rfl
            rw [e1]
            exact Ev.listD (EvL.consE (Ev.name (by rfl)) EvL.nilE)
        case d2 =>
          have e1 : askD ([50, 53, 55, 32] ++ line) = .str (S (if (x.take 1).sum ≠ 0 then row.headD [] else [])) := by
            rw [askD, if_pos (by rfl), hT.first]
          rw [e1]
          refine Ev.ite (v := (x.take 1).sum != 0) (Tr.intE (Ev.callB (Ev.builtin (by rfl) N.sum boot_sum) (EvL.consE (Ev.of (d' := .list ((x.take 1).map .int)) (Ev.sliceList (ds := iD x) (lo := none) (hi := some 1) (Ev.name (by rfl)) EvP.no (EvP.yes Ev.intC) lX) (by rw [s2]; rfl)) EvL.nilE) OpN.sum)) (fun h => ?_) (fun h => ?_)
          · have hy : (x.take 1).sum ≠ 0 := by simpa using h
            rw [if_pos hy]
            have hne : 0 < row.length := by
              rw [← hT.n]
              cases x with
              | nil => simp at hy
              | cons a r => simp
            obtain ⟨a, r, rfl⟩ : ∃ a r, row = a :: r := by
              cases row with
              | nil => simp at hne
              | cons a r => exact ⟨a, r, rfl⟩
            exact Ev.itemList (j := 0) (ds := wD (a :: r)) (Ev.name (by rfl)) Ev.intC (seq0 (by simp [wD])) (by rfl) lRow
          · have hy : ¬ (x.take 1).sum ≠ 0 := by simpa using h
            rw [if_neg hy]
            exact Ev.of Ev.strC rfl
        case d3 =>
          have e1 : askD ([50, 53, 55, 45] ++ line) = .str (S []) := by rw [askD, if_pos (by rfl), hT.hyph]
          rw [e1]
          exact Ev.of Ev.strC rfl
        case d4 =>
          have e1 : askD ([50, 53, 48, 32] ++ line) = .list [.str (Str.ofString "250 " ++ S line)] := by
            rw [askD, if_neg (by intro h; exact absurd h (by simp)), ← S_append]; rfl
          rw [e1]
          exact Ev.listD (EvL.consE (Ev.bin Ev.strC (Ev.name (by rfl)) (Op2.addStr (by rw [S_length, sizeLine_eq]; show 4 + _ ≤ _; omega))) EvL.nilE)
        case d5 =>
          have e1 : askD ([50, 48, 55, 32] ++ line) = .list [.str (Str.ofString "207 " ++ S line)] := by
            rw [askD, if_neg (by intro h; exact absurd h (by simp)), ← S_append]; rfl
          rw [e1]
          exact Ev.listD (EvL.consE (Ev.bin Ev.strC (Ev.name (by rfl)) (Op2.addStr (by rw [S_length, sizeLine_eq]; show 4 + _ ≤ _; omega))) EvL.nilE)
        case d6 =>
          have e1 : askD ([49, 53, 55, 32] ++ line) = .list [.str (Str.ofString "157 " ++ S line)] := by
            rw [askD, if_neg (by intro h; exact absurd h (by simp)), ← S_append]; rfl
          rw [e1]
          exact Ev.listD (EvL.consE (Ev.bin Ev.strC (Ev.name (by rfl)) (Op2.addStr (by rw [S_length, sizeLine_eq]; show 4 + _ ≤ _; omega))) EvL.nilE)
        have kq : kqdOk 8 (.list (HEADS.map fun h => askD (h ++ line))) = true := by
          have hok : okc line := hT.ok
          have okh : ∀ h ∈ HEADS, okc (h ++ line) := by
            intro h hh c hc
            rcases List.mem_append.mp hc with hc | hc
            · simp only [HEADS, List.mem_cons, List.not_mem_nil, or_false] at hh
              rcases hh with rfl | rfl | rfl | rfl | rfl | rfl <;> (simp at hc; try omega)
            · exact hok c hc
          have lst : ∀ h ∈ HEADS, kqdOk 7 (.list [.str (S (h ++ line))]) = true := fun h hh => by
            simp only [kqdOk, List.all_cons, List.all_nil, Bool.and_true]
            exact strOk_S (okh h hh)
          have stx : ∀ l, okc l → kqdOk 7 (.str (S l)) = true := fun l hl => by simp only [kqdOk]; exact strOk_S hl
          simp only [kqdOk, List.all_eq_true, List.mem_map]
          rintro d ⟨h, hh, rfl⟩
          have gen : ∀ h ∈ HEADS, (h ++ line).take 3 ≠ [50, 53, 55] ∨ okc (p257 (h ++ line)) := by
            intro h hh
            simp only [HEADS, List.mem_cons, List.not_mem_nil, or_false] at hh
            rcases hh with rfl | rfl | rfl | rfl | rfl | rfl
            · by_cases hb : row.take 1 = [[50, 53, 55]] ∧ x[0]? = some 0
              · obtain ⟨a, b, c, rfl, t3, y, z, rfl, hp⟩ := hT.bare hb.1 hb.2
                refine .inr ?_
                rw [List.nil_append, hp]
                split
                · exact (hT.w b (by simp)).2
                · exact okc_nil
              · exact .inl (hT.nbare hb)
            · refine .inr ?_
              rw [hT.first]
              split
              · cases row with
                | nil => exact okc_nil
                | cons a r => exact (hT.w a (by simp)).2
              · exact okc_nil
            · exact .inr (by rw [hT.hyph]; exact okc_nil)
            · exact .inl (by intro q; exact absurd q (by simp))
            · exact .inl (by intro q; exact absurd q (by simp))
            · exact .inl (by intro q; exact absurd q (by simp))
          unfold askD
          split
          · rename_i h3
            rcases gen h hh with q | q
            · exact absurd h3 q
            · exact stx _ q
          · exact lst h hh
        refine' Ex.consM [] [(Str.ofString "rows", .dat (.list ((rowsL cs).map rD))), (Str.ofString "line", .dat (lD line))] (ExS.ifX (v := false) (Tr.of (Tr.cmp (Ev.compA (xs := HEADS) (j := fun h => Dat.str (S h)) (g := fun h => askD (h ++ line)) (ρc := [(Str.ofString "line", .dat (lD line))]) (It.list (Ev.of (Ev.listD (EvL.consE Ev.strC (EvL.consE Ev.strC (EvL.consE Ev.strC (EvL.consE Ev.strC (EvL.consE Ev.strC (EvL.consE Ev.strC EvL.nilE))))))) rfl)) (by rfl) ?y1 ?y2 ?y3) (Ev.name (by rfl)) (Op2.neD (b := true) kq kq hu2 (by simp))) (by rfl)) (fun h => nomatch h) (fun _ => nilN (by walk_at "sub"))) ?_
        case y1 =>
          refine Cap.of (Sub.consS (by rfl) (Sub.nilS _)) ?_ ?_ ?_
          · intro y hy
            rw [List.mem_singleton.mp hy]
            exact ⟨_, by rfl, by rfl, .inl (by rfl), .inl (by rfl)⟩
          · intro p hp
            rw [List.mem_singleton.mp hp]; rfl
          · exact List.pairwise_singleton _ _
        case y2 =>
          intro C s₁ V'' K'' D'' Dd acc h hh
          have h4 : h.length ≤ 4 := by
            simp only [HEADS, List.mem_cons, List.not_mem_nil, or_false] at hh
            rcases hh with rfl | rfl | rfl | rfl | rfl | rfl <;> simp
          refine' ⟨_, ?w0, As.name (.inl (by rfl)), Ev.callF (Ev.global (by rfl) N.asked) (KI _ _ (by rfl)) (by rfl) (EvL.consE (Ev.of (d' := .str (S (h ++ line))) (Ev.bin (Ev.name (by rfl)) (Ev.name (by rfl)) (Op2.addStr ?w1)) (by rw [S_append])) EvL.nilE) (OpN.conF (c_asked KI N) ?w2 ⟨h ++ line, rfl, ?w3, rfl⟩ ?w4 ?w5)⟩
          case w0 => walk_at "sub"
          case w1 => rw [S_length, S_length, sizeLine_eq]; omega
          case w2 => exact Around.frames_deeper hst
          case w3 => rw [List.length_append]; omega
          case w4 => show A.depth + 1 + 2 < _; omega
          case w5 => show A.units + 3 + 40 * 2 + 100 < _; omega
        case y3 => rw [sizeLine_eq]; decide
        have hsp : (stp 1 line).length ≤ 25002 := by
          have := sgs_len 1 line
          unfold stp
          rw [if_neg (by simp)]
          simp only [List.length_cons, List.length_append, List.length_nil]
          omega
        refine' Ex.consX (ExS.ifX (v := false) (Tr.of (Tr.cmp (Ev.of (d' := .str (S line)) (Ev.callF (Ev.global (by rfl) N.asked) (KI _ _ (by rfl)) (by rfl) (EvL.consE (Ev.of (d' := .str (S ([50, 53, 55, 32] ++ ((stp 1 line).map (·.1)) ++ [109, 97, 100, 101]))) (Ev.bin (Ev.bin Ev.strC (Ev.callF (Ev.global (by rfl) N.text) (KI _ _ (by rfl)) (by rfl) (EvL.consE (Ev.callF (Ev.global (by rfl) N.steps) (KI _ _ (by rfl)) (by rfl) (EvL.consE (Ev.name (by rfl)) (EvL.consE Ev.intC EvL.nilE)) (OpN.con (c_steps KI) ⟨line, 1, rfl, ?y1, hT.ok, rfl⟩ ?y2 ?y3)) EvL.nilE) (OpN.con (c_text KI) ⟨_, rfl, ?y4, rfl⟩ ?y5 ?y6)) (Op2.addStr ?y7)) Ev.strC (Op2.addStr ?y8)) ?y9) EvL.nilE) (OpN.conF (c_asked KI N) ?z1 ⟨_, rfl, ?z2, rfl⟩ ?z3 ?z4)) ?z5) (Ev.name (by rfl)) Op2.neStr) (by simp)) (fun h => nomatch h) (fun _ => Ex.nilX (thenN ?_)))
        case y1 => omega
        case y2 => show A.depth + 1 + 1 < _; omega
        case y3 => show A.units + 3 + 40 * 1 + 100 < _; omega
        case y4 => omega
        case y5 => show A.depth + 1 + 1 < _; omega
        case y6 => show A.units + 3 + 40 * 1 + 100 < _; omega
        case y7 => rw [S_length, List.length_map, sizeLine_eq]; show 4 + _ ≤ _; omega
        case y8 =>
          have e4 : Str.ofString "257 " = S [50, 53, 55, 32] := by decide
          have e5 : (Str.ofString "made").length = 4 := by decide
          rw [e4, S_append, S_length, List.length_append, List.length_map, e5, sizeLine_eq]
          simp only [List.length_cons, List.length_nil]; omega
        case y9 =>
          have e4 : Str.ofString "257 " = S [50, 53, 55, 32] := by decide
          have e5 : Str.ofString "made" = S [109, 97, 100, 101] := by decide
          rw [e4, e5, S_append, S_append]
        case z1 => exact Around.frames_deeper hst
        case z2 =>
          rw [List.length_append, List.length_append, List.length_map]
          simp only [List.length_cons, List.length_nil]; omega
        case z3 => show A.depth + 1 + 2 < _; omega
        case z4 => show A.units + 3 + 40 * 2 + 100 < _; omega
        case z5 => rw [if_pos (by simp), hT.made]
        exact Ex.nilX ⟨_, ⟨rfl, rfl⟩, by walk_at "sub"⟩
      case x6 =>
        rintro O' ρ' ⟨rfl, rfl⟩
        refine thenN ?_
        refine Ex.consX (ExS.ret (d := .bool true) ?_ rfl)
        refine' Ev.of (Ev.cmp (Ev.callF (Ev.global (by rfl) N.join) (KI _ _ (by rfl)) (by rfl) (EvL.consE (Ev.itemList (j := 0) (d := rD (row0 cs)) (Ev.name (by rfl)) Ev.intC (by rfl) (by rfl) zR) EvL.nilE) (OpN.con (c_join T) ⟨row0 cs, rfl, ?y1, ?y2, ?y3, rfl⟩ ?y4 ?y5))
          (Ev.callF (Ev.global (by rfl) N.text) (KI _ _ (by rfl)) (by rfl) (EvL.consE (Ev.callF (Ev.global (by rfl) N.line) (KI _ _ (by rfl)) (by rfl) (EvL.consE (Ev.itemList (j := 0) (d := rD (row0 cs)) (Ev.name (by rfl)) Ev.intC (by rfl) (by rfl) zR) (EvL.consE (Ev.of (d' := xD (List.replicate (row0 cs).length 0)) (Ev.bin (Ev.listD (EvL.consE Ev.intC EvL.nilE)) (Ev.callB (Ev.builtin (by rfl) N.len boot_len) (EvL.consE (Ev.itemList (j := 0) (d := rD (row0 cs)) (Ev.name (by rfl)) Ev.intC (by rfl) (by rfl) zR) EvL.nilE) (OpN.lenList ?y6)) (Op2.mulList ?y7 ?y8 (by decide))) ?y9) EvL.nilE)) (OpN.con (c_line KI N) ⟨row0 cs, _, rfl, ?w1, ?w2, rfl⟩ ?w3 ?w4)) EvL.nilE) (OpN.con (c_text KI) ⟨_, rfl, ?w5, rfl⟩ ?w6 ?w7)) Op2.eqStr) ?w8
        case y1 => have := ht0.x3; rw [sizeLine_eq]; omega
        case y2 => exact fun p hp => Nat.le_trans (ht0.w p hp).1 (by decide)
        case y3 =>
          have := jn_sum ((row0 cs).map qt)
          have h2 := H.jlen
          have := ht0.x3
          rw [sizeLine_eq]; omega
        case y4 => show A.depth + 1 + 5 < _; omega
        case y5 => show A.units + 3 + 40 * 5 + 100 < _; omega
        case y6 => rw [wD, List.length_map, sizeLine_eq]; have := ht0.x3; omega
        case y7 => exact Int.natCast_nonneg _
        case y8 => rw [wD, List.length_map]; have := ht0.x3; omega
        case y9 =>
          rw [wD, List.length_map, Int.toNat_natCast]
          unfold xD iD
          congr 1
          induction (row0 cs).length with
          | zero => rfl
          | succ n ih => rw [List.replicate_succ, List.replicate_succ, List.flatten_cons, List.map_cons, ih]; rfl
        case w1 => exact fun p hp => let ⟨a, b⟩ := ht0.w p hp; ⟨Nat.le_trans a (by decide), b⟩
        case w2 => exact Nat.le_trans H.jsteps (by decide)
        case w3 => show A.depth + 1 + 2 < _; omega
        case w4 => show A.units + 3 + 40 * 2 + 100 < _; omega
        case w5 => rw [List.length_drop]; have := H.jsteps; omega
        case w6 => show A.depth + 1 + 1 < _; omega
        case w7 => show A.units + 3 + 40 * 1 + 100 < _; omega
        case w8 =>
          rw [H.join]
          simp [lnT]
end

end Mine

namespace Mine
/-! ## steps read as told -/
def sndL (ws : List (Nat × List Nat)) : List (List Nat) := ws.map (·.2)
abbrev TS := List (List Nat) × Bool
def Gd : Wk → TS → List Step → Prop
  | _, _, [] => True
  | σ, τ, p :: r => sndL (wstp σ p.1).ws = (tstep τ p).1 ∧ Gd (wstp σ p.1) (tstep τ p) r
/-- the steps are read and told alike -/
structure Rn (σ : Wk) (τ : TS) (a : List Step) (σ' : Wk) (τ' : TS) : Prop where
  g : Gd σ τ a
  w : wk σ (a.map (·.1)) = σ'
  t : a.foldl tstep τ = τ'
theorem Rn.nil {σ : Wk} {τ : TS} : Rn σ τ [] σ τ := ⟨trivial, rfl, rfl⟩
theorem Rn.cons {σ σ' : Wk} {τ τ' : TS} {p : Step} {r : List Step} (h : sndL (wstp σ p.1).ws = (tstep τ p).1) (x : Rn (wstp σ p.1) (tstep τ p) r σ' τ') : Rn σ τ (p :: r) σ' τ' :=
  ⟨⟨h, x.g⟩, x.w, x.t⟩
theorem Gd.app {a b : List Step} : ∀ {σ : Wk} {τ : TS}, Gd σ τ a → Gd (wk σ (a.map (·.1))) (a.foldl tstep τ) b → Gd σ τ (a ++ b) := by
  induction a with
  | nil => intro σ τ _ h; exact h
  | cons p r ih => intro σ τ h1 h2; exact ⟨h1.1, ih h1.2 h2⟩
theorem Rn.app {σ σ' σ'' : Wk} {τ τ' τ'' : TS} {a b : List Step} (x : Rn σ τ a σ' τ') (y : Rn σ' τ' b σ'' τ'') : Rn σ τ (a ++ b) σ'' τ'' := by
  obtain ⟨g1, rfl, rfl⟩ := x
  refine ⟨g1.app y.g, ?_, ?_⟩
  · rw [List.map_append, wk_app]; exact y.w
  · rw [List.foldl_append]; exact y.t
/-- a step whose walk and telling are known -/
theorem Rn.one {σ σ' : Wk} {τ τ' : TS} {p : Step} (h1 : wstp σ p.1 = σ') (h2 : tstep τ p = τ') (h : sndL σ'.ws = τ'.1) : Rn σ τ [p] σ' τ' := by
  subst h1; subst h2; exact ⟨⟨h, trivial⟩, rfl, rfl⟩
theorem tstep_some (W : List (List Nat)) (u t : List Nat) (c : Nat) : tstep (W ++ [u], false) (c, some t) = (W ++ [u ++ t], false) := by
  simp [tstep]
theorem tstep_new (W : List (List Nat)) (t : List Nat) (c : Nat) : tstep (W, true) (c, some t) = (W ++ [t], false) := by
  simp [tstep]
theorem sndL_app (ws : List (Nat × List Nat)) (t : Nat) (u : List Nat) : sndL (ws ++ [(t, u)]) = sndL ws ++ [u] := by simp [sndL]
theorem mk_mark (x : Int) : mk x = 39 ∨ mk x = 34 := by unfold mk; split <;> simp
/-- within a word in marks -/
abbrev inW (ws : List (Nat × List Nat)) (t : Nat) (u : List Nat) (x : Int) : Wk := ⟨ws ++ [(t, u)], some (mk x), none, false⟩
theorem sg_run (ws : List (Nat × List Nat)) (t : Nat) (u : List Nat) (x : Int) (c : Nat) : Rn (inW ws t u x) (sndL ws ++ [u], false) (sg x c) (inW ws t (u ++ [c]) x) (sndL ws ++ [u ++ [c]], false) := by
  unfold sg
  split
  · rename_i hc
    subst hc
    unfold hid
    split
    · rename_i hx
      have hm : mk x = 34 := by unfold mk; rw [if_pos hx]
      unfold inW
      rw [hm]
      refine Rn.app (a := [_]) (σ' := ⟨ws ++ [(t, u)], none, some 34, false⟩) (τ' := (sndL ws ++ [u], false)) (Rn.one (wstp_close _ _ _) ?_ (sndL_app _ _ _)) (Rn.one ?_ ?_ (sndL_app _ _ _))
      · rw [tstep_some, List.append_nil]
      · rw [wstp_open _ _ _ (.inr rfl), if_pos rfl]
        simp only [beg, Bool.false_eq_true, if_false, app_concat]
      · rw [tstep_some]
    · rename_i hx
      have hm : mk x = 39 := by unfold mk; rw [if_neg hx]
      unfold inW
      rw [hm]
      refine Rn.app (a := [_]) (σ' := ⟨ws ++ [(t, u)], none, some 39, false⟩) (τ' := (sndL ws ++ [u], false)) (Rn.one (wstp_close _ _ _) ?_ ?_) (Rn.app (a := [_]) (σ' := ⟨ws ++ [(t, u)], some 34, none, false⟩) (τ' := (sndL ws ++ [u], false)) (Rn.one ?_ ?_ ?_) (Rn.app (a := [_]) (σ' := ⟨ws ++ [(t, u ++ [39])], some 34, none, false⟩) (τ' := (sndL ws ++ [u ++ [39]], false)) (Rn.one ?_ ?_ ?_) (Rn.app (a := [_]) (σ' := ⟨ws ++ [(t, u ++ [39])], none, some 34, false⟩) (τ' := (sndL ws ++ [u ++ [39]], false)) (Rn.one (wstp_close _ _ _) ?_ ?_) (Rn.one ?_ ?_ ?_))))
      · rw [tstep_some, List.append_nil]
      · exact sndL_app _ _ _
      · rw [wstp_open _ _ _ (.inr rfl), if_neg (by decide)]
        simp only [beg, Bool.false_eq_true, if_false, app_nil0]
      · rw [tstep_some, List.append_nil]
      · exact sndL_app _ _ _
      · rw [wstp_in _ _ (by decide), app_concat]
      · rw [tstep_some]
      · exact sndL_app _ _ _
      · rw [tstep_some, List.append_nil]
      · exact sndL_app _ _ _
      · rw [wstp_open _ _ _ (.inl rfl), if_neg (by decide)]
        simp only [beg, Bool.false_eq_true, if_false, app_nil0]
      · rw [tstep_some, List.append_nil]
      · exact sndL_app _ _ _
  · rename_i hc
    exact Rn.one (by unfold inW; rw [wstp_in _ _ hc, app_concat]) (tstep_some _ _ _ _) (sndL_app _ _ _)
theorem sgs_run (ws : List (Nat × List Nat)) (t : Nat) (x : Int) : ∀ (w u : List Nat), Rn (inW ws t u x) (sndL ws ++ [u], false) (w.flatMap (sg x)) (inW ws t (u ++ w) x) (sndL ws ++ [u ++ w], false)
  | [], u => by rw [List.append_nil]; exact Rn.nil
  | c :: w, u => by
    rw [List.flatMap_cons]
    refine Rn.app (sg_run ws t u x c) ?_
    have := sgs_run ws t x w (u ++ [c])
    rwa [List.append_assoc, List.singleton_append] at this
theorem bare_run (ws : List (Nat × List Nat)) (t : Nat) : ∀ (w u : List Nat), w.all safeN = true → Rn ⟨ws ++ [(t, u)], none, none, false⟩ (sndL ws ++ [u], false) (w.map fun c => (c, some [c])) ⟨ws ++ [(t, u ++ w)], none, none, false⟩ (sndL ws ++ [u ++ w], false)
  | [], u, _ => by rw [List.append_nil]; exact Rn.nil
  | c :: w, u, h => by
    rw [List.all_cons, Bool.and_eq_true] at h
    obtain ⟨h1, h2⟩ := safe_ne h.1
    have := bare_run ws t w (u ++ [c]) h.2
    rw [List.append_assoc, List.singleton_append] at this
    refine Rn.app (a := [_]) (Rn.one ?_ (tstep_some _ _ _ _) (sndL_app _ _ _)) this
    rw [wstp_sign _ _ _ h1 h2]
    simp only [beg, Bool.false_eq_true, if_false, app_concat]
theorem okw_iff (w : List Nat) : okw w = true ↔ w ≠ [] ∧ w.all safeN = true := by
  unfold okw
  have : (w.all fun c => decide (c ∈ SAFE)) = w.all safeN := by
    congr 1
    funext c
    by_cases h : c < 128
    · exact (safe_list c h).symm
    · rw [safeN_hi (by omega)]
      have : ∀ c ∈ SAFE, c < 128 := by decide +kernel
      exact decide_eq_false fun hc => h (this c hc)
  rw [this]
  simp
def tg (x : Int) : Nat := if x ≠ 0 then 1 else 0
theorem stp_run (ws : List (Nat × List Nat)) (x : Int) (w : List Nat) : ∃ cl, Rn ⟨ws, none, none, true⟩ (sndL ws, true) (stp x w) ⟨ws ++ [(tg x, w)], none, cl, false⟩ (sndL ws ++ [w], false) := by
  unfold stp
  split
  · rename_i h
    obtain ⟨hx, hw⟩ := h
    obtain ⟨hne, hs⟩ := (okw_iff w).mp hw
    cases w with
    | nil => exact absurd rfl hne
    | cons c r =>
      rw [List.all_cons, Bool.and_eq_true] at hs
      obtain ⟨h1, h2⟩ := safe_ne hs.1
      refine ⟨none, Rn.app (a := [_]) (σ' := ⟨ws ++ [(tg x, [c])], none, none, false⟩) (τ' := (sndL ws ++ [[c]], false)) (Rn.one ?_ (tstep_new _ _ _) (sndL_app _ _ _)) (bare_run ws (tg x) r [c] hs.2)⟩
      rw [wstp_sign _ _ _ h1 h2]
      have : ¬ c = 34 := fun e => h1 (.inr e)
      simp only [beg, if_true, app_concat, if_neg this, List.nil_append, tg, hx, ne_eq, not_true_eq_false, if_false]
  · refine ⟨some (mk x), Rn.app (a := [_]) (σ' := inW ws (tg x) [] x) (τ' := (sndL ws ++ [[]], false)) (Rn.one ?_ (tstep_new _ _ _) (sndL_app _ _ _)) (Rn.app (sgs_run ws (tg x) x w []) (Rn.one (wstp_close _ _ _) ?_ ?_))⟩
    · rw [wstp_open _ _ _ (mk_mark x), if_neg (by simp), app_nil0]
      unfold inW
      simp only [beg, if_true]
      have : (if mk x = 34 then 1 else 0) = tg x := by unfold mk tg; split <;> simp
      rw [this]
    · rw [tstep_some, List.append_nil, List.nil_append]
    · exact sndL_app _ _ _
theorem lineP_run : ∀ (ps : List (List Nat × Int)) (ws : List (Nat × List Nat)) (cl : Option Nat), ∃ cl', Rn ⟨ws, none, cl, false⟩ (sndL ws, false) (lineP ps) ⟨ws ++ ps.map (fun p => (tg p.2, p.1)), none, cl', false⟩ (sndL ws ++ ps.map (·.1), false)
  | [], ws, cl => ⟨cl, by simp only [List.map_nil, List.append_nil]; exact Rn.nil⟩
  | p :: ps, ws, cl => by
    obtain ⟨cl1, h1⟩ := stp_run ws p.2 p.1
    obtain ⟨cl2, h2⟩ := lineP_run ps (ws ++ [(tg p.2, p.1)]) cl1
    refine ⟨cl2, ?_⟩
    have e : lineP (p :: ps) = [(32, none)] ++ (stp p.2 p.1 ++ lineP ps) := rfl
    rw [e]
    refine Rn.app (Rn.one (wstp_blank _ _ _) rfl rfl) (Rn.app h1 ?_)
    rw [sndL_app, List.append_assoc, List.append_assoc, List.singleton_append, List.singleton_append] at h2
    rw [List.map_cons, List.map_cons]
    exact h2
theorem line_run (ps : List (List Nat × Int)) : ∃ cl fr, Rn ⟨[], none, none, true⟩ ([], true) ((lineP ps).drop 1) ⟨ps.map (fun p => (tg p.2, p.1)), none, cl, fr⟩ (ps.map (·.1), fr) := by
  cases ps with
  | nil => exact ⟨none, true, Rn.nil⟩
  | cons p ps =>
    obtain ⟨cl1, h1⟩ := stp_run [] p.2 p.1
    obtain ⟨cl2, h2⟩ := lineP_run ps [(tg p.2, p.1)] cl1
    exact ⟨cl2, false, Rn.app h1 h2⟩
theorem Gd.at : ∀ {a : List Step} {σ : Wk} {τ : TS}, Gd σ τ a → ∀ i, i < a.length → sndL (wk σ ((a.take (i + 1)).map (·.1))).ws = ((a.take (i + 1)).foldl tstep τ).1
  | [], _, _, _, i, hi => absurd hi (Nat.not_lt_zero _)
  | p :: r, σ, τ, h, 0, _ => h.1
  | p :: r, σ, τ, h, i + 1, hi => Gd.at h.2 i (by simpa using hi)
/-- torn behind any of its signs, a line is read as far as it is told -/
theorem torn_line (ps : List (List Nat × Int)) (i : Nat) (hi : i < ((lineP ps).drop 1).length) : (rd ((((lineP ps).drop 1).take (i + 1)).map (·.1))).map (·.2) = (told (((lineP ps).drop 1).take (i + 1))).1 := by
  obtain ⟨cl, fr, h⟩ := line_run ps
  rw [rd_wk]
  exact h.g.at i hi
/-- a line is read as its row -/
theorem read_line (ps : List (List Nat × Int)) : rd (((lineP ps).drop 1).map (·.1)) = ps.map fun p => (tg p.2, p.1) := by
  obtain ⟨cl, fr, h⟩ := line_run ps
  rw [rd_wk]
  unfold wk0
  rw [h.w]
/-! ## steps and dresses -/
theorem sg_text (x : Int) (w : List Nat) : (w.flatMap (sg x)).map (·.1) = rep (mk x) (if x ≠ 0 then [34, 34] else QZ) w := by
  unfold rep
  rw [List.map_flatMap]
  congr 1
  funext c
  unfold sg
  split
  · unfold hid; split <;> rfl
  · rfl
theorem stp_text (x : Int) (w : List Nat) : (stp x w).map (·.1) = drs x w := by
  unfold stp drs
  by_cases hx : x = 0
  · subst hx
    simp only [true_and, ne_eq, not_true_eq_false, if_false]
    unfold qt
    by_cases hw : w = []
    · subst hw; rfl
    · rw [if_neg hw]
      by_cases hs : w.all safeN = true
      · rw [if_pos ((okw_iff w).mpr ⟨hw, hs⟩), if_pos hs, List.map_map]
        exact (List.map_congr_left (g := id) fun a _ => rfl).trans (List.map_id w)
      · rw [if_neg (fun h => hs ((okw_iff w).mp h).2), if_neg hs, List.map_cons, List.map_append, sg_text]; rfl
  · rw [if_neg (fun h => hx h.1), if_pos hx, List.map_cons, List.map_append, sg_text, if_pos hx]
    unfold mk
    rw [if_pos hx]; rfl
theorem line_text : ∀ (ps : List (List Nat × Int)), jn [32] (ps.map fun p : List Nat × Int => drs p.2 p.1) = ((lineP ps).drop 1).map (·.1)
  | [] => rfl
  | [p] => by
    show drs p.2 p.1 = ((stp p.2 p.1 ++ []).map (fun p : Step => p.1))
    rw [List.append_nil, stp_text]
  | p :: q :: r => by
    have ih := line_text (q :: r)
    show drs p.2 p.1 ++ [32] ++ jn [32] ((q :: r).map fun p : List Nat × Int => drs p.2 p.1) = (stp p.2 p.1 ++ ((32, none) :: (stp q.2 q.1 ++ lineP r))).map (fun p : Step => p.1)
    rw [ih, List.map_append, stp_text, List.map_cons, List.append_assoc]
    rfl
end Mine

namespace Mine
/-! ## the plain law of row 01 -/
theorem scan_rep (w r : List Nat) (h : r.head? ≠ some 34) : scan (rep 34 [34, 34] w ++ 34 :: r) = w := by
  induction w with
  | nil => exact scan_q r h
  | cons c w ih =>
    by_cases hc : c = 34
    · subst hc
      show scan (34 :: 34 :: (rep 34 [34, 34] w ++ 34 :: r)) = _
      rw [scan_qq, ih]
    · have : rep 34 [34, 34] (c :: w) = c :: rep 34 [34, 34] w := by simp [rep, hc]
      rw [this, List.cons_append, scan_ne _ hc, ih]
theorem rt_app (w r : List Nat) : rt w ++ r = 34 :: (rep 34 [34, 34] w ++ 34 :: r) := by simp [rt]
theorem safe34 {l : List Nat} (h : l.all safeN = true) (hne : l ≠ []) (c : Nat) (hc : safeN c = false) : l.head? ≠ some c := by
  cases l with
  | nil => exact absurd rfl hne
  | cons a r =>
    rw [List.all_cons, Bool.and_eq_true] at h
    rintro e
    cases e
    rw [hc] at h; cases h.1
theorem qt_head (w : List Nat) : (qt w).head? = some 39 ∨ (w ≠ [] ∧ w.all safeN = true ∧ qt w = w) := by
  unfold qt
  split
  · exact .inl rfl
  · rename_i hne
    split
    · rename_i h; exact .inr ⟨hne, h, rfl⟩
    · exact .inl rfl
theorem qt_ne (w : List Nat) : qt w ≠ [] := by
  rcases qt_head w with h | ⟨h, _, e⟩
  · intro e; rw [e] at h; cases h
  · rw [e]; exact h
theorem qt_34 (w : List Nat) : (qt w).head? ≠ some 34 := by
  rcases qt_head w with h | ⟨h, h2, e⟩
  · rw [h]; decide
  · rw [e]; exact safe34 h2 h 34 (by decide +kernel)
theorem head_app {a b : List Nat} (h : a ≠ []) : (a ++ b).head? = a.head? := by
  cases a with
  | nil => exact absurd rfl h
  | cons x r => rfl
theorem p257_sp (l : List Nat) : p257 ([50, 53, 55, 32] ++ l) = if l.head? = some 34 then scan (l.drop 1) else [] := by
  unfold p257
  cases l with
  | nil => rfl
  | cons a r =>
    by_cases h : a = 34
    · subst h; simp
    · simp [h]
theorem p257_drs (x : Int) (w r : List Nat) (hr : r.head? ≠ some 34) : p257 ([50, 53, 55, 32] ++ (drs x w ++ r)) = if x ≠ 0 then w else [] := by
  rw [p257_sp]
  unfold drs
  by_cases hx : x ≠ 0
  · rw [if_pos hx, if_pos hx, rt_app, if_pos (show (34 :: (rep 34 [34, 34] w ++ 34 :: r)).head? = some 34 from rfl)]
    exact scan_rep w r hr
  · rw [if_neg hx, if_neg hx, head_app (qt_ne w), if_neg (qt_34 w)]
theorem lineP_head (ps : List (List Nat × Int)) : ((lineP ps).map (·.1)).head? ≠ some 34 := by
  cases ps with
  | nil => exact fun h => nomatch h
  | cons p r => exact fun h => nomatch h
theorem lnT_cons (w : List Nat) (ws : List (List Nat)) (a : Int) (xs : List Int) : lnT (w :: ws) (a :: xs) = drs a w ++ (lineP (ws.zip xs)).map (·.1) := by
  have : lnT (w :: ws) (a :: xs) = (stp a w ++ lineP (ws.zip xs)).map (·.1) := rfl
  rw [this, List.map_append, stp_text]
theorem stp_len (x : Int) (w : List Nat) : (stp x w).length ≤ 2 + 5 * w.length := by
  unfold stp
  split
  · rw [List.length_map]; omega
  · have := sgs_len x w
    simp only [List.length_cons, List.length_append, List.length_nil]; omega
theorem lineP_cons (p : List Nat × Int) (ps : List (List Nat × Int)) : lineP (p :: ps) = (32, none) :: (stp p.2 p.1 ++ lineP ps) := rfl
theorem lineP_len (m : Nat) : ∀ (ps : List (List Nat × Int)), (∀ p ∈ ps, p.1.length ≤ m) → (lineP ps).length ≤ ps.length * (3 + 5 * m)
  | [], _ => Nat.zero_le _
  | p :: ps, h => by
    have h1 := stp_len p.2 p.1
    have h2 := h p List.mem_cons_self
    have h3 := lineP_len m ps fun q hq => h q (List.mem_cons_of_mem _ hq)
    rw [lineP_cons, List.length_cons, List.length_append, List.length_cons, Nat.succ_mul]
    omega
theorem lineP3_len (a b c : List Nat) (x y z : Int) : (lineP ([a, b, c].zip [x, y, z])).length ≤ 9 + 5 * (a.length + b.length + c.length) := by
  have h1 := stp_len x a
  have h2 := stp_len y b
  have h3 := stp_len z c
  have : lineP ([a, b, c].zip [x, y, z]) = (32, none) :: (stp x a ++ ((32, none) :: (stp y b ++ ((32, none) :: (stp z c ++ []))))) := rfl
  rw [this]
  simp only [List.length_cons, List.length_append, List.length_nil]; omega
theorem lnT_len (ws : List (List Nat)) (xs : List Int) : (lnT ws xs).length ≤ (lineP (ws.zip xs)).length := by
  unfold lnT; rw [List.length_map, List.length_drop]; omega
theorem SOk.app {a b : List Step} (x : SOk a) (y : SOk b) : SOk (a ++ b) := fun p hp => (List.mem_append.mp hp).elim (x p) (y p)
theorem SOk.cons {p : Step} {b : List Step} (x : p.1 < 1114112 ∧ ∀ t, p.2 = some t → t.length ≤ 1 ∧ okc t) (y : SOk b) : SOk (p :: b) := fun q hq => (List.mem_cons.mp hq).elim (fun e => e ▸ x) (y q)
theorem SOk.nil : SOk [] := fun p hp => nomatch hp
theorem sok_nil {c : Nat} (h : c < 1114112) : ((c, some []) : Step).1 < 1114112 ∧ ∀ t, ((c, some []) : Step).2 = some t → t.length ≤ 1 ∧ okc t := ⟨h, fun t e => by cases e; exact ⟨Nat.zero_le _, okc_nil⟩⟩
theorem sok_one {c d : Nat} (h : c < 1114112) (h' : d < 1114112) : ((c, some [d]) : Step).1 < 1114112 ∧ ∀ t, ((c, some [d]) : Step).2 = some t → t.length ≤ 1 ∧ okc t := ⟨h, fun t e => by cases e; exact ⟨Nat.le_refl _, fun c hc => by rw [List.mem_singleton.mp hc]; exact h'⟩⟩
theorem mk_lt (x : Int) : mk x < 1114112 := by unfold mk; split <;> decide
theorem sok_sg (x : Int) {c : Nat} (h : c < 1114112) : SOk (sg x c) := by
  unfold sg
  split
  · unfold hid
    split
    · exact .cons (sok_nil (by decide)) (.cons (sok_one (by decide) (by decide)) .nil)
    · exact .cons (sok_nil (by decide)) (.cons (sok_nil (by decide)) (.cons (sok_one (by decide) (by decide)) (.cons (sok_nil (by decide)) (.cons (sok_nil (by decide)) .nil))))
  · exact .cons (sok_one h h) .nil
theorem sok_stp (x : Int) {w : List Nat} (h : okc w) : SOk (stp x w) := by
  unfold stp
  split
  · intro p hp
    obtain ⟨c, hc, rfl⟩ := List.mem_map.mp hp
    exact sok_one (h c hc) (h c hc)
  · refine .cons (sok_nil (mk_lt x)) (SOk.app (fun p hp => ?_) (.cons (sok_nil (mk_lt x)) .nil))
    obtain ⟨c, hc, hp⟩ := List.mem_flatMap.mp hp
    exact sok_sg x (h c hc) p hp
theorem sok_line : ∀ (ps : List (List Nat × Int)), (∀ p ∈ ps, okc p.1) → SOk (lineP ps)
  | [], _ => .nil
  | p :: ps, h => by
    rw [lineP_cons]
    exact .cons ⟨(by decide : (32 : Nat) < 1114112), fun t e => nomatch e⟩ (.app (sok_stp _ (h p List.mem_cons_self)) (sok_line ps fun q hq => h q (List.mem_cons_of_mem _ hq)))
theorem SOk.drop {a : List Step} (x : SOk a) (n : Nat) : SOk (a.drop n) := fun p hp => x p (List.mem_of_mem_drop hp)
theorem SOk.okc {a : List Step} (x : SOk a) : okc (a.map (·.1)) := fun c hc => by
  obtain ⟨p, hp, rfl⟩ := List.mem_map.mp hc
  exact (x p hp).1
theorem zip_ok {ws : List (List Nat)} {xs : List Int} {P : List Nat → Prop} (h : ∀ p ∈ ws, P p) : ∀ p ∈ ws.zip xs, P p.1 := fun p hp => h _ (List.of_mem_zip hp).1
theorem okc_lnT {ws : List (List Nat)} {xs : List Int} (h : ∀ p ∈ ws, okc p) : okc (lnT ws xs) := ((sok_line _ (zip_ok h)).drop 1).okc
theorem take3_head {l : List Nat} (h : l.take 3 = [50, 53, 55]) : l.head? = some 50 := by
  match l with
  | [] => cases h
  | a :: r => rw [List.take_succ_cons] at h; rw [(List.cons.inj h).1]; rfl
theorem trip_of {row : List (List Nat)} {x : List Int} (hn : x.length = row.length) (hw : ∀ p ∈ row, p.length ≤ 5000 ∧ okc p) (h3 : row.length ≤ 5) (hl : (lineP (row.zip x)).length ≤ 5000)
    (hf : ∀ w, row.head? = some w → w ≠ [50, 53, 55] → w.head? ≠ some 50) (hb : row.take 1 = [[50, 53, 55]] → row.length = 3) : TripOk row x (lnT row x) where
  n := hn
  w := hw
  x3 := h3
  l := Nat.le_trans (lnT_len _ _) hl
  ok := okc_lnT fun p hp => (hw p hp).2
  worn := line_text _
  text := rfl
  steps := hl
  bare := fun h1 h2 => by
    have h5 := hb h1
    match row, x, hn, h5, h1, h2 with
    | [a, b, c], [u, y, z], _, _, h1, h2 =>
      cases h1
      cases h2
      have e : lnT [[50, 53, 55], b, c] [0, y, z] = [50, 53, 55, 32] ++ (drs y b ++ (lineP ([c].zip [z])).map (·.1)) := by
        rw [lnT_cons]
        have e0 : drs 0 [50, 53, 55] = [50, 53, 55] := by decide +kernel
        have e1 : (lineP ([b, c].zip [y, z])).map (·.1) = 32 :: lnT [b, c] [y, z] := rfl
        rw [e0, e1, lnT_cons]
        rfl
      refine ⟨_, _, _, rfl, ?_, _, _, rfl, ?_⟩
      · rw [e]; rfl
      · rw [e]; exact p257_drs y b _ (lineP_head _)
  nbare := fun h1 h2 => by
    have h2 := take3_head h2
    match row, x, hn, hf, h1, h2 with
    | [], _, _, _, _, h2 => cases h2
    | w :: ws, [], hn, _, _, _ => cases hn
    | w :: ws, a :: xs, _, hf, h1, h2 =>
      rw [lnT_cons] at h2
      unfold drs at h2
      by_cases ha : a ≠ 0
      · rw [if_pos ha, rt_app] at h2; cases h2
      · rw [if_neg ha, head_app (qt_ne w)] at h2
        have ha0 : a = 0 := by simpa using ha
        have hw5 : w ≠ [50, 53, 55] := by
          rintro rfl
          exact h1 ⟨rfl, by rw [ha0]; rfl⟩
        rcases qt_head w with h | ⟨_, _, e⟩
        · rw [h] at h2; cases h2
        · rw [e] at h2
          exact hf w rfl hw5 h2
  first := by
    match row, x, hn with
    | [], [], _ => rfl
    | [], _ :: _, hn => cases hn
    | w :: ws, [], hn => cases hn
    | w :: ws, a :: xs, _ =>
      rw [lnT_cons, p257_drs a w _ (lineP_head _)]
      show _ = if a + 0 ≠ 0 then w else []
      rw [Int.add_zero]
  hyph := by
    unfold p257
    rw [if_neg]
    intro h
    have : (([50, 53, 55, 45] ++ lnT row x).drop 3) = 45 :: lnT row x := rfl
    rw [this, List.take_succ_cons] at h
    cases h
  made := by
    rw [stp_text, List.append_assoc, p257_drs 1 _ _ (by decide), if_pos (by decide)]
  read := by
    unfold lnT
    rw [read_line, List.map_map]
    have : (List.map ((fun x => x.2) ∘ fun p : List Nat × Int => (tg p.2, p.1)) (row.zip x)) = (row.zip x).map Prod.fst := rfl
    rw [this, List.map_fst_zip (by omega)]
/-! ### the rows -/
theorem sgn_50 (c : Int) : sgn c ≠ 50 := by
  have hf := far_lt c
  unfold sgn sgs
  generalize (c.fmod 16).toNat = k
  match k with
  | 0 | 1 | 2 | 3 | 4 | 5 | 6 | 7 | 8 | 9 | 10 | 11 => simp
  | 12 => show far c ≠ 50; omega
  | k + 13 => exact fun h => nomatch (show (0 : Nat) = 50 from h)
def No50 (ws : List (List Nat)) : Prop := ∀ p ∈ ws, 50 ∉ p
theorem No50.step {ws : List (List Nat)} (h : No50 ws) (c : Int) : No50 (wstep ws c) := by
  have hb : No50 (wbeg ws c) := by
    rcases wbeg_cases ws c with e | e <;> rw [e]
    · intro p hp
      rcases List.mem_append.mp hp with hp | hp
      · exact h p hp
      · rw [List.mem_singleton.mp hp]; exact fun h => nomatch h
    · exact h
  unfold wstep
  split
  · rename_i hc
    intro p hp
    rcases List.mem_append.mp hp with hp | hp
    · exact hb p (List.dropLast_subset _ hp)
    · rw [List.mem_singleton.mp hp]
      intro h5
      rcases List.mem_append.mp h5 with h5 | h5
      · exact hb _ (getLastD_mem (wbeg_ne ws c hc)) h5
      · exact sgn_50 c (List.mem_singleton.mp h5).symm
  · exact hb
theorem no50 (cs : List Int) : No50 (wordsOf cs) := by
  unfold wordsOf
  suffices h : ∀ (l : List Int) (ws : List (List Nat)), No50 ws → No50 (l.foldl wstep ws) from h cs [] fun p hp => nomatch hp
  intro l
  induction l with
  | nil => exact fun ws h => h
  | cons c r ih => exact fun ws h => ih _ (h.step c)
theorem row0_ok {cs : List Int} (h : cs.length = 8) : WOk 5 (row0 cs) := WOk.words cs 5 (by omega)
theorem drs0_len (cs : List Int) : (drs0 cs).length = (row0 cs).length := by simp [drs0]
theorem trip0 {cs : List Int} (h : cs.length = 8) : TripOk (row0 cs) (drs0 cs) (lin0 cs) ∧ (lineP ((row0 cs).zip (drs0 cs))).length ≤ 140 := by
  have W := row0_ok h
  have hl : (lineP ((row0 cs).zip (drs0 cs))).length ≤ 140 := by
    have h1 := lineP_len 5 ((row0 cs).zip (drs0 cs)) (zip_ok (P := fun p => p.length ≤ 5) fun p hp => (W.l p hp).1)
    have h2 : ((row0 cs).zip (drs0 cs)).length ≤ 5 := by rw [List.length_zip]; have := W.n; omega
    have h3 : ((row0 cs).zip (drs0 cs)).length * (3 + 5 * 5) ≤ 5 * (3 + 5 * 5) := Nat.mul_le_mul_right _ h2
    omega
  have hn5 : ∀ w ∈ row0 cs, w.head? ≠ some 50 := fun w hw e => no50 (cs.take 5) w hw (List.mem_of_head? e)
  refine ⟨trip_of (drs0_len cs) (fun p hp => ⟨Nat.le_trans (W.l p hp).1 (by decide), (W.l p hp).2⟩) W.n (Nat.le_trans hl (by decide)) (fun w hw _ => hn5 w (List.mem_of_head? hw)) (fun e => ?_), hl⟩
  exfalso
  have : [50, 53, 55] ∈ row0 cs := List.mem_of_mem_take (i := 1) (by rw [e]; exact List.mem_singleton.mpr rfl)
  exact hn5 _ this rfl
theorem pick_mem {l : List (List Nat)} {P : List Nat → Prop} (h : ∀ p ∈ l, P p) (h0 : P []) (k : Nat) : P (l.getD k []) := by
  rw [List.getD_eq_getElem?_getD]
  cases e : l[k]? with
  | none => exact h0
  | some p => exact h p (List.mem_of_getElem? e)
theorem FR_ok (c : Int) : (FR c).length ≤ 4 ∧ okc (FR c) ∧ (FR c ≠ [50, 53, 55] → (FR c).head? ≠ some 50) := by
  unfold FR
  exact pick_mem (P := fun p => p.length ≤ 4 ∧ okc p ∧ (p ≠ [50, 53, 55] → p.head? ≠ some 50)) (by unfold okc; decide) ⟨by decide, okc_nil, fun _ h => nomatch h⟩ _
theorem BK_ok (c : Int) : (BK c).length ≤ 4 ∧ okc (BK c) := by
  unfold BK
  exact pick_mem (P := fun p => p.length ≤ 4 ∧ okc p) (by unfold okc; decide) ⟨by decide, okc_nil⟩ _
theorem trip1 (c : Int) {l : List Nat} (h : l.length ≤ 900) (ho : okc l) : TripOk (row1 c l) (drs1 c l) (lin1 c l) ∧ (lineP ((row1 c l).zip (drs1 c l))).length ≤ 49 + 5 * l.length := by
  obtain ⟨a1, a2, a3⟩ := FR_ok c
  obtain ⟨b1, b2⟩ := BK_ok c
  have hl : (lineP ((row1 c l).zip (drs1 c l))).length ≤ 49 + 5 * l.length := by
    have := lineP3_len (FR c) l (BK c) (c.fmod 2) (if l.length < 41 then (c.fdiv 2).fmod 2 else 1) ((c.fdiv 4).fmod 2)
    unfold row1 drs1
    omega
  refine ⟨trip_of rfl (fun p hp => ?_) (show 3 ≤ 5 by decide) (by omega) (fun w hw => ?_) (fun _ => rfl), hl⟩
  · rcases List.mem_cons.mp hp with rfl | hp
    · exact ⟨by omega, a2⟩
    rcases List.mem_cons.mp hp with rfl | hp
    · exact ⟨by omega, ho⟩
    rw [List.mem_singleton.mp hp]; exact ⟨by omega, b2⟩
  · cases hw; exact a3
theorem zip_zero : ∀ ws : List (List Nat), (ws.zip (List.replicate ws.length (0 : Int))).map (fun p : List Nat × Int => drs p.2 p.1) = ws.map qt
  | [] => rfl
  | w :: ws => by
    show drs 0 w :: (ws.zip (List.replicate ws.length (0 : Int))).map (fun p : List Nat × Int => drs p.2 p.1) = _
    rw [zip_zero ws]; rfl
theorem law_holds {cs : List Int} (h : cs.length = 8) : LawH cs := by
  have W := row0_ok h
  obtain ⟨T0, L0⟩ := trip0 h
  have l0 : (lin0 cs).length ≤ 140 := Nat.le_trans (lnT_len _ _) L0
  obtain ⟨T1, L1⟩ := trip1 (cs.getD 6 0) (l := lin0 cs) (by omega) T0.ok
  have l1 : (lin1 (cs.getD 6 0) (lin0 cs)).length ≤ 749 := by
    have := lnT_len (row1 (cs.getD 6 0) (lin0 cs)) (drs1 (cs.getD 6 0) (lin0 cs))
    unfold lin1; omega
  obtain ⟨T2, L2⟩ := trip1 (cs.getD 7 0) (l := lin1 (cs.getD 6 0) (lin0 cs)) (by omega) T1.ok
  have J : jn [32] ((row0 cs).map qt) = lnT (row0 cs) (List.replicate (row0 cs).length 0) := by
    rw [← zip_zero]; exact line_text _
  have JL : (lineP ((row0 cs).zip (List.replicate (row0 cs).length 0))).length ≤ 140 := by
    have h1 := lineP_len 5 ((row0 cs).zip (List.replicate (row0 cs).length 0)) (zip_ok (P := fun p => p.length ≤ 5) fun p hp => (W.l p hp).1)
    have h2 : ((row0 cs).zip (List.replicate (row0 cs).length (0 : Int))).length ≤ 5 := by rw [List.length_zip]; have := W.n; omega
    have h3 := Nat.mul_le_mul_right (3 + 5 * 5) h2
    omega
  exact ⟨T0, T1, T2, (sok_line _ (zip_ok fun p hp => (W.l p hp).2)).drop 1, fun i hi => torn_line _ i hi, J, by rw [J]; have := lnT_len (row0 cs) (List.replicate (row0 cs).length 0); omega, by omega⟩
end Mine

namespace Mine
/-! ## row 01: the join -/
theorem frag_base {K : Frag} {ts : List Addr} {h : Heap} (x : K.In h) (ok : K.all (fun p => !ts.contains p.1 && !tabB p.2) = true) : K.In (baseH ts h) := fun a o e => by
  have := List.all_eq_true.mp ok _ (mem_of_lookupK e)
  simp only [Bool.and_eq_true, Bool.not_eq_true', List.contains_eq_mem, decide_eq_false_iff_not] at this
  exact base_up (x a o e) this.1 this.2
theorem ns_of {h : Heap} {m : Str → Option Value} {a : Addr} {o : Obj} {es : Array DictEntry} {ep : Nat} (x : h.Ns a m) (e : h.get? a = some o) (d : o.data = .dict es ep) (y : Str) : nsFind es y = m y := by
  obtain ⟨o', es', ep', e', d', _, f⟩ := x
  rw [e] at e'; cases e'
  rw [d] at d'; cases d'
  exact f y
theorem names_of {w : World} {h : Heap} {mg : Str → Option Value} (KI : (KK w).In h) (g : h.Ns mainGlobals mg) : Names mg := by
  have q := ns_of g (KI mainGlobals _ (by rfl)) (by rfl)
  constructor <;> (rw [← q]; rfl)

theorem law_at {w : World} {h : Heap} {mg : Str → Option Value} (KI : (KK w).In h) (g : h.Ns mainGlobals mg) : mg (Str.ofString "law") = some (.ref 152) := by
  have q := ns_of g (KI mainGlobals _ (by rfl)) (by rfl)
  rw [← q]; rfl
theorem top_of {w : World} {h : Heap} {mg : Str → Option Value} (KI : (KK w).In h) (g : h.Ns mainGlobals mg) (hts : ∀ P ∈ ([79, 149] : List Addr), ∃ c, h.TableAt c P #[])
    (bm : ∃ bm ob, mg "__builtins__" = some (.ref bm) ∧ bm ≠ builtinsNs ∧ h.get? bm = some ob ∧ ob.cls = .type "module" ∧ ob.dict = some builtinsNs ∧ ob.data = .plain) : TopF w mg (baseH [79, 149] h) where
  KI := frag_base KI (by rfl)
  N := names_of KI g
  B := by
    obtain ⟨bm, ob, h1, h2, h3, h4, h5, h6⟩ := bm
    refine ⟨bm, ob, h1, h2, base_up h3 (fun hb => ?_) (tabB_cls (by rw [h4]; exact fun h => nomatch h)), h4, h5, h6⟩
    obtain ⟨c, _, t⟩ := hts bm hb
    rw [t] at h3; cases h3; cases h4
  t79 := let ⟨c, _, t⟩ := hts 79 (by decide); base_mark (by decide) t
  t149 := let ⟨c, _, t⟩ := hts 149 (by decide); base_mark (by decide) t
/-- the tables of places of join and of law -/
theorem tabs_of {w : World} {h : Heap} {mg mb : Str → Option Value} {loose : List Str} {mean : ExcName → Option Value} (KI : (KK w).In h) (T : Top hd.view_39 loose mean mg mb h) (N : Names mg) (h149 : h.get? 149 = some (tabObj #[])) : ∀ P ∈ ([79, 149] : List Addr), ∃ c, h.TableAt c P #[] := by
  intro P hP
  rcases List.mem_cons.mp hP with rfl | hP
  · have hj : (recsOf hd.view_39).any (fun d => d.name == Str.ofString "join") = true := by decide +kernel
    obtain ⟨d, hd1, hd2⟩ := List.any_eq_true.mp hj
    have hd2 := beq_iff_eq.mp hd2
    obtain ⟨a, o, fd, c, P, q1, q2, q3, q4, q5, q6⟩ := T.tab d hd1
    rw [hd2, N.join] at q1
    cases q1
    rw [KI 84 _ (by rfl)] at q2
    cases q2
    cases q3
    cases q4
    have q7 := q6
    obtain ⟨⟨o, vs, e, _, d, h11⟩, _⟩ := q7
    rw [KI 83 _ (by rfl)] at e
    cases e
    cases d
    cases h11
    exact ⟨_, q6⟩
  · rw [List.mem_singleton.mp hP]
    exact ⟨151, ⟨_, _, KI _ _ (by rfl), rfl, rfl, rfl⟩, h149⟩
theorem plain_of {P : Params} {h : Heap} {a : Addr} {vs : List Value} {xs : List PyData} (x : Well P h (.ref a) (ofPy (PyData.list xs))) (l : h.IsList a vs.toArray) : h.PlainList a vs.toArray := by
  have e : ofPy (PyData.list xs) = WData.list (ofPys xs) := rfl
  rw [e] at x
  cases x with
  | list g _ =>
    obtain ⟨o, e1, e2, n, e3⟩ := l
    rw [g] at e1; cases e1
    cases e3
    exact ⟨_, g⟩
theorem row_post (args : List WData) : PySem.Challenge.rw_oy0021_01.row.claim.post args (.bool true) args = true := by wrow_post
theorem row_raises (args : List WData) (cls : ExcName) : PySem.Challenge.rw_oy0021_01.row.claim.raises args cls = false := by rfl
/-- the walk's end -/
theorem walk_end {w : World} {s₁ : Shared} {mg mb : Str → Option Value} {fa a : Addr} {vs : List Value} {xs : List Int} {cl : Str → Option Addr} {loose : List Str} {mean mean' : ExcName → Option Value} {args : List WData} (KI : (KK w).In s₁.heap) (T : Top hd.view_39 loose mean' mg mb s₁.heap) (h149 : s₁.heap.get? 149 = some (tabObj #[]))
    (hmg : mg (Str.ofString "law") = some (.ref fa)) (hgens : s₁.gens = #[]) (hl : s₁.heap.IsList a vs.toArray) (hw : Well w.params s₁.heap (.ref a) (ofPy (PyData.list (xs.map PyData.int)))) (hi : IntsAre vs xs) (hn : ¬ (63 : Int) < xs.length) :
    wpAny (model PR w) callerA (call (.ref fa) [.ref a]) (fun v s' => GoodWG PySem.Challenge.rw_oy0021_01.row.claim cl mean args s₁ (.ok (.ret v)) s') (fun e s' => GoodWG PySem.Challenge.rw_oy0021_01.row.claim cl mean args s₁ (.error e) s') s₁ := by
  have N := names_of KI T.g
  have hts := tabs_of KI T N h149
  rw [law_at KI T.g] at hmg
  cases hmg
  exact law_end (c_law (top_of KI T.g hts T.bmain)) (by decide) ⟨xs, rfl, by omega, law_holds (cells_len xs), rfl⟩ T.g T.b T.builtins T.nolimit hts hgens (plain_of hw hl) hi (row_post args) (row_raises args)
end Mine
set_option maxRecDepth 100000 in
set_option maxHeartbeats 8000000 in
theorem PySem.Challenge.cw_oy0021_01_holds : PySem.Challenge.rw_oy0021_01.Holds := by
  refine Mine.hd ?_
  w_on
  intro w s₀ s₁ mg mb G Y fa o pm cd doc dV kV ho hd hcd hD hmg hg args vals as hpre hlay hrd hwl hlo
  have hl149 := km_tabs_of Y 149 (by decide)
  have KI := km_in_of Y
  clear Y
  have T := G.T
  clear G ho hd hcd hD
  wrow_args hpre hlay hrd hwl hlo
  exact Mine.walk_end KI T hl149 hmg hg (by assumption) (by assumption) (by assumption) (by assumption)
