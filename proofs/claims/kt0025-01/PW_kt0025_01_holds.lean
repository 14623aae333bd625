import PyProof.Rows.All
import Wide.All
import OpenK.AllK
import Wide.FinOn
import PySem.Challenge.RW_kt0025_01
set_option Elab.async false
set_option compiler.extract_closed false
set_option linter.unusedVariables false
set_option linter.unusedSimpArgs false
namespace Mine
section
set_option maxRecDepth 100000
open PySem PySem.W PyProof.Rows PySem.Calls
/-! what an object made in the call holds -/
inductive Rs where
  | ns (l : List (Str × Option Value))
  | lst (vs : List Value)
  | cell (v : Option Value)
  | iter (l : Addr) (i : Nat)
  | tup (vs : List Value)
  | obj (o : Obj)
  | sat (P : Obj → Prop)
noncomputable def fr (l : List (Str × Option Value)) (x : Str) : Option Value := (l.lookup x).join
noncomputable def Rs.ok : Rs → Obj → Prop
  | .ns l, o => (l.map (·.1)).Nodup ∧ ∃ es ep, o.data = .dict es ep ∧ StrKeys es ∧ ∀ name, nsFind es name = fr l name
  | .lst vs, o => ∃ n, o = { cls := .type "list", data := .seq vs.toArray n }
  | .cell v, o => o.data = .cell v
  | .iter l i, o => o.cls = .type "list_iterator" ∧ o.data = .fields #[.ref l, .int i 0]
  | .tup vs, o => ∃ n, o = { cls := .type "tuple", data := .seq vs.toArray n }
  | .obj o', o => o = o'
  | .sat P, o => P o
abbrev Tab := List (Addr × Rs)
/-- old objects stand -/
noncomputable def Keeps (s s' : Shared) : Prop := ∃ h' tk g, s' = { s with heap := h', toks := tk, gens := g } ∧ (AllBare s.gens → AllBare g) ∧ ∀ b o, s.heap.get? b = some o → h'.get? b = some o
structure Cx (s₀ s : Shared) (T : Tab) : Prop where
  same : ∃ h tk g, s = { s₀ with heap := h, toks := tk, gens := g } ∧ (AllBare s₀.gens → AllBare g)
  keep : ∀ b o, s₀.heap.get? b = some o → s.heap.get? b = some o
  own : ∀ p ∈ T, s₀.heap.get? p.1 = none ∧ ∃ o, s.heap.get? p.1 = some o ∧ p.2.ok o
  nd : (T.map (·.1)).Nodup
inductive Put (a : Addr) (r : Rs) : Tab → Tab → Prop
  | head (r₀ : Rs) (T : Tab) : Put a r ((a, r₀) :: T) ((a, r) :: T)
  | tail (p : Addr × Rs) {T T' : Tab} : Put a r T T' → Put a r (p :: T) (p :: T')
inductive PutV (x : Str) (v : Value) : List (Str × Option Value) → List (Str × Option Value) → Prop
  | head (v₀ : Option Value) (l : List (Str × Option Value)) : PutV x v ((x, v₀) :: l) ((x, some v) :: l)
  | tail (p : Str × Option Value) {l l' : List (Str × Option Value)} : PutV x v l l' → PutV x v (p :: l) (p :: l')
theorem Put.keys {a : Addr} {r : Rs} {T T' : Tab} (h : Put a r T T') : T'.map (·.1) = T.map (·.1) := by
  induction h with
  | head => rfl
  | tail _ _ ih => simp [ih]
theorem Put.mem {a : Addr} {r : Rs} {T T' : Tab} (h : Put a r T T') : a ∈ T.map (·.1) := by
  induction h with
  | head => simp
  | tail _ _ ih => exact List.mem_cons_of_mem _ ih
theorem Put.spec {a : Addr} {r : Rs} {T T' : Tab} (h : Put a r T T') (nd : (T.map (·.1)).Nodup) : ∀ p ∈ T', p = (a, r) ∨ (p ∈ T ∧ p.1 ≠ a) := by
  induction h with
  | head r₀ T =>
    intro p hp
    rcases List.mem_cons.mp hp with rfl | hp
    · exact .inl rfl
    · refine .inr ⟨List.mem_cons_of_mem _ hp, fun e => ?_⟩
      have := (List.nodup_cons.mp nd).1
      exact this (by have z := List.mem_map_of_mem (f := fun x : Addr × Rs => x.1) hp; rwa [e] at z)
  | tail q h ih =>
    intro p hp
    obtain ⟨hq, nd'⟩ := List.nodup_cons.mp nd
    rcases List.mem_cons.mp hp with rfl | hp
    · exact .inr ⟨List.mem_cons_self, fun e => hq (by have z := h.mem; rwa [← e] at z)⟩
    · rcases ih nd' p hp with e | ⟨e, n⟩
      · exact .inl e
      · exact .inr ⟨List.mem_cons_of_mem _ e, n⟩
theorem PutV.keys {x : Str} {v : Value} {l l' : List (Str × Option Value)} (h : PutV x v l l') : l'.map (·.1) = l.map (·.1) := by
  induction h with
  | head => rfl
  | tail _ _ ih => simp [ih]
theorem PutV.mem {x : Str} {v : Value} {l l' : List (Str × Option Value)} (h : PutV x v l l') : x ∈ l.map (·.1) := by
  induction h with
  | head => simp
  | tail _ _ ih => exact List.mem_cons_of_mem _ ih
theorem fr_cons (p : Str × Option Value) (l : List (Str × Option Value)) (y : Str) : fr (p :: l) y = if y = p.1 then p.2 else fr l y := by
  unfold fr
  rw [List.lookup_cons]
  by_cases h : y = p.1
  · subst h; simp
  · have : (y == p.1) = false := beq_eq_false_iff_ne.mpr h
    simp [this, h]
theorem PutV.fr {x : Str} {v : Value} {l l' : List (Str × Option Value)} (h : PutV x v l l') (nd : (l.map (·.1)).Nodup) :
    (fun y => if y = x then some v else Mine.fr l y) = Mine.fr l' := by
  funext y
  induction h with
  | head v₀ l =>
    rw [fr_cons, fr_cons]
    by_cases e : y = x <;> simp [e]
  | tail p h ih =>
    obtain ⟨hq, nd'⟩ := List.nodup_cons.mp nd
    rw [fr_cons, fr_cons, ← ih nd']
    by_cases e : y = x
    · have hne : ¬ y = p.1 := fun e' => hq (by have z := h.mem; rwa [← e, e'] at z)
      rw [if_pos e, if_neg hne, if_pos e]
    · rw [if_neg e, if_neg e]
theorem fr_mem {l : List (Str × Option Value)} {x : Str} {v : Option Value} (nd : (l.map (·.1)).Nodup) (h : (x, v) ∈ l) : fr l x = v := by
  induction l with
  | nil => cases h
  | cons p l ih =>
    obtain ⟨hq, nd'⟩ := List.nodup_cons.mp nd
    rw [fr_cons]
    rcases List.mem_cons.mp h with rfl | h
    · simp
    · rw [if_neg (fun (e : x = p.1) => hq (by have z := List.mem_map_of_mem (f := fun x : Str × Option Value => x.1) h; rwa [e] at z)), ih nd' h]
/-! heap facts out of a context -/
namespace Cx
variable {s₀ s : Shared} {T : Tab} {a : Addr} {r : Rs}
theorem get (c : Cx s₀ s T) {r : Rs} (h : (a, r) ∈ T) : ∃ o, s.heap.get? a = some o ∧ r.ok o := (c.own _ h).2
theorem ns (c : Cx s₀ s T) {l} (h : (a, Rs.ns l) ∈ T) : s.heap.Ns a (fr l) := let ⟨o, ho, _, es, ep, r⟩ := c.get h; ⟨o, es, ep, ho, r⟩
theorem nsNd (c : Cx s₀ s T) {l} (h : (a, Rs.ns l) ∈ T) : (l.map (·.1)).Nodup := let ⟨_, _, n, _⟩ := c.get h; n
theorem plain (c : Cx s₀ s T) {vs} (h : (a, Rs.lst vs) ∈ T) : s.heap.PlainList a vs.toArray := let ⟨o, ho, n, e⟩ := c.get h; ⟨n, e ▸ ho⟩
theorem list (c : Cx s₀ s T) {vs} (h : (a, Rs.lst vs) ∈ T) : s.heap.IsList a vs.toArray := (c.plain h).isList
theorem cell (c : Cx s₀ s T) {v} (h : (a, Rs.cell v) ∈ T) : s.heap.IsCell a v := let ⟨o, ho, e⟩ := c.get h; ⟨o, ho, e⟩
theorem iter (c : Cx s₀ s T) {l i} (h : (a, Rs.iter l i) ∈ T) : s.heap.IsListIter a l i := let ⟨o, ho, e⟩ := c.get h; ⟨o, ho, e⟩
theorem tup (c : Cx s₀ s T) {vs} (h : (a, Rs.tup vs) ∈ T) : IsTup s.heap a vs.toArray := let ⟨o, ho, n, e⟩ := c.get h; ⟨o, ho, by rw [e], n, by rw [e]⟩
theorem obj (c : Cx s₀ s T) {o} (h : (a, Rs.obj o) ∈ T) : s.heap.get? a = some o := let ⟨o', ho, e⟩ := c.get h; (show o' = o from e) ▸ ho
theorem tok (c : Cx s₀ s T) (t : Nat) : Cx s₀ { s with toks := t } T := ⟨(let ⟨h, _, g, e, b⟩ := c.same; ⟨h, t, g, by rw [e], b⟩), c.keep, c.own, c.nd⟩
/-- the heap grew: all stands as it stood -/
theorem grow (c : Cx s₀ s T) {h' : Heap} (tk : Nat) (hk : ∀ b o, s.heap.get? b = some o → h'.get? b = some o) : Cx s₀ { s with heap := h', toks := tk } T :=
  ⟨(let ⟨h, t, g, e, b⟩ := c.same; ⟨h', tk, g, by rw [e], b⟩), fun b o e => hk b o (c.keep b o e), fun p hp => ⟨(c.own p hp).1, let ⟨o, ho, r⟩ := (c.own p hp).2; ⟨o, hk _ _ ho, r⟩⟩, c.nd⟩
theorem keeps (c : Cx s₀ s T) {s' : Shared} (k : Keeps s s') : Cx s₀ s' T := by
  obtain ⟨h', tk, g, rfl, hb, hk⟩ := k
  have c2 := c.grow tk hk
  refine ⟨?_, c2.keep, c2.own, c2.nd⟩
  obtain ⟨h, t, g0, e, b⟩ := c.same
  exact ⟨h', tk, g, by rw [e], fun x => hb (by rw [e]; exact b x)⟩
/-- a new object -/
theorem new (c : Cx s₀ s T) {h' : Heap} (tk : Nat) {r : Rs} {o : Obj} (hn : s.heap.get? a = none) (hk : ∀ b o, s.heap.get? b = some o → h'.get? b = some o) (ho : h'.get? a = some o) (hr : r.ok o) :
    Cx s₀ { s with heap := h', toks := tk } ((a, r) :: T) := by
  have g := c.grow (h' := h') tk hk
  refine ⟨g.same, g.keep, fun p hp => ?_, List.nodup_cons.mpr ⟨fun hm => ?_, c.nd⟩⟩
  · rcases List.mem_cons.mp hp with rfl | hp
    · refine ⟨?_, o, ho, hr⟩
      cases e : s₀.heap.get? a with
      | none => rfl
      | some x => rw [c.keep _ _ e] at hn; cases hn
    · exact g.own p hp
  · obtain ⟨p, hp, e⟩ := List.mem_map.mp hm
    obtain ⟨_, x, hx, _⟩ := c.own p hp
    rw [show p.1 = a from e, hn] at hx; cases hx
theorem push (c : Cx s₀ s T) {r : Rs} {o : Obj} (hf : o.isFreed = false) (hr : r.ok o) : Cx s₀ { s with heap := s.heap.push o } ((s.heap.objs.size, r) :: T) := by
  have z := c.new (a := s.heap.objs.size) (h' := s.heap.push o) s.toks (r := r) (o := o) ?_ (fun b o' e => Heap.get?_push_of_some _ e) (Heap.get?_push_size _ hf) hr
  · exact z
  · cases e : s.heap.get? s.heap.objs.size with
    | none => rfl
    | some x => exact absurd (Heap.lt_size e) (Nat.lt_irrefl _)
theorem pushG (c : Cx s₀ s T) (o : Obj) : Cx s₀ { s with heap := s.heap.push o } T := c.grow s.toks fun _ _ e => Heap.get?_push_of_some _ e
/-- one object turned -/
theorem upd (c : Cx s₀ s T) {T' : Tab} {h' : Heap} (tk : Nat) {r : Rs} {o : Obj} (hp : Put a r T T') (hs : Heap.ExtBut a s.heap h') (ho : h'.get? a = some o) (hr : r.ok o) :
    Cx s₀ { s with heap := h', toks := tk } T' := by
  refine ⟨(let ⟨h, t, g, e, b⟩ := c.same; ⟨h', tk, g, by rw [e], b⟩), fun b x e => ?_, fun p hp' => ?_, by rw [hp.keys]; exact c.nd⟩
  · refine hs b x (fun e' => ?_) (c.keep b x e)
    obtain ⟨q, hq, e''⟩ := List.mem_map.mp hp.mem
    have := (c.own q hq).1
    rw [show q.1 = b from e''.trans e'.symm, e] at this; cases this
  · rcases hp.spec c.nd p hp' with rfl | ⟨hm, hne⟩
    · obtain ⟨q, hq, e''⟩ := List.mem_map.mp hp.mem
      have := (c.own q hq).1
      rw [show q.1 = a from e''] at this
      exact ⟨this, o, ho, hr⟩
    · obtain ⟨x, o', ho', hr'⟩ := c.own p hm
      exact ⟨x, o', hs _ _ hne ho', hr'⟩
theorem lose (c : Cx s₀ s ((a, r) :: T)) {h' : Heap} (tk : Nat) (hs : Heap.ExtBut a s.heap h') : Cx s₀ { s with heap := h', toks := tk } T := by
  have hn := (List.nodup_cons.mp c.nd)
  have ha := (c.own (a, r) List.mem_cons_self).1
  refine ⟨(let ⟨h, t, g, e, b⟩ := c.same; ⟨h', tk, g, by rw [e], b⟩), fun b x e => hs b x (fun e' => ?_) (c.keep b x e), fun p hp => ?_, hn.2⟩
  · rw [show b = a from e', ha] at e; cases e
  · obtain ⟨x, o, ho, hr⟩ := c.own p (List.mem_cons_of_mem _ hp)
    exact ⟨x, o, hs _ _ (fun e => hn.1 (by have z := List.mem_map_of_mem (f := fun x : Addr × Rs => x.1) hp; rwa [e] at z)) ho, hr⟩
theorem sat (c : Cx s₀ s T) {P} (h : (a, Rs.sat P) ∈ T) : ∃ o, s.heap.get? a = some o ∧ P o := c.get h
theorem drop (c : Cx s₀ s T) {T' : Tab} (h : T'.Sublist T) : Cx s₀ s T' := ⟨c.same, c.keep, fun p hp => c.own p (h.subset hp), (h.map _).nodup c.nd⟩
theorem tail (c : Cx s₀ s T) {p : Addr × Rs} {T' : Tab} (e : T = p :: T') : Cx s₀ s T' := c.drop (e ▸ List.sublist_cons_self ..)
theorem done (c : Cx s₀ s T) : Keeps s₀ s := by
  obtain ⟨h, tk, g, e, b⟩ := c.same
  exact ⟨h, tk, g, e, b, by have := c.keep; rw [e] at this; exact this⟩
theorem start (s : Shared) : Cx s s [] := ⟨⟨_, _, _, rfl, id⟩, fun _ _ e => e, (fun _ hp => nomatch hp), List.nodup_nil⟩
end Cx
/-! names -/
structure FnAt (h : Heap) (d : DefRec) (a : Addr) : Prop where
  ex : ∃ o pm code doc, h.get? a = some o ∧ o.data = .func (docDef d.name d.params d.body d.scope pm code doc) ∧ h.CodeRec code d.name
theorem FnAt.keeps {h h' : Heap} {d : DefRec} {a : Addr} (x : FnAt h d a) (k : ∀ b o, h.get? b = some o → h'.get? b = some o) : FnAt h' d a :=
  let ⟨o, pm, code, doc, ho, hd, hc⟩ := x.ex; ⟨o, pm, code, doc, k _ _ ho, hd, hc.keeps k⟩
@[reducible] noncomputable def bTab : List (Str × Value) := [("len", .builtin "len"), ("range", .type "range"), ("list", .type "list"), ("sorted", .builtin "sorted"), ("abs", .builtin "abs"), ("sum", .builtin "sum"), ("max", .builtin "max"),
  ("isinstance", .builtin "isinstance"), ("str", .type "str"), ("object", .type "object"), ("ValueError", .type "ValueError"), ("IndexError", .type "IndexError")]
structure Gl (ds : List DefRec) (mg mb : Str → Option Value) (h : Heap) : Prop where
  g : h.Ns mainGlobals mg
  b : h.Ns builtinsNs mb
  lim : h.NoLimit
  booked : NoneBooked h
  fn : ∀ d ∈ ds, ∃ a, mg d.name = some (.ref a) ∧ FnAt h d a
  bi : ∀ p ∈ bTab, mg p.1 = none ∧ mb p.1 = some p.2
theorem Gl.keeps {ds : List DefRec} {mg mb : Str → Option Value} {h h' : Heap} (x : Gl ds mg mb h) (k : ∀ b o, h.get? b = some o → h'.get? b = some o) : Gl ds mg mb h' :=
  ⟨x.g.keeps k, x.b.keeps k, x.lim.keeps k, let ⟨mc, a, b⟩ := x.booked; ⟨mc, a.keeps k, b⟩, fun d hd => let ⟨a, e, f⟩ := x.fn d hd; ⟨a, e, f.keeps k⟩, x.bi⟩
section
variable {ds : List DefRec} {mg mb : Str → Option Value} {prog : Program} {w : World} {A : Around} {E : Value → Shared → Prop} {s₀ s : Shared} {T T' : Tab} {env : Env} {x : Str} {pos : Pos} {v : Value} {a : Addr}
theorem loadL {l} {Q : Value → Shared → Prop} (c : Cx s₀ s T) (hk : env.scope.kind = .function) (hl : env.kindOf x = some .local) (hT : (env.locals, Rs.ns l) ∈ T) (hv : (x, some v) ∈ l) (h : Q v s) :
    wpAny (model prog w) A (loadName env x) Q E s := wpAny_loadName_local hk hl (c.ns hT) (fr_mem (c.nsNd hT) hv) h
theorem loadC {Q : Value → Shared → Prop} (c : Cx s₀ s T) (hk : env.scope.kind = .function) (hl : env.kindOf x = some .cell) (hc : env.cells.lookup x = some a) (hT : (a, Rs.cell (some v)) ∈ T) (h : Q v s) :
    wpAny (model prog w) A (loadName env x) Q E s := wpAny_loadName_cell hk hl hc (c.cell hT) h
theorem nameL {l} {Q : Value → Shared → Prop} (c : Cx s₀ s T) (hk : env.scope.kind = .function) (hl : env.kindOf x = some .local) (hd : (x == ("__debug__" : Str)) = false) (hT : (env.locals, Rs.ns l) ∈ T) (hv : (x, some v) ∈ l) (h : Q v s) :
    wpAny (model prog w) A (eval (.Name x pos) env) Q E s := wpAny_Name (loadL c hk hl hT hv h) hd
theorem nameC {Q : Value → Shared → Prop} (c : Cx s₀ s T) (hk : env.scope.kind = .function) (hl : env.kindOf x = some .cell) (hd : (x == ("__debug__" : Str)) = false) (hc : env.cells.lookup x = some a) (hT : (a, Rs.cell (some v)) ∈ T) (h : Q v s) :
    wpAny (model prog w) A (eval (.Name x pos) env) Q E s := wpAny_Name (loadC c hk hl hc hT h) hd
theorem nameG {Q : Value → Shared → Prop} (c : Cx s₀ s T) (G : Gl ds mg mb s₀.heap) (hk : env.scope.kind = .function) (hg : env.globals = mainGlobals) (hl : env.kindOf x = some .globalImplicit) (hd : (x == ("__debug__" : Str)) = false)
    (hv : mg x = some v) (h : Q v s) : wpAny (model prog w) A (eval (.Name x pos) env) Q E s :=
  Name_function_global hk hl (loadGlobal_global (hg ▸ (G.keeps c.keep).g) hv h) hd
theorem nameB {Q : Value → Shared → Prop} (c : Cx s₀ s T) (G : Gl ds mg mb s₀.heap) (hk : env.scope.kind = .function) (hg : env.globals = mainGlobals) (hb : env.builtins = builtinsNs) (hl : env.kindOf x = some .globalImplicit) (hd : (x == ("__debug__" : Str)) = false)
    (hv : (x, v) ∈ bTab) (h : Q v s) : wpAny (model prog w) A (eval (.Name x pos) env) Q E s :=
  Name_function_global hk hl (loadGlobal_builtin (hg ▸ (G.keeps c.keep).g) (G.bi _ hv).1 (hb ▸ (G.keeps c.keep).b) (G.bi _ hv).2 h) hd
theorem storeL {l l'} {Q : Unit → Shared → Prop} (c : Cx s₀ s T) (hk : env.scope.kind = .function) (hl : env.kindOf x = some .local) (hT : (env.locals, Rs.ns l) ∈ T) (hv : PutV x v l l') (hp : Put env.locals (Rs.ns l') T T')
    (h : ∀ s', Cx s₀ s' T' → Q () s') : wpAny (model prog w) A (storeName env x v) Q E s := by
  refine wpAny_storeName_local hl (c.ns hT) (fun h' hn hs => ?_) (by rw [hk]; rfl)
  rw [hv.fr (c.nsNd hT)] at hn
  obtain ⟨o, es, ep, ho, r⟩ := hn
  exact h _ (c.upd _ hp hs.extBut ho ⟨hv.keys ▸ c.nsNd hT, es, ep, r⟩)
theorem storeC {v₀ : Option Value} {Q : Unit → Shared → Prop} (c : Cx s₀ s T) (hk : env.scope.kind = .function) (hl : env.kindOf x = some .cell) (hc : env.cells.lookup x = some a) (hT : (a, Rs.cell v₀) ∈ T) (hp : Put a (Rs.cell (some v)) T T')
    (h : ∀ s', Cx s₀ s' T' → Q () s') : wpAny (model prog w) A (storeName env x v) Q E s := by
  refine wpAny_storeName_cell hk hl hc (c.cell hT) (fun h' hn hs => ?_)
  obtain ⟨o, ho, r⟩ := hn
  exact h _ (c.upd s.toks hp hs.extBut ho r)
end
/-! entering a def -/
@[reducible] noncomputable def envC (d : DefRec) (L f : Addr) (code : Value) (cs : List (Str × Addr)) : Env :=
  { scope := d.scope, locals := L, globals := mainGlobals, cells := cs, qual := d.name ++ ".<locals>.", func := some f, code := code, frame := some L, builtins := builtinsNs }
theorem lookup_nodup_reverse {α : Type} : ∀ {l : List (Str × α)}, (l.map (·.1)).Nodup → ∀ y, l.reverse.lookup y = l.lookup y
  | [], _, _ => rfl
  | p :: l, nd, y => by
    obtain ⟨hq, nd'⟩ := List.nodup_cons.mp nd
    rw [List.reverse_cons, List.lookup_append, lookup_nodup_reverse nd' y, List.lookup_cons, List.lookup_cons]
    by_cases h : y = p.1
    · have hb : (y == p.1) = true := beq_iff_eq.mpr h
      rw [hb]
      have : l.lookup y = none := by
        cases e : l.lookup y with
        | none => rfl
        | some v => exact absurd (show p.1 ∈ l.map (·.1) by rw [← h]; exact List.mem_map_of_mem (f := fun x : Str × α => x.1) (mem_of_lookup e)) hq
      rw [this]; rfl
    · have hb : (y == p.1) = false := beq_eq_false_iff_ne.mpr h
      rw [hb]; simp
theorem bindL_eq (k : Str → Option NameKind) : ∀ (binds : List (Str × Value)) (m : Str → Option Value) (y : Str), bindL k binds m y = ((binds.filter fun p => k p.1 == some .local).reverse.lookup y).or (m y)
  | [], m, y => by simp [bindL]
  | (n, v) :: r, m, y => by
    rw [bindL, bindL_eq k r]
    by_cases h : k n = some .local
    · have hb : (k n == some .local) = true := by rw [h]; rfl
      rw [if_pos h, List.filter_cons, hb, if_pos rfl, List.reverse_cons, List.lookup_append, List.lookup_cons, List.lookup_nil]
      by_cases e : y = n
      · subst e; simp
      · have : (y == n) = false := beq_eq_false_iff_ne.mpr e
        simp [this, e]
    · have hb : (k n == some .local) = false := by rw [beq_eq_false_iff_ne]; exact h
      rw [if_neg h, List.filter_cons, hb]; rfl
theorem bindC_eq (k : Str → Option NameKind) : ∀ (binds : List (Str × Value)) (m : Str → Option Value) (y : Str), bindC k binds m y = ((binds.filter fun p => !(k p.1 == some .local)).reverse.lookup y).or (m y)
  | [], m, y => by simp [bindC]
  | (n, v) :: r, m, y => by
    rw [bindC, bindC_eq k r]
    by_cases h : k n = some .local
    · have hb : (k n == some .local) = true := by rw [h]; rfl
      rw [if_pos h, List.filter_cons, hb]; rfl
    · have hb : (k n == some .local) = false := by rw [beq_eq_false_iff_ne]; exact h
      rw [if_neg h, List.filter_cons, hb, show (!false) = true from rfl, if_pos rfl, List.reverse_cons, List.lookup_append, List.lookup_cons, List.lookup_nil]
      by_cases e : y = n
      · subst e; simp
      · have : (y == n) = false := beq_eq_false_iff_ne.mpr e
        simp [this, e]
theorem fr_of {l : List (Str × Value)} {ns : List Str} (nd : ((l.map (·.1)) ++ ns).Nodup) (y : Str) : fr (l.map (fun p => (p.1, some p.2)) ++ ns.map (·, none)) y = l.lookup y := by
  have key : ∀ ns : List Str, fr (ns.map (·, none)) y = none := fun ns => by
    induction ns with
    | nil => rfl
    | cons n r ih => rw [List.map_cons, fr_cons, ih]; split <;> rfl
  induction l with
  | nil => rw [List.map_nil, List.nil_append, key]; rfl
  | cons p l ih =>
    rw [List.map_cons, List.cons_append, fr_cons, ih (List.nodup_cons.mp nd).2, List.lookup_cons]
    by_cases h : y = p.1
    · have hb : (y == p.1) = true := beq_iff_eq.mpr h
      rw [if_pos h, hb]
    · have hb : (y == p.1) = false := beq_eq_false_iff_ne.mpr h
      rw [if_neg h, hb]
theorem cellsFrom_names : ∀ (names : List (Str × NameKind)) (n : Nat) (acc : List (Str × Addr)), (cellsFrom n names acc).map (·.1) = ((names.filter fun p => p.2 == .cell).map (·.1)).reverse ++ acc.map (·.1)
  | [], _, _ => rfl
  | (x, k) :: r, n, acc => by
    unfold cellsFrom
    cases h : k == NameKind.cell
    · simp only [Bool.false_eq_true, if_false]; rw [cellsFrom_names r, List.filter_cons, h]; rfl
    · simp only [if_true]; rw [cellsFrom_names r, List.filter_cons, h]; simp
theorem lookup_of_mem_nodup {α : Type} : ∀ {l : List (Str × α)}, (l.map (·.1)).Nodup → ∀ {n : Str} {c : α}, (n, c) ∈ l → l.lookup n = some c
  | p :: l, nd, n, c, h => by
    obtain ⟨hq, nd'⟩ := List.nodup_cons.mp nd
    rw [List.lookup_cons]
    rcases List.mem_cons.mp h with rfl | h
    · simp
    · have : (n == p.1) = false := beq_eq_false_iff_ne.mpr fun e => hq (by have z := List.mem_map_of_mem (f := fun x : Str × α => x.1) h; rwa [e] at z)
      rw [this]; exact lookup_of_mem_nodup nd' h
theorem lookup_isSome_of_mem {α : Type} : ∀ {l : List (Str × α)} {n : Str}, n ∈ l.map (·.1) → (l.lookup n).isSome = true
  | p :: l, n, h => by
    rw [List.lookup_cons]
    cases e : n == p.1 with
    | true => rfl
    | false =>
      rcases List.mem_cons.mp h with h | h
      · rw [h] at e; simp at e
      · exact lookup_isSome_of_mem h
theorem cx_of_call {s₀ s : Shared} {L : Addr} {m cm : Str → Option Value} {cs : List (Str × Addr)} {l : List (Str × Option Value)} (x : InCallC s₀ L m cs cm s) (hm : ∀ y, m y = fr l y) (nd : (l.map (·.1)).Nodup) (ndc : (cs.map (·.1)).Nodup) :
    Cx s₀ s ((L, .ns l) :: cs.map fun p => (p.2, .cell (cm p.1))) := by
  have fresh : ∀ a, s₀.heap.objs.size ≤ a → s₀.heap.get? a = none := fun a ha => by
    cases e : s₀.heap.get? a with
    | none => rfl
    | some o' => exact absurd (Heap.lt_size e) (Nat.not_lt.mpr ha)
  refine ⟨(let ⟨h, t, e⟩ := x.toInCall.same; ⟨h, t, s₀.gens, e, id⟩), x.toInCall.keep, fun p hp => ?_, ?_⟩
  · rcases List.mem_cons.mp hp with rfl | hp
    · obtain ⟨o, es, ep, ho, hd, hk, hf⟩ := x.toInCall.ns
      exact ⟨fresh _ x.toInCall.fresh, o, ho, nd, es, ep, hd, hk, fun n => (hf n).trans (hm n)⟩
    · obtain ⟨q, hq, rfl⟩ := List.mem_map.mp hp
      obtain ⟨o, ho, hd⟩ := x.cell q.1 q.2 (lookup_of_mem_nodup ndc hq)
      exact ⟨fresh _ (Nat.le_of_lt (Nat.lt_of_le_of_lt x.toInCall.fresh (x.above q.1 q.2 hq))), o, ho, hd⟩
  · rw [List.map_cons, List.map_map]
    refine List.nodup_cons.mpr ⟨fun h => ?_, ?_⟩
    · obtain ⟨q, hq, e⟩ := List.mem_map.mp h
      have := x.above q.1 q.2 hq
      rw [show q.2 = L from e] at this
      exact Nat.lt_irrefl _ this
    · exact List.pairwise_map.mpr x.apart
section
variable {prog : Program} {w : World} {A : Around} {s : Shared} {d : DefRec} {f : Addr} {vals : List Value} {binds : List (Str × Value)}
theorem enter {R : Result → Shared → Prop} (bl bc : List (Str × Value)) (ns cn : List Str) (hA : A.depth < recursionLimit) (F : FnAt s.heap d f) (hlim : s.heap.NoLimit)
    (hb : ∀ pm code doc, bindArgs (docDef d.name d.params d.body d.scope pm code doc) ⟨vals, []⟩ = pure binds)
    (hbl : (binds.filter fun p => d.scope.names.lookup p.1 == some .local) = bl) (hbc : (binds.filter fun p => !(d.scope.names.lookup p.1 == some .local)) = bc)
    (hcn : ((d.scope.names.filter fun p => p.2 == .cell).map (·.1)).reverse = cn)
    (hkc : bc.all (fun p => d.scope.names.lookup p.1 == some .cell) = true) (ndl : (bl.map (·.1) ++ ns).Nodup) (ndc : cn.Nodup) (ndb : (bc.map (·.1)).Nodup)
    (hk : d.scope.kind = .function) (hco : d.scope.isCoroutine = false) (hg : d.scope.isGenerator = false)
    (h : ∀ L code cs s₁, (∃ o pm doc, s.heap.get? f = some o ∧ o.data = .func (docDef d.name d.params d.body d.scope pm code doc)) → cs.map (·.1) = cn → Cx s s₁ ((L, .ns (bl.map (fun p => (p.1, some p.2)) ++ ns.map (·, none))) :: cs.map fun p => (p.2, .cell (bc.lookup p.1))) →
      wpAny (model prog w) (A.deeper (envC d L f code cs)) (execs d.body (envC d L f code cs)) (fun fl s' => R (.ok (.ret (match fl with | .ret v => v | _ => .none))) s')
        (fun e s' => wpAny (model prog w) (A.deeper (envC d L f code cs)) (leaving (envC d L f code cs) e) (fun _ s'' => R (.error e) s'') (fun e' s'' => R (.error e') s'') s') s₁) :
    codeAny (model prog w) A (.call (.ref f) ⟨vals, []⟩) R s := by
  obtain ⟨o, pm, code, doc, ho, hd, hc⟩ := F.ex
  have hcnc : ∀ n, (cellsFrom n d.scope.names []).map (·.1) = cn := fun n => by rw [cellsFrom_names, hcn]; simp
  refine codeAny_call_cells (fd := docDef d.name d.params d.body d.scope pm code doc) (body := d.body) (binds := binds) hA ho hd hlim hc rfl (hb _ _ _) rfl (fun x hx => ?_) (fun s₁ x => ?_) hco hg hk
  · by_cases hl : (d.scope.names.lookup x.1 == some .local) = true
    · exact .inl (beq_iff_eq.mp hl)
    · have hl' : (d.scope.names.lookup x.1 == some .local) = false := by simpa using hl
      have hm : x ∈ bc := by rw [← hbc]; exact List.mem_filter.mpr ⟨hx, by rw [hl']; rfl⟩
      have e := beq_iff_eq.mp (List.all_eq_true.mp hkc x hm)
      refine .inr ⟨e, lookup_isSome_of_mem ?_⟩
      rw [cellsFrom_names]
      refine List.mem_append_left _ (List.mem_reverse.mpr (List.mem_map.mpr ⟨(x.1, .cell), List.mem_filter.mpr ⟨mem_of_lookup e, rfl⟩, rfl⟩))
  · have hb1 : ∀ y, bindL (callEnvC (docDef d.name d.params d.body d.scope pm code doc) s.heap.objs.size f).kindOf binds (fun _ => none) y = fr (bl.map (fun p => (p.1, some p.2)) ++ ns.map (·, none)) y := fun y => by
      rw [bindL_eq, fr_of ndl, Option.or_none]
      have : (binds.filter fun p => (callEnvC (docDef d.name d.params d.body d.scope pm code doc) s.heap.objs.size f).kindOf p.1 == some .local) = bl := hbl
      rw [this]
      exact lookup_nodup_reverse (List.nodup_append.mp ndl).1 y
    have z := cx_of_call x hb1 (by rw [List.map_append, List.map_map, List.map_map]; simpa [Function.comp_def] using ndl) (by
      show ((cellsFrom (s.heap.objs.size + 1) d.scope.names []).map (·.1)).Nodup
      rw [hcnc]; exact ndc)
    have hb2 : ∀ y, bindC (callEnvC (docDef d.name d.params d.body d.scope pm code doc) s.heap.objs.size f).kindOf binds (fun _ => none) y = bc.lookup y := fun y => by
      rw [bindC_eq, Option.or_none]
      have : (binds.filter fun p => !((callEnvC (docDef d.name d.params d.body d.scope pm code doc) s.heap.objs.size f).kindOf p.1 == some .local)) = bc := hbc
      rw [this]
      exact lookup_nodup_reverse ndb y
    simp only [hb2] at z
    exact h _ code _ s₁ ⟨o, pm, doc, ho, hd⟩ (hcnc _) z
end
theorem unzip_keys : ∀ {cs : List (Str × Addr)} {cn : List Str}, cs.map (·.1) = cn → ∃ as : List Addr, as.length = cn.length ∧ cs = cn.zip as
  | [], _, h => ⟨[], by rw [← h]; rfl, by rw [← h]; rfl⟩
  | (n, a) :: cs, cn, h => by
    cases cn with
    | nil => cases h
    | cons m cn =>
      simp only [List.map_cons, List.cons.injEq] at h
      obtain ⟨as, e1, e2⟩ := unzip_keys h.2
      exact ⟨a :: as, by simp [e1], by rw [e2, ← h.1]; rfl⟩
theorem zip_cells (f : Str → Option Value) : ∀ (cn : List Str) (as : List Addr) (cvs : List (Option Value)), cn.map f = cvs → ((cn.zip as).map fun p => ((p.2, Rs.cell (f p.1)) : Addr × Rs)) = (as.zip cvs).map fun p => (p.1, Rs.cell p.2)
  | [], as, _, h => by rw [← h]; cases as <;> rfl
  | n :: cn, [], _, h => by rw [← h]; rfl
  | n :: cn, a :: as, _, h => by
    rw [← h]
    simp only [List.zip_cons_cons, List.map_cons]
    rw [zip_cells f cn as _ rfl]
section
variable {prog : Program} {w : World} {A : Around} {s : Shared} {d : DefRec} {f : Addr} {vals : List Value} {binds : List (Str × Value)} {Q E : Value → Shared → Prop}
theorem callD (bl bc : List (Str × Value)) (ns cn ks : List Str) (fl : List (Str × Option Value)) (cvs : List (Option Value)) (hA : A.depth < recursionLimit) (F : FnAt s.heap d f) (hlim : s.heap.NoLimit)
    (hb : ∀ pm code doc, bindArgs (docDef d.name d.params d.body d.scope pm code doc) ⟨vals, []⟩ = pure binds)
    (hbl : (binds.filter fun p => d.scope.names.lookup p.1 == some .local) = bl) (hbc : (binds.filter fun p => !(d.scope.names.lookup p.1 == some .local)) = bc)
    (hcn : ((d.scope.names.filter fun p => p.2 == .cell).map (·.1)).reverse = cn)
    (hkc : bc.all (fun p => d.scope.names.lookup p.1 == some .cell) = true) (hks : bl.map (·.1) ++ ns = ks) (ndl : ks.Nodup) (ndc : cn.Nodup) (hkb : bc.map (·.1) = ks2) (ndb : ks2.Nodup)
    (hfl : bl.map (fun p => (p.1, some p.2)) ++ ns.map (·, none) = fl) (hcv : cn.map (fun n => bc.lookup n) = cvs)
    (hk : d.scope.kind = .function) (hco : d.scope.isCoroutine = false) (hg : d.scope.isGenerator = false)
    (h : ∀ L code as s₁, as.length = cn.length → Cx s s₁ ((L, .ns fl) :: (as.zip cvs).map fun p => (p.1, .cell p.2)) →
      wpAny (model prog w) (A.deeper (envC d L f code (cn.zip as))) (execs d.body (envC d L f code (cn.zip as))) (fun fl s' => Q (match fl with | .ret v => v | _ => .none) s')
        (fun e s' => wpAny (model prog w) (A.deeper (envC d L f code (cn.zip as))) (leaving (envC d L f code (cn.zip as)) e) (fun _ s'' => E e s'') (fun e' s'' => E e' s'') s') s₁) :
    wpAny (model prog w) A (call (.ref f) vals) Q E s := by
  subst hks hkb
  refine wpAny_call (enter (binds := binds) bl bc ns cn hA F hlim hb hbl hbc hcn hkc ndl ndc ndb hk hco hg fun L code cs s₁ _ hcs c => ?_)
  obtain ⟨as, e1, rfl⟩ := unzip_keys hcs
  rw [hfl, zip_cells _ cn as cvs hcv] at c
  exact h L code as s₁ e1 c
/-- callD, and which code value it is -/
theorem callDC (bl bc : List (Str × Value)) (ns cn ks : List Str) (fl : List (Str × Option Value)) (cvs : List (Option Value)) (hA : A.depth < recursionLimit) (F : FnAt s.heap d f) (hlim : s.heap.NoLimit)
    (hb : ∀ pm code doc, bindArgs (docDef d.name d.params d.body d.scope pm code doc) ⟨vals, []⟩ = pure binds)
    (hbl : (binds.filter fun p => d.scope.names.lookup p.1 == some .local) = bl) (hbc : (binds.filter fun p => !(d.scope.names.lookup p.1 == some .local)) = bc)
    (hcn : ((d.scope.names.filter fun p => p.2 == .cell).map (·.1)).reverse = cn)
    (hkc : bc.all (fun p => d.scope.names.lookup p.1 == some .cell) = true) (hks : bl.map (·.1) ++ ns = ks) (ndl : ks.Nodup) (ndc : cn.Nodup) (hkb : bc.map (·.1) = ks2) (ndb : ks2.Nodup)
    (hfl : bl.map (fun p => (p.1, some p.2)) ++ ns.map (·, none) = fl) (hcv : cn.map (fun n => bc.lookup n) = cvs)
    (hk : d.scope.kind = .function) (hco : d.scope.isCoroutine = false) (hg : d.scope.isGenerator = false)
    (h : ∀ L code as s₁, (∃ o pm doc, s.heap.get? f = some o ∧ o.data = .func (docDef d.name d.params d.body d.scope pm code doc)) → as.length = cn.length → Cx s s₁ ((L, .ns fl) :: (as.zip cvs).map fun p => (p.1, .cell p.2)) →
      wpAny (model prog w) (A.deeper (envC d L f code (cn.zip as))) (execs d.body (envC d L f code (cn.zip as))) (fun fl s' => Q (match fl with | .ret v => v | _ => .none) s')
        (fun e s' => wpAny (model prog w) (A.deeper (envC d L f code (cn.zip as))) (leaving (envC d L f code (cn.zip as)) e) (fun _ s'' => E e s'') (fun e' s'' => E e' s'') s') s₁) :
    wpAny (model prog w) A (call (.ref f) vals) Q E s := by
  subst hks hkb
  refine wpAny_call (enter (binds := binds) bl bc ns cn hA F hlim hb hbl hbc hcn hkc ndl ndc ndb hk hco hg fun L code cs s₁ hcode hcs c => ?_)
  obtain ⟨as, e1, rfl⟩ := unzip_keys hcs
  rw [hfl, zip_cells _ cn as cvs hcv] at c
  exact h L code as s₁ hcode e1 c
end
end
section
set_option maxRecDepth 100000
open PySem PySem.W PyProof.Rows PySem.Calls
theorem mm0 {α : Type} (a : α) (l : List α) : a ∈ a :: l := .head _
theorem mm1 {α : Type} (x0 a : α) (l : List α) : a ∈ x0 :: a :: l := .tail _ (.head _)
theorem mm2 {α : Type} (x0 x1 a : α) (l : List α) : a ∈ x0 :: x1 :: a :: l := .tail _ (.tail _ (.head _))
theorem mm3 {α : Type} (x0 x1 x2 a : α) (l : List α) : a ∈ x0 :: x1 :: x2 :: a :: l := .tail _ (.tail _ (.tail _ (.head _)))
theorem mm4 {α : Type} (x0 x1 x2 x3 a : α) (l : List α) : a ∈ x0 :: x1 :: x2 :: x3 :: a :: l := .tail _ (.tail _ (.tail _ (.tail _ (.head _))))
theorem mm5 {α : Type} (x0 x1 x2 x3 x4 a : α) (l : List α) : a ∈ x0 :: x1 :: x2 :: x3 :: x4 :: a :: l := .tail _ (.tail _ (.tail _ (.tail _ (.tail _ (.head _)))))
theorem mm6 {α : Type} (x0 x1 x2 x3 x4 x5 a : α) (l : List α) : a ∈ x0 :: x1 :: x2 :: x3 :: x4 :: x5 :: a :: l := .tail _ (.tail _ (.tail _ (.tail _ (.tail _ (.tail _ (.head _))))))
theorem mm7 {α : Type} (x0 x1 x2 x3 x4 x5 x6 a : α) (l : List α) : a ∈ x0 :: x1 :: x2 :: x3 :: x4 :: x5 :: x6 :: a :: l := .tail _ (.tail _ (.tail _ (.tail _ (.tail _ (.tail _ (.tail _ (.head _)))))))
theorem mm8 {α : Type} (x0 x1 x2 x3 x4 x5 x6 x7 a : α) (l : List α) : a ∈ x0 :: x1 :: x2 :: x3 :: x4 :: x5 :: x6 :: x7 :: a :: l := .tail _ (.tail _ (.tail _ (.tail _ (.tail _ (.tail _ (.tail _ (.tail _ (.head _))))))))
theorem mm9 {α : Type} (x0 x1 x2 x3 x4 x5 x6 x7 x8 a : α) (l : List α) : a ∈ x0 :: x1 :: x2 :: x3 :: x4 :: x5 :: x6 :: x7 :: x8 :: a :: l := .tail _ (.tail _ (.tail _ (.tail _ (.tail _ (.tail _ (.tail _ (.tail _ (.tail _ (.head _)))))))))
theorem mm10 {α : Type} (x0 x1 x2 x3 x4 x5 x6 x7 x8 x9 a : α) (l : List α) : a ∈ x0 :: x1 :: x2 :: x3 :: x4 :: x5 :: x6 :: x7 :: x8 :: x9 :: a :: l := .tail _ (.tail _ (.tail _ (.tail _ (.tail _ (.tail _ (.tail _ (.tail _ (.tail _ (.tail _ (.head _))))))))))
theorem mm11 {α : Type} (x0 x1 x2 x3 x4 x5 x6 x7 x8 x9 x10 a : α) (l : List α) : a ∈ x0 :: x1 :: x2 :: x3 :: x4 :: x5 :: x6 :: x7 :: x8 :: x9 :: x10 :: a :: l := .tail _ (.tail _ (.tail _ (.tail _ (.tail _ (.tail _ (.tail _ (.tail _ (.tail _ (.tail _ (.tail _ (.head _)))))))))))
theorem mm12 {α : Type} (x0 x1 x2 x3 x4 x5 x6 x7 x8 x9 x10 x11 a : α) (l : List α) : a ∈ x0 :: x1 :: x2 :: x3 :: x4 :: x5 :: x6 :: x7 :: x8 :: x9 :: x10 :: x11 :: a :: l := .tail _ (.tail _ (.tail _ (.tail _ (.tail _ (.tail _ (.tail _ (.tail _ (.tail _ (.tail _ (.tail _ (.tail _ (.head _))))))))))))
theorem mm13 {α : Type} (x0 x1 x2 x3 x4 x5 x6 x7 x8 x9 x10 x11 x12 a : α) (l : List α) : a ∈ x0 :: x1 :: x2 :: x3 :: x4 :: x5 :: x6 :: x7 :: x8 :: x9 :: x10 :: x11 :: x12 :: a :: l := .tail _ (.tail _ (.tail _ (.tail _ (.tail _ (.tail _ (.tail _ (.tail _ (.tail _ (.tail _ (.tail _ (.tail _ (.tail _ (.head _)))))))))))))
theorem mm14 {α : Type} (x0 x1 x2 x3 x4 x5 x6 x7 x8 x9 x10 x11 x12 x13 a : α) (l : List α) : a ∈ x0 :: x1 :: x2 :: x3 :: x4 :: x5 :: x6 :: x7 :: x8 :: x9 :: x10 :: x11 :: x12 :: x13 :: a :: l := .tail _ (.tail _ (.tail _ (.tail _ (.tail _ (.tail _ (.tail _ (.tail _ (.tail _ (.tail _ (.tail _ (.tail _ (.tail _ (.tail _ (.head _))))))))))))))
theorem mm15 {α : Type} (x0 x1 x2 x3 x4 x5 x6 x7 x8 x9 x10 x11 x12 x13 x14 a : α) (l : List α) : a ∈ x0 :: x1 :: x2 :: x3 :: x4 :: x5 :: x6 :: x7 :: x8 :: x9 :: x10 :: x11 :: x12 :: x13 :: x14 :: a :: l := .tail _ (.tail _ (.tail _ (.tail _ (.tail _ (.tail _ (.tail _ (.tail _ (.tail _ (.tail _ (.tail _ (.tail _ (.tail _ (.tail _ (.tail _ (.head _)))))))))))))))
theorem mm16 {α : Type} (x0 x1 x2 x3 x4 x5 x6 x7 x8 x9 x10 x11 x12 x13 x14 x15 a : α) (l : List α) : a ∈ x0 :: x1 :: x2 :: x3 :: x4 :: x5 :: x6 :: x7 :: x8 :: x9 :: x10 :: x11 :: x12 :: x13 :: x14 :: x15 :: a :: l := .tail _ (.tail _ (.tail _ (.tail _ (.tail _ (.tail _ (.tail _ (.tail _ (.tail _ (.tail _ (.tail _ (.tail _ (.tail _ (.tail _ (.tail _ (.tail _ (.head _))))))))))))))))
theorem pt0 {a : Addr} {r : Rs} (r₀ : Rs) (T : Tab) : Put a r ((a, r₀) :: T) ((a, r) :: T) := .head _ _
theorem pt1 {a : Addr} {r : Rs} (x0 : Addr × Rs) (r₀ : Rs) (T : Tab) : Put a r (x0 :: (a, r₀) :: T) (x0 :: (a, r) :: T) := .tail _ (.head _ _)
theorem pt2 {a : Addr} {r : Rs} (x0 x1 : Addr × Rs) (r₀ : Rs) (T : Tab) : Put a r (x0 :: x1 :: (a, r₀) :: T) (x0 :: x1 :: (a, r) :: T) := .tail _ (.tail _ (.head _ _))
theorem pt3 {a : Addr} {r : Rs} (x0 x1 x2 : Addr × Rs) (r₀ : Rs) (T : Tab) : Put a r (x0 :: x1 :: x2 :: (a, r₀) :: T) (x0 :: x1 :: x2 :: (a, r) :: T) := .tail _ (.tail _ (.tail _ (.head _ _)))
theorem pt4 {a : Addr} {r : Rs} (x0 x1 x2 x3 : Addr × Rs) (r₀ : Rs) (T : Tab) : Put a r (x0 :: x1 :: x2 :: x3 :: (a, r₀) :: T) (x0 :: x1 :: x2 :: x3 :: (a, r) :: T) := .tail _ (.tail _ (.tail _ (.tail _ (.head _ _))))
theorem pt5 {a : Addr} {r : Rs} (x0 x1 x2 x3 x4 : Addr × Rs) (r₀ : Rs) (T : Tab) : Put a r (x0 :: x1 :: x2 :: x3 :: x4 :: (a, r₀) :: T) (x0 :: x1 :: x2 :: x3 :: x4 :: (a, r) :: T) := .tail _ (.tail _ (.tail _ (.tail _ (.tail _ (.head _ _)))))
theorem pt6 {a : Addr} {r : Rs} (x0 x1 x2 x3 x4 x5 : Addr × Rs) (r₀ : Rs) (T : Tab) : Put a r (x0 :: x1 :: x2 :: x3 :: x4 :: x5 :: (a, r₀) :: T) (x0 :: x1 :: x2 :: x3 :: x4 :: x5 :: (a, r) :: T) := .tail _ (.tail _ (.tail _ (.tail _ (.tail _ (.tail _ (.head _ _))))))
theorem pt7 {a : Addr} {r : Rs} (x0 x1 x2 x3 x4 x5 x6 : Addr × Rs) (r₀ : Rs) (T : Tab) : Put a r (x0 :: x1 :: x2 :: x3 :: x4 :: x5 :: x6 :: (a, r₀) :: T) (x0 :: x1 :: x2 :: x3 :: x4 :: x5 :: x6 :: (a, r) :: T) := .tail _ (.tail _ (.tail _ (.tail _ (.tail _ (.tail _ (.tail _ (.head _ _)))))))
theorem pt8 {a : Addr} {r : Rs} (x0 x1 x2 x3 x4 x5 x6 x7 : Addr × Rs) (r₀ : Rs) (T : Tab) : Put a r (x0 :: x1 :: x2 :: x3 :: x4 :: x5 :: x6 :: x7 :: (a, r₀) :: T) (x0 :: x1 :: x2 :: x3 :: x4 :: x5 :: x6 :: x7 :: (a, r) :: T) := .tail _ (.tail _ (.tail _ (.tail _ (.tail _ (.tail _ (.tail _ (.tail _ (.head _ _))))))))
theorem pt9 {a : Addr} {r : Rs} (x0 x1 x2 x3 x4 x5 x6 x7 x8 : Addr × Rs) (r₀ : Rs) (T : Tab) : Put a r (x0 :: x1 :: x2 :: x3 :: x4 :: x5 :: x6 :: x7 :: x8 :: (a, r₀) :: T) (x0 :: x1 :: x2 :: x3 :: x4 :: x5 :: x6 :: x7 :: x8 :: (a, r) :: T) := .tail _ (.tail _ (.tail _ (.tail _ (.tail _ (.tail _ (.tail _ (.tail _ (.tail _ (.head _ _)))))))))
theorem pt10 {a : Addr} {r : Rs} (x0 x1 x2 x3 x4 x5 x6 x7 x8 x9 : Addr × Rs) (r₀ : Rs) (T : Tab) : Put a r (x0 :: x1 :: x2 :: x3 :: x4 :: x5 :: x6 :: x7 :: x8 :: x9 :: (a, r₀) :: T) (x0 :: x1 :: x2 :: x3 :: x4 :: x5 :: x6 :: x7 :: x8 :: x9 :: (a, r) :: T) := .tail _ (.tail _ (.tail _ (.tail _ (.tail _ (.tail _ (.tail _ (.tail _ (.tail _ (.tail _ (.head _ _))))))))))
theorem pv0 {x : Str} {v : Value} (v₀ : Option Value) (l : List (Str × Option Value)) : PutV x v ((x, v₀) :: l) ((x, some v) :: l) := .head _ _
theorem pv1 {x : Str} {v : Value} (x0 : Str × Option Value) (v₀ : Option Value) (l : List (Str × Option Value)) : PutV x v (x0 :: (x, v₀) :: l) (x0 :: (x, some v) :: l) := .tail _ (.head _ _)
theorem pv2 {x : Str} {v : Value} (x0 x1 : Str × Option Value) (v₀ : Option Value) (l : List (Str × Option Value)) : PutV x v (x0 :: x1 :: (x, v₀) :: l) (x0 :: x1 :: (x, some v) :: l) := .tail _ (.tail _ (.head _ _))
theorem pv3 {x : Str} {v : Value} (x0 x1 x2 : Str × Option Value) (v₀ : Option Value) (l : List (Str × Option Value)) : PutV x v (x0 :: x1 :: x2 :: (x, v₀) :: l) (x0 :: x1 :: x2 :: (x, some v) :: l) := .tail _ (.tail _ (.tail _ (.head _ _)))
theorem pv4 {x : Str} {v : Value} (x0 x1 x2 x3 : Str × Option Value) (v₀ : Option Value) (l : List (Str × Option Value)) : PutV x v (x0 :: x1 :: x2 :: x3 :: (x, v₀) :: l) (x0 :: x1 :: x2 :: x3 :: (x, some v) :: l) := .tail _ (.tail _ (.tail _ (.tail _ (.head _ _))))
theorem pv5 {x : Str} {v : Value} (x0 x1 x2 x3 x4 : Str × Option Value) (v₀ : Option Value) (l : List (Str × Option Value)) : PutV x v (x0 :: x1 :: x2 :: x3 :: x4 :: (x, v₀) :: l) (x0 :: x1 :: x2 :: x3 :: x4 :: (x, some v) :: l) := .tail _ (.tail _ (.tail _ (.tail _ (.tail _ (.head _ _)))))
theorem pv6 {x : Str} {v : Value} (x0 x1 x2 x3 x4 x5 : Str × Option Value) (v₀ : Option Value) (l : List (Str × Option Value)) : PutV x v (x0 :: x1 :: x2 :: x3 :: x4 :: x5 :: (x, v₀) :: l) (x0 :: x1 :: x2 :: x3 :: x4 :: x5 :: (x, some v) :: l) := .tail _ (.tail _ (.tail _ (.tail _ (.tail _ (.tail _ (.head _ _))))))
theorem pv7 {x : Str} {v : Value} (x0 x1 x2 x3 x4 x5 x6 : Str × Option Value) (v₀ : Option Value) (l : List (Str × Option Value)) : PutV x v (x0 :: x1 :: x2 :: x3 :: x4 :: x5 :: x6 :: (x, v₀) :: l) (x0 :: x1 :: x2 :: x3 :: x4 :: x5 :: x6 :: (x, some v) :: l) := .tail _ (.tail _ (.tail _ (.tail _ (.tail _ (.tail _ (.tail _ (.head _ _)))))))
theorem pv8 {x : Str} {v : Value} (x0 x1 x2 x3 x4 x5 x6 x7 : Str × Option Value) (v₀ : Option Value) (l : List (Str × Option Value)) : PutV x v (x0 :: x1 :: x2 :: x3 :: x4 :: x5 :: x6 :: x7 :: (x, v₀) :: l) (x0 :: x1 :: x2 :: x3 :: x4 :: x5 :: x6 :: x7 :: (x, some v) :: l) := .tail _ (.tail _ (.tail _ (.tail _ (.tail _ (.tail _ (.tail _ (.tail _ (.head _ _))))))))
theorem pv9 {x : Str} {v : Value} (x0 x1 x2 x3 x4 x5 x6 x7 x8 : Str × Option Value) (v₀ : Option Value) (l : List (Str × Option Value)) : PutV x v (x0 :: x1 :: x2 :: x3 :: x4 :: x5 :: x6 :: x7 :: x8 :: (x, v₀) :: l) (x0 :: x1 :: x2 :: x3 :: x4 :: x5 :: x6 :: x7 :: x8 :: (x, some v) :: l) := .tail _ (.tail _ (.tail _ (.tail _ (.tail _ (.tail _ (.tail _ (.tail _ (.tail _ (.head _ _)))))))))
theorem pv10 {x : Str} {v : Value} (x0 x1 x2 x3 x4 x5 x6 x7 x8 x9 : Str × Option Value) (v₀ : Option Value) (l : List (Str × Option Value)) : PutV x v (x0 :: x1 :: x2 :: x3 :: x4 :: x5 :: x6 :: x7 :: x8 :: x9 :: (x, v₀) :: l) (x0 :: x1 :: x2 :: x3 :: x4 :: x5 :: x6 :: x7 :: x8 :: x9 :: (x, some v) :: l) := .tail _ (.tail _ (.tail _ (.tail _ (.tail _ (.tail _ (.tail _ (.tail _ (.tail _ (.tail _ (.head _ _))))))))))
theorem pv11 {x : Str} {v : Value} (x0 x1 x2 x3 x4 x5 x6 x7 x8 x9 x10 : Str × Option Value) (v₀ : Option Value) (l : List (Str × Option Value)) : PutV x v (x0 :: x1 :: x2 :: x3 :: x4 :: x5 :: x6 :: x7 :: x8 :: x9 :: x10 :: (x, v₀) :: l) (x0 :: x1 :: x2 :: x3 :: x4 :: x5 :: x6 :: x7 :: x8 :: x9 :: x10 :: (x, some v) :: l) := .tail _ (.tail _ (.tail _ (.tail _ (.tail _ (.tail _ (.tail _ (.tail _ (.tail _ (.tail _ (.tail _ (.head _ _)))))))))))
theorem pv12 {x : Str} {v : Value} (x0 x1 x2 x3 x4 x5 x6 x7 x8 x9 x10 x11 : Str × Option Value) (v₀ : Option Value) (l : List (Str × Option Value)) : PutV x v (x0 :: x1 :: x2 :: x3 :: x4 :: x5 :: x6 :: x7 :: x8 :: x9 :: x10 :: x11 :: (x, v₀) :: l) (x0 :: x1 :: x2 :: x3 :: x4 :: x5 :: x6 :: x7 :: x8 :: x9 :: x10 :: x11 :: (x, some v) :: l) := .tail _ (.tail _ (.tail _ (.tail _ (.tail _ (.tail _ (.tail _ (.tail _ (.tail _ (.tail _ (.tail _ (.tail _ (.head _ _))))))))))))
end
section
set_option maxRecDepth 100000
open PySem PySem.W PyProof.Rows PySem.Calls
section
variable {prog : Program} {w : World} {A : Around} {E : Value → Shared → Prop} {s₀ s : Shared} {T T' : Tab} {env : Env} {x : Str} {pos : Pos} {v : Value} {a : Addr}
/-! constants -/
theorem kInt {i : Int} {k : Nat} {Q : Value → Shared → Prop} (c : Cx s₀ s T) (h : ∀ t s', Cx s₀ s' T → Q (.int i t) s') : wpAny (model prog w) A (eval (.Constant (.int i) k pos) env) Q E s :=
  wpAny_Constant_int (h _ _ (c.tok _))
theorem kStr {y : Str} {k : Nat} {Q : Value → Shared → Prop} (c : Cx s₀ s T) (h : ∀ t s', Cx s₀ s' T → Q (.str y t) s') : wpAny (model prog w) A (eval (.Constant (.str y) k pos) env) Q E s :=
  Constant_str (h _ _ (c.tok _))
theorem kBool {b : Bool} {k : Nat} {Q : Value → Shared → Prop} (h : Q (.bool b) s) : wpAny (model prog w) A (eval (.Constant (.bool b) k pos) env) Q E s := fun _ _ _ => h
/-! numbers -/
theorem oAdd {i j : Int} {t u : Tok} {Q : Value → Shared → Prop} (c : Cx s₀ s T) (h : ∀ t s', Cx s₀ s' T → Q (.int (i + j) t) s') : wpAny (model prog w) A (binaryOp .Add (.int i t) (.int j u)) Q E s := add_int (h _ _ (c.tok _))
theorem oSub {i j : Int} {t u : Tok} {Q : Value → Shared → Prop} (c : Cx s₀ s T) (h : ∀ t s', Cx s₀ s' T → Q (.int (i - j) t) s') : wpAny (model prog w) A (binaryOp .Sub (.int i t) (.int j u)) Q E s := sub_int (h _ _ (c.tok _))
theorem oIadd {i j : Int} {t u : Tok} {Q : Value → Shared → Prop} (c : Cx s₀ s T) (h : ∀ t s', Cx s₀ s' T → Q (.int (i + j) t) s') : wpAny (model prog w) A (inplaceOp .Add (.int i t) (.int j u)) Q E s := iadd_int (h _ _ (c.tok _))
theorem oMod {i j : Int} {t u : Tok} {Q : Value → Shared → Prop} (c : Cx s₀ s T) (hj : 0 < j) (h : ∀ t s', Cx s₀ s' T → Q (.int (i % j) t) s') : wpAny (model prog w) A (binaryOp .Mod (.int i t) (.int j u)) Q E s :=
  mod_int' (by (first | lia | omega)) (by rw [Int.fmod_eq_emod_of_nonneg _ (by (first | lia | omega))]; exact h _ _ (c.tok _))
theorem oDiv {i j : Int} {t u : Tok} {Q : Value → Shared → Prop} (c : Cx s₀ s T) (hj : 0 < j) (hp : Builtin.divisionGoesByPylong i j = false) (h : ∀ t s', Cx s₀ s' T → Q (.int (i / j) t) s') : wpAny (model prog w) A (binaryOp .FloorDiv (.int i t) (.int j u)) Q E s :=
  floordiv_int (by (first | lia | omega)) (by rw [Int.fdiv_eq_ediv_of_nonneg _ (by (first | lia | omega))]; exact h _ _ (c.tok _)) (.inl hp)
/-! strs -/
theorem oCat {y z : Str} {t u : Tok} {Q : Value → Shared → Prop} (c : Cx s₀ s T) (hz : y.length + z.length ≤ sizeLine) (h : ∀ t s', Cx s₀ s' T → Q (.str (y ++ z) t) s') : wpAny (model prog w) A (binaryOp .Add (.str y t) (.str z u)) Q E s :=
  add_str (fun _ _ => h _ _ (c.tok _)) hz
theorem oIcat {y z : Str} {t u : Tok} {Q : Value → Shared → Prop} (c : Cx s₀ s T) (hz : y.length + z.length ≤ sizeLine) (h : ∀ t s', Cx s₀ s' T → Q (.str (y ++ z) t) s') : wpAny (model prog w) A (inplaceOp .Add (.str y t) (.str z u)) Q E s :=
  iadd_str (fun _ _ => h _ _ (c.tok _)) hz
theorem oLenS {y : Str} {t : Tok} {Q : Value → Shared → Prop} (c : Cx s₀ s T) (hz : y.length ≤ sizeLine) (h : ∀ t s', Cx s₀ s' T → Q (.int y.length t) s') : wpAny (model prog w) A (call (.builtin "len") [.str y t]) Q E s :=
  SBL.len (by unfold sizeLine at hz; (first | lia | omega)) (h _ _ (c.tok _))
theorem oTruS {y : Str} {t : Tok} {Q : Bool → Shared → Prop} (c : Cx s₀ s T) (hz : y.length ≤ sizeLine) (h : ∀ s', Cx s₀ s' T → Q ((y.length : Int) != 0) s') : wpAny (model prog w) A (truthy (.str y t)) Q E s :=
  SBL.truthy (by unfold sizeLine at hz; (first | lia | omega)) (h _ (c.tok _))
theorem oItemS {value slice : Expr} {y : Str} {t : Tok} {i : Int} {u : Tok} {Q : Value → Shared → Prop} (c : Cx s₀ s T) (hz : y.length ≤ sizeLine) (h1 : -(y.length : Int) ≤ i) (h2 : i < y.length)
    (hs : subscripted slice false (.str y t) (.int i u) = operate [.str y t, .int i u] (getItem (.str y t) (.int i u))) (ht : ∀ r, letTemporaryGo value (.str y t) r = pure ())
    (h : ∀ t s', Cx s₀ s' T → Q (.str (Txt.item y i) t) s') : wpAny (model prog w) A (subscriptTail value slice (.str y t) (.int i u)) Q E s :=
  item_str (by unfold sizeLine at hz; exact fitsSsize_of (N := 9223372036854775808) (by (first | lia | omega)) (by (first | lia | omega)) (Int.le_refl _)) h1 h2 (fun _ => h _ _ (c.tok _)) hs ht
theorem keptX (s : Shared) : KeptH fun h => ∀ b o, s.heap.get? b = some o → h.get? b = some o := fun _ _ I b o e => Heap.get?_push_of_some _ (I b o e)
theorem oSliSN {value slice : Expr} {y : Str} {t : Tok} {i : Int} {u : Tok} {Q : Value → Shared → Prop} (c : Cx s₀ s T) (hz : y.length ≤ sizeLine)
    (hs : subscripted slice false (.str y t) (.ref s.heap.objs.size) = operate [.ref s.heap.objs.size, .str y t] (getItem (.str y t) (.ref s.heap.objs.size))) (ht : ∀ r, letTemporaryGo value (.str y t) r = pure ())
    (h : ∀ t s', Cx s₀ s' T → Q (.str (Txt.slice y (some i) none) t) s') :
    wpAny (model prog w) A (subscriptTail value slice (.str y t) (.ref s.heap.objs.size)) Q E { s with heap := s.heap.push { cls := .type "slice", data := .fields #[.int i u, .none, .none] } } :=
  tail_of_ItemOn (SBH.sliceItem_sn (keptX s) (fun _ _ e => e) (fun h' t' k hk => h t' _ (c.grow k hk)) hz) hs ht
theorem oSliNS {value slice : Expr} {y : Str} {t : Tok} {i : Int} {u : Tok} {Q : Value → Shared → Prop} (c : Cx s₀ s T) (hz : y.length ≤ sizeLine)
    (hs : subscripted slice false (.str y t) (.ref s.heap.objs.size) = operate [.ref s.heap.objs.size, .str y t] (getItem (.str y t) (.ref s.heap.objs.size))) (ht : ∀ r, letTemporaryGo value (.str y t) r = pure ())
    (h : ∀ t s', Cx s₀ s' T → Q (.str (Txt.slice y none (some i)) t) s') :
    wpAny (model prog w) A (subscriptTail value slice (.str y t) (.ref s.heap.objs.size)) Q E { s with heap := s.heap.push { cls := .type "slice", data := .fields #[.none, .int i u, .none] } } :=
  tail_of_ItemOn (SBH.sliceItem_ns (keptX s) (fun _ _ e => e) (fun h' t' k hk => h t' _ (c.grow k hk)) hz) hs ht
theorem oSliSS {value slice : Expr} {y : Str} {t : Tok} {i j : Int} {u v : Tok} {Q : Value → Shared → Prop} (c : Cx s₀ s T) (hz : y.length ≤ sizeLine)
    (hs : subscripted slice false (.str y t) (.ref s.heap.objs.size) = operate [.ref s.heap.objs.size, .str y t] (getItem (.str y t) (.ref s.heap.objs.size))) (ht : ∀ r, letTemporaryGo value (.str y t) r = pure ())
    (h : ∀ t s', Cx s₀ s' T → Q (.str (Txt.slice y (some i) (some j)) t) s') :
    wpAny (model prog w) A (subscriptTail value slice (.str y t) (.ref s.heap.objs.size)) Q E { s with heap := s.heap.push { cls := .type "slice", data := .fields #[.int i u, .int j v, .none] } } :=
  tail_of_ItemOn (SBH.sliceItem_ss (keptX s) (fun _ _ e => e) (fun h' t' k hk => h t' _ (c.grow k hk)) hz) hs ht
/-! lists -/
noncomputable def LstAt (h : Heap) (a : Addr) (vs : List Value) : Prop := h.PlainList a vs.toArray
theorem LstAt.list {h : Heap} {a : Addr} {vs : List Value} (x : LstAt h a vs) : h.IsList a vs.toArray := Heap.PlainList.isList x
theorem LstAt.keeps {h h' : Heap} {a : Addr} {vs : List Value} (x : LstAt h a vs) (k : ∀ b o, h.get? b = some o → h'.get? b = some o) : LstAt h' a vs := let ⟨n, e⟩ := x; ⟨n, k _ _ e⟩
theorem Cx.lat (c : Cx s₀ s T) {vs} (h : (a, Rs.lst vs) ∈ T) : LstAt s.heap a vs := c.plain h
theorem Cx.old (c : Cx s₀ s T) {vs} (h : LstAt s₀.heap a vs) : LstAt s.heap a vs := h.keeps c.keep
theorem oLenL {vs : List Value} {Q : Value → Shared → Prop} (c : Cx s₀ s T) (hl : LstAt s.heap a vs) (hz : vs.length ≤ sizeLine) (h : ∀ t s', Cx s₀ s' T → Q (.int vs.length t) s') : wpAny (model prog w) A (call (.builtin "len") [.ref a]) Q E s :=
  len_list hl.list (by unfold sizeLine at hz; simp; (first | lia | omega)) (by simpa using h _ _ (c.tok _))
theorem oTruL {vs : List Value} {Q : Bool → Shared → Prop} (c : Cx s₀ s T) (hl : LstAt s.heap a vs) (hz : vs.length ≤ sizeLine) (h : ∀ s', Cx s₀ s' T → Q (!vs.isEmpty) s') : wpAny (model prog w) A (truthy (.ref a)) Q E s :=
  wpAny_truthy_list hl.list (by unfold sizeLine at hz; simp; (first | lia | omega)) (by simpa using h _ (c.tok _))
theorem oItemL {value slice : Expr} {vs : List Value} {i : Int} {u : Tok} {Q : Value → Shared → Prop} (hl : LstAt s.heap a vs) (h0 : 0 ≤ i) (h1 : i < 2 ^ 63) (hv : vs[i.toNat]? = some v)
    (hs : subscripted slice false (.ref a) (.int i u) = operate [.ref a, .int i u] (getItem (.ref a) (.int i u))) (h : Q v s) : wpAny (model prog w) A (subscriptTail value slice (.ref a) (.int i u)) Q E s :=
  tail_any hl.list.typeIs slot_list_getitem.lookup (wpAny_getItem_list hl.list h0 h1 (by simpa using hv) h) hs
theorem oItemLneg {value slice : Expr} {vs : List Value} {i : Int} {u : Tok} {Q : Value → Shared → Prop} (hl : LstAt s.heap a vs) (h0 : i < 0) (h1 : -(vs.length : Int) ≤ i) (h2 : -2 ^ 63 ≤ i) (hv : vs[(i + vs.length).toNat]? = some v)
    (hs : subscripted slice false (.ref a) (.int i u) = operate [.ref a, .int i u] (getItem (.ref a) (.int i u))) (h : Q v s) : wpAny (model prog w) A (subscriptTail value slice (.ref a) (.int i u)) Q E s :=
  tail_any hl.list.typeIs slot_list_getitem.lookup (wpAny_getItem_list_neg hl.list h0 (by simpa using h1) h2 (by simpa using hv) h) hs
noncomputable def pick (vs : List Value) (lo hi st : Option Int) : List Value := (slicePick vs.toArray lo hi st).toList
theorem oSliL {value slice : Expr} {vs : List Value} {vl vu vk : Value} {lo hi st : Option Int} {ops : List Value} {Q : Value → Shared → Prop} (c : Cx s₀ s T) (hl : LstAt s.heap a vs) (pl : IsPart vl lo) (pu : IsPart vu hi) (pk : IsPart vk st) (h0 : st ≠ some 0)
    (hz : vs.length ≤ sizeLine) (hs : subscripted slice false (.ref a) (.ref s.heap.objs.size) = operate ops (getItem (.ref a) (.ref s.heap.objs.size))) (ht : ∀ r, letTemporaryGo value (.ref a) r = pure ())
    (h : ∀ b s', Cx s₀ s' ((b, .lst (pick vs lo hi st)) :: T) → Q (.ref b) s') :
    wpAny (model prog w) A (subscriptTail value slice (.ref a) (.ref s.heap.objs.size)) Q E { s with heap := s.heap.push { cls := .type "slice", data := .fields #[vl, vu, vk] } } := by
  refine subscriptTail_ops (Heap.IsList.typeIs (s := { s with heap := s.heap.push { cls := .type "slice", data := .fields #[vl, vu, vk] } }) (hl.list.push _)) list_getitem_lookup
    (wpAny_getItem_list_slice (hl.list.push _) (Heap.IsSliceOf.new ..) pl pu pk h0 ?_ (by simpa using hz)) hs ht
  have c1 := c.pushG { cls := .type "slice", data := .fields #[vl, vu, vk] }
  have c2 := c1.push (r := .lst (pick vs lo hi st)) (o := { cls := .type "list", data := .seq (slicePick vs.toArray lo hi st) }) rfl ⟨_, by simp [pick]; rfl⟩
  exact h _ _ c2
theorem oNewL {vs : List Value} {Q : Value → Shared → Prop} (c : Cx s₀ s T) (hz : vs.length ≤ sizeLine) (h : ∀ b s', Cx s₀ s' ((b, .lst vs) :: T) → Q (.ref b) s') : wpAny (model prog w) A (newList vs) Q E s :=
  wpAny_newList (h _ _ (c.push rfl ⟨_, rfl⟩)) hz
theorem oNewT {vs : List Value} {Q : Value → Shared → Prop} (c : Cx s₀ s T) (hz : vs.length ≤ sizeLine) (h : ∀ b s', Cx s₀ s' ((b, .tup vs) :: T) → Q (.ref b) s') : wpAny (model prog w) A (newTuple vs) Q E s :=
  wpAny_newTuple (h _ _ (c.push rfl ⟨_, rfl⟩)) hz
theorem oApp {vs : List Value} {Q : Value → Shared → Prop} (c : Cx s₀ s T) (hl : (a, Rs.lst vs) ∈ T) (hp : Put a (.lst (vs ++ [v])) T T') (hz : vs.length ≤ sizeLine) (h : ∀ s', Cx s₀ s' T' → Q .none s') :
    wpAny (model prog w) A (call (.builtin "list.append") [.ref a, v]) Q E s := by
  obtain ⟨n, e⟩ := c.plain hl
  refine append_at e (fun h' hs ho => h _ (c.upd s.toks hp hs.extBut ho ⟨n + 1, by simp⟩)) (by simpa using hz)
theorem gmApp {vs : List Value} {pl : Sem Bool} {Q : Value × List Value → Shared → Prop} (hl : LstAt s.heap a vs) (h : Q (.builtin "list.append", [.ref a]) s) : wpAny (model prog w) A (getMethod (.ref a) "append" pl) Q E s :=
  let ⟨_, e⟩ := hl; getMethod_list_append e rfl rfl h
theorem saGet : ∀ {vs : List Value} {ys : List Str}, StrsAre vs ys → ∀ {i : Nat} {y : Str}, ys[i]? = some y → ∃ t, vs[i]? = some (.str y t)
  | _, _, .cons y t _, 0, _, e => by simp at e; exact ⟨t, by simp [e]⟩
  | _, _, .cons y t h, i + 1, _, e => by simpa using saGet h (i := i) (by simpa using e)
theorem saLen : ∀ {vs : List Value} {ys : List Str}, StrsAre vs ys → vs.length = ys.length
  | _, _, .nil => rfl
  | _, _, .cons _ _ h => by simp [saLen h]
/-- == of two lists of strs -/
theorem oEqLS {b : Addr} {vs ws : List Value} {xs ys : List Str} {Q : Value → Shared → Prop} (hu : A.units < cLine) (hl : LstAt s.heap a vs) (hb : LstAt s.heap b ws) (hx : StrsAre vs xs) (hy : StrsAre ws ys)
    (h : Q (.bool (decide (xs = ys))) s) : wpAny (model prog w) A (compareOp .Eq (.ref a) (.ref b)) Q E s := by
  by_cases hsz : xs.length = ys.length
  · refine SeqAt.eq_listAt (e := fun j => xs[j]? == ys[j]?) hl.list hb.list (by simpa [saLen hx, saLen hy] using hsz) hu (fun j h1 h2 => ?_) ?_
    · have h1' : j < xs.length := by simpa [saLen hx] using h1
      have h2' : j < ys.length := by simpa [saLen hy] using h2
      obtain ⟨t, e1⟩ := saGet hx (List.getElem?_eq_getElem h1')
      obtain ⟨u, e2⟩ := saGet hy (List.getElem?_eq_getElem h2')
      have f1 : vs.toArray[j] = .str xs[j] t := by
        have := Array.getElem?_eq_getElem h1
        simp only [List.getElem?_toArray, e1] at this
        exact (Option.some.inj this).symm
      have f2 : ws.toArray[j] = .str ys[j] u := by
        have := Array.getElem?_eq_getElem h2
        simp only [List.getElem?_toArray, e2] at this
        exact (Option.some.inj this).symm
      rw [f1, f2, List.getElem?_eq_getElem h1', List.getElem?_eq_getElem h2']
      intro prog w E Q hq
      refine eqBool_str ?_
      simpa using hq
    · have : (List.range vs.toArray.size).all (fun j => xs[j]? == ys[j]?) = decide (xs = ys) := by
        rw [Bool.eq_iff_iff]
        simp only [List.all_eq_true, List.mem_range, decide_eq_true_eq, beq_iff_eq, List.size_toArray, saLen hx]
        constructor
        · intro z
          refine List.ext_getElem? fun i => ?_
          by_cases hi : i < xs.length
          · exact z i hi
          · rw [List.getElem?_eq_none (by (first | lia | omega)), List.getElem?_eq_none (by (first | lia | omega))]
        · rintro rfl i _; rfl
      rw [this]; exact h
  · refine SeqAt.eq_list_lengthsAt hl.list hb.list (by simpa [saLen hx, saLen hy] using hsz) hu ?_
    have : decide (xs = ys) = false := decide_eq_false fun e => hsz (by rw [e])
    rw [this] at h; exact h
end
end
section
set_option maxRecDepth 100000
open PySem PySem.W PyProof.Rows PySem.Calls
section
variable {prog : Program} {w : World} {A : Around} {E : Value → Shared → Prop} {s₀ s : Shared} {T T' : Tab} {env : Env} {x : Str} {pos : Pos} {v : Value} {a it : Addr} {R : Result → Shared → Prop}
structure Walk (prog : Program) (w : World) (A : Around) (s₀ : Shared) (it : Addr) (r : Nat → Rs) (n : Nat) (P : Nat → Value → Prop) (L : Heap → Prop) : Prop where
  item : ∀ k T s (Q : Option Value → Shared → Prop) E, k < n → Cx s₀ s ((it, r k) :: T) → L s.heap → (∀ v s', P k v → Cx s₀ s' ((it, r (k + 1)) :: T) → Q (some v) s') → wpAny (model prog w) A (pyNext (.ref it)) Q E s
  done : ∀ T s (Q : Option Value → Shared → Prop) E, Cx s₀ s ((it, r n) :: T) → L s.heap → (∀ s', Cx s₀ s' T → Q none s') → wpAny (model prog w) A (pyNext (.ref it)) Q E s
  self : ∀ k T s (Q : Value → Shared → Prop) E, Cx s₀ s ((it, r k) :: T) → Q (.ref it) s → wpAny (model prog w) A (pyIter (.ref it)) Q E s
theorem walkL {l : Addr} {vs : List Value} (hh : A.handled = none) : Walk prog w A s₀ it (fun k => .iter l k) vs.length (fun k v => vs[k]? = some v) (fun h => LstAt h l vs) := by
  refine ⟨fun k T s Q E hk c hl h => ?_, fun T s Q E c hl h => ?_, fun k T s Q E c h => wpAny_pyIter_listiter (c.iter List.mem_cons_self) h⟩
  · have hv : vs.toArray[k]? = some vs[k] := by simp [hk]
    refine wpAny_pyNext_list_item (c.iter List.mem_cons_self) hl.list hv fun h' hit hs => ?_
    obtain ⟨o, ho, r⟩ := hit
    exact h _ _ (by simp [hk]) (c.upd s.toks (.head _ _) hs.extBut ho r)
  · exact wpAny_pyNext_list_end hh (c.iter List.mem_cons_self) hl.list (by simp) fun h' hs => h _ (c.lose s.toks hs)
noncomputable def rIt (x left step : Int) : Obj := { cls := .type "range_iterator", dict := none, data := .fields #[rawInt x, rawInt left, rawInt step], slots := #[] }
theorem walkR {b step : Int} {n : Nat} (hh : A.handled = none) : Walk prog w A s₀ it (fun k => .obj (rIt (b + k * step) (n - k) step)) n (fun k v => ∃ t, v = .int (b + k * step) t) (fun _ => True) := by
  refine ⟨fun k T s Q E hk c _ h => ?_, fun T s Q E c _ h => ?_, fun k T s Q E c h => wpAny_pyIter_rangeiter (c.obj List.mem_cons_self) h⟩
  · refine wpAny_pyNext_range_item (c.obj List.mem_cons_self) (by (first | lia | omega)) fun h' hit hs => ?_
    refine h _ _ ⟨_, rfl⟩ (c.upd _ (.head _ _) hs.extBut hit ?_)
    have e1 : b + (k : Int) * step + step = b + ((k + 1 : Nat) : Int) * step := by push_cast; rw [Int.add_mul]; (first | lia | omega)
    have e2 : (n : Int) - k - 1 = n - ((k + 1 : Nat) : Int) := by push_cast; (first | lia | omega)
    rw [e1, e2]; rfl
  · exact wpAny_pyNext_range_end hh (c.obj List.mem_cons_self) (by (first | lia | omega)) fun h' hs => h _ (c.lose s.toks hs)
noncomputable def siRs (y : Str) (t : Tok) (k : Nat) : Rs := .sat fun o => o.cls = .type "str_ascii_iterator" ∧ o.data = .fields #[.str y t, .int k 0]
theorem walkS {y : Str} {t : Tok} (hh : A.handled = none) : Walk prog w A s₀ it (fun k => siRs y t k) y.cps.size
    (fun k v => ∃ c t, y.cps[k]? = some c ∧ v = .str ⟨#[c]⟩ t) (fun _ => True) := by
  refine ⟨fun k T s Q E hk c _ h => ?_, fun T s Q E c _ h => ?_, fun k T s Q E c h => ?_⟩
  · obtain ⟨o, ho, hr⟩ := c.sat List.mem_cons_self
    refine wpAny_pyNext_ascii_item (c := y.cps[k]) ⟨o, ho, hr⟩ (by simp [hk]) fun h' hit hs => ?_
    obtain ⟨o', ho', hr'⟩ := hit
    exact h _ _ ⟨_, _, by simp [hk], rfl⟩ (c.upd _ (.head _ _) hs.extBut ho' hr')
  · obtain ⟨o, ho, hr⟩ := c.sat List.mem_cons_self
    exact wpAny_pyNext_ascii_end hh ⟨o, ho, hr⟩ (by simp) fun h' hs => h _ (c.lose s.toks hs)
  · obtain ⟨o, ho, hr⟩ := c.sat List.mem_cons_self
    exact wpAny_pyIter_striter_ascii ⟨o, ho, hr⟩ h
/-- pyIter of a list, a range's object, a str -/
theorem iterL {l : Addr} {vs : List Value} {Q : Value → Shared → Prop} (c : Cx s₀ s T) (hl : LstAt s.heap l vs) (h : ∀ it s', Cx s₀ s' ((it, .iter l 0) :: T) → Q (.ref it) s') : wpAny (model prog w) A (pyIter (.ref l)) Q E s :=
  wpAny_pyIter_list hl.list (h _ _ (c.push rfl ⟨rfl, rfl⟩))
theorem iterS {y : Str} {t : Tok} {Q : Value → Shared → Prop} (c : Cx s₀ s T) (ha : y.cps.all (· < 128) = true)
    (h : ∀ it s', Cx s₀ s' ((it, siRs y t 0) :: T) → Q (.ref it) s') : wpAny (model prog w) A (pyIter (.str y t)) Q E s :=
  wpAny_pyIter_strU (h _ _ (c.push rfl ⟨by simp [strIterType, ha], rfl⟩))
/-- a turn's end: a table of the next kind -/
inductive Nx (s₀ : Shared) (I : Tab → Prop) (p : Addr × Rs) (s : Shared) : Prop
  | mk (T : Tab) (h : I T) (c : Cx s₀ s (p :: T)) : Nx s₀ I p s
inductive Nw (s₀ : Shared) (I : Nat → Tab → Prop) (n : Nat) (s : Shared) : Prop
  | mk (m : Nat) (T : Tab) (hm : m < n) (h : I m T) (c : Cx s₀ s T) : Nw s₀ I n s
inductive Xt (s₀ : Shared) (I : Tab → Prop) (s : Shared) : Prop
  | mk (T : Tab) (h : I T) (c : Cx s₀ s T) : Xt s₀ I s
/-- what a turn's flow leads to -/
noncomputable def LoopFin (C : Shared → Prop) (R : Result → Shared → Prop) (Q' : Flow → Shared → Prop) : Prop :=
  ∀ f s, (match f with | .next | .cont => C s | .brk => R (.ok .next) s | .ret v => R (.ok (.ret v)) s) → Q' f s
section
variable {C : Shared → Prop} {Q' : Flow → Shared → Prop}
theorem lfNext (h : LoopFin C R Q') (x : C s) : Q' .next s := h _ _ x
theorem lfBrk (h : LoopFin C R Q') (x : R (.ok .next) s) : Q' .brk s := h _ _ x
theorem lfRet {v : Value} (h : LoopFin C R Q') (x : R (.ok (.ret v)) s) : Q' (.ret v) s := h _ _ x
end
/-- a for, by what holds of the table T after k items -/
theorem forW {n : Nat} {r : Nat → Rs} {P : Nat → Value → Prop} {L : Heap → Prop} {target : Expr} {body : List Stmt} (W : Walk prog w A s₀ it r n P L) (Inv : Nat → Tab → Prop)
    (hL : ∀ k T s, Inv k T → Cx s₀ s ((it, r k) :: T) → L s.heap)
    (turn : ∀ k v T s, k < n → P k v → Inv k T → Cx s₀ s ((it, r (k + 1)) :: T) → ∀ Q' E', LoopFin (Nx s₀ (Inv (k + 1)) (it, r (k + 1))) R Q' → E' = notedBy (model prog w) A env (fun e s' => R (.error e) s') →
      wpAny (model prog w) A (assign target env v) (fun _ s₂ => wpAny (model prog w) A (execs body env) Q' E' s₂) E' s)
    (fin : ∀ T s, Inv n T → Cx s₀ s T → R (.ok .next) s)
    (h0 : Inv 0 T) (c : Cx s₀ s ((it, r 0) :: T)) (ht : ∀ v, letOwnedTupleGo target (.ref it) v = pure ()) : codeAny (model prog w) A (.forLoop target (.ref it) body [] env) R s := by
  refine codeAny_forLoop (fun m s => ∃ k T, k + m = n ∧ Inv k T ∧ Cx s₀ s ((it, r k) :: T)) (fun m s hI => ?_) n ⟨0, T, by (first | lia | omega), h0, c⟩ ht
  obtain ⟨k, T, hk, hI, c⟩ := hI
  by_cases hm : m = 0
  · have hkn : k = n := by (first | lia | omega)
    subst hkn
    exact W.done T s _ _ c (hL _ _ _ hI c) fun s' c' => wpAny_execs_nil (fin T s' hI c')
  · refine W.item k T s _ _ (by (first | lia | omega)) c (hL _ _ _ hI c) fun v s' hP c' => ?_
    refine turn k v T s' (by (first | lia | omega)) hP hI c' _ _ (fun f s₃ h₃ => ?_) rfl
    cases f with
    | next => obtain ⟨T', i, c''⟩ := h₃; exact ⟨m - 1, by (first | lia | omega), k + 1, T', by (first | lia | omega), i, c''⟩
    | cont => obtain ⟨T', i, c''⟩ := h₃; exact ⟨m - 1, by (first | lia | omega), k + 1, T', by (first | lia | omega), i, c''⟩
    | brk => exact h₃
    | ret v => exact h₃
/-- a while, by a measure -/
theorem whileW {test : Expr} {body orelse : List Stmt} (Inv : Nat → Tab → Prop)
    (turn : ∀ n T s, Inv n T → Cx s₀ s T → ∀ Q' E', LoopFin (Nw s₀ Inv n) R Q' → E' = notedBy (model prog w) A env (fun e s' => R (.error e) s') →
      wpAny (model prog w) A (isTrue test env (eval test env)) (fun b s₂ =>
        if b then wpAny (model prog w) A (execs body env) Q' E' s₂
        else wpAny (model prog w) A (execs orelse env) (fun f s₃ => R (.ok f) s₃) E' s₂) E' s)
    (n : Nat) (h : Inv n T) (c : Cx s₀ s T) : codeAny (model prog w) A (.whileLoop test body orelse env) R s := by
  refine codeAny_whileLoop (fun n s => ∃ T, Inv n T ∧ Cx s₀ s T) (fun n s hI => ?_) n ⟨T, h, c⟩
  obtain ⟨T, hI, c⟩ := hI
  refine turn n T s hI c _ _ (fun f s₃ h₃ => ?_) rfl
  cases f with
  | next => obtain ⟨m, T', hm, i, c'⟩ := h₃; exact ⟨m, hm, T', i, c'⟩
  | cont => obtain ⟨m, T', hm, i, c'⟩ := h₃; exact ⟨m, hm, T', i, c'⟩
  | brk => exact h₃
  | ret v => exact h₃
end
end
section
set_option maxRecDepth 100000
open PySem PySem.W PyProof.Rows PySem.Calls
section
variable {prog : Program} {w : World} {A : Around} {E : Value → Shared → Prop} {s₀ s : Shared} {T T' : Tab} {env : Env} {x : Str} {px pos : Pos} {a it : Addr} {R : Result → Shared → Prop}
  {elt iter : Expr} {ifs : List Expr} {scope : Scope} {cl : List (Str × Addr)} {n : Nat} {r : Nat → Rs} {P : Nat → Value → Prop} {L : Heap → Prop}
abbrev testsOf (ifs : List Expr) (env : Env) : Sem Bool := forIn ifs true fun c r => if r = true then do let ok ← isTrue c env (eval c env); pure (ForInStep.yield ok) else pure (ForInStep.yield r)
noncomputable def CompTurn (prog : Program) (w : World) (A : Around) (s₀ : Shared) (T : Tab) (cenv : Env) (x : Str) (ifs : List Expr) (elt : Expr) (D it : Addr) (r : Nat → Rs) (n : Nat) (P : Nat → Value → Prop) (G : Nat → List Value → Prop) : Prop :=
  ∀ k v acc s E, k < n → P k v → G k acc → Cx s₀ s ((cenv.locals, .ns [(x, some v)]) :: (D, .lst acc) :: (it, r (k + 1)) :: T) →
    wpAny (model prog w) A (testsOf ifs cenv) (fun ok s₃ => if ok = true then wpAny (model prog w) A (eval elt cenv) (fun y s₄ => G (k + 1) (acc ++ [y]) ∧ Cx s₀ s₄ ((cenv.locals, .ns [(x, some v)]) :: (D, .lst acc) :: (it, r (k + 1)) :: T)) E s₃
      else G (k + 1) acc ∧ Cx s₀ s₃ ((cenv.locals, .ns [(x, some v)]) :: (D, .lst acc) :: (it, r (k + 1)) :: T)) E s
theorem compLoop {cenv : Env} {D : Addr} {o₀ : Option Value} (W : Walk prog w A s₀ it r n P L) (G : Nat → List Value → Prop) (hn : n ≤ sizeLine) (hL : ∀ s, Cx s₀ s T → L s.heap) (hk : cenv.scope.kind = .function) (hx : cenv.kindOf x = some .local)
    (turn : CompTurn prog w A s₀ T cenv x ifs elt D it r n P G) (h0 : G 0 []) (c : Cx s₀ s ((cenv.locals, .ns [(x, o₀)]) :: (D, .lst []) :: (it, r 0) :: T))
    (hR : ∀ ys o s', G n ys → ys.length ≤ n → Cx s₀ s' ((cenv.locals, .ns [(x, o)]) :: (D, .lst ys) :: T) → R (.ok .next) s') :
    codeAny (model prog w) A (.compLoop (.ListComp elt [⟨.Name x px, iter, ifs, 0⟩] scope pos) 0 (.ref it) (.ref D) cenv) R s := by
  refine codeAny_compLoop_tests (fun m s => ∃ k acc o, k + m = n ∧ G k acc ∧ acc.length ≤ k ∧ Cx s₀ s ((cenv.locals, .ns [(x, o)]) :: (D, .lst acc) :: (it, r k) :: T)) (fun m s hI => ?_) n ⟨0, [], o₀, by (first | lia | omega), h0, Nat.le_refl _, c⟩ (fun _ => rfl)
  obtain ⟨k, acc, o, hk', hG, hlen, c⟩ := hI
  have rot : ∀ {s : Shared} {p q z : Addr × Rs} {U : Tab}, Cx s₀ s (p :: q :: z :: U) → Cx s₀ s (z :: p :: q :: U) := fun c => ⟨c.same, c.keep, fun y hy => c.own y (by simp only [List.mem_cons] at hy ⊢; rcases hy with h | h | h | h <;> simp [h]), by
    have := c.nd
    simp only [List.map_cons, List.nodup_cons, List.mem_cons, not_or] at this ⊢
    obtain ⟨⟨a1, a2, a3⟩, ⟨b1, b2⟩, c1, d⟩ := this
    exact ⟨⟨fun e => a2 e.symm, fun e => b1 e.symm, c1⟩, ⟨a1, a3⟩, b2, d⟩⟩
  have tor : ∀ {s : Shared} {p q z : Addr × Rs} {U : Tab}, Cx s₀ s (z :: p :: q :: U) → Cx s₀ s (p :: q :: z :: U) := fun c => ⟨c.same, c.keep, fun y hy => c.own y (by simp only [List.mem_cons] at hy ⊢; rcases hy with h | h | h | h <;> simp [h]), by
    have := c.nd
    simp only [List.map_cons, List.nodup_cons, List.mem_cons, not_or] at this ⊢
    obtain ⟨⟨a1, a2, a3⟩, ⟨b1, b2⟩, c1, d⟩ := this
    exact ⟨⟨b1, fun e => a1 e.symm, b2⟩, ⟨fun e => a2 e.symm, c1⟩, a3, d⟩⟩
  have base : ∀ {s : Shared} {p q z : Addr × Rs} {U : Tab}, Cx s₀ s (p :: q :: z :: U) → Cx s₀ s U := fun c => c.drop ((List.sublist_cons_self ..).trans ((List.sublist_cons_self ..).trans (List.sublist_cons_self ..)))
  by_cases hm : m = 0
  · have hkn : k = n := by (first | lia | omega)
    subst hkn
    exact W.done _ s _ _ (rot c) (hL _ (base c)) fun s' c' => hR acc o s' hG hlen c'
  · refine W.item k _ s _ _ (by (first | lia | omega)) (rot c) (hL _ (base c)) fun v s' hP c' => ?_
    refine wpAny_assign_Name (storeL (tor c') hk hx (.head _) (.head _ _) (.head _ _) fun s₂ c₂ => ?_)
    refine wpAny_mono (turn k v acc s₂ _ (by (first | lia | omega)) hP hG c₂) (fun ok s₃ h₃ => ?_) fun _ _ e => e
    cases ok with
    | false =>
      simp only [Bool.false_eq_true, if_false] at h₃ ⊢
      exact ⟨m - 1, by (first | lia | omega), k + 1, acc, some v, by (first | lia | omega), h₃.1, by (first | lia | omega), h₃.2⟩
    | true =>
      simp only [if_true] at h₃ ⊢
      refine wpAny_mono h₃ (fun y s₄ h₄ => ?_) fun _ _ e => e
      refine oApp h₄.2 (.tail _ (.head _)) (.tail _ (.head _ _)) (by (first | lia | omega)) fun s₅ c₅ => ?_
      exact ⟨m - 1, by (first | lia | omega), k + 1, acc ++ [y], some v, by (first | lia | omega), h₄.1, by simp; (first | lia | omega), c₅⟩
@[reducible] noncomputable def cEnv (scope : Scope) (cl : List (Str × Addr)) (C : Addr) (env : Env) : Env :=
  { scope := relabel scope env, locals := C, globals := env.globals, cells := cl, qual := env.qual, func := none, code := env.code, frame := env.frame, builtins := env.builtins }
/-- what stands behind pyIter: the loop's parts -/
inductive CompReady (prog : Program) (w : World) (A : Around) (s₀ : Shared) (env : Env) (scope : Scope) (cl : List (Str × Addr)) (x : Str) (ifs : List Expr) (elt : Expr) (itv : Value) (s₂ : Shared) (K : Addr → List Value → Shared → Prop) : Prop
  | mk (it : Addr) (r : Nat → Rs) (n : Nat) (P : Nat → Value → Prop) (L : Heap → Prop) (T : Tab) (G : Nat → List Value → Prop) (e : itv = .ref it) (W : Walk prog w A s₀ it r n P L) (hn : n ≤ sizeLine) (c : Cx s₀ s₂ ((it, r 0) :: T)) (hL : ∀ s, Cx s₀ s T → L s.heap) (h0 : G 0 [])
      (turn : ∀ C D, CompTurn prog w A s₀ T (cEnv scope cl C env) x ifs elt D it r n P G) (hQ : ∀ D ys s', G n ys → ys.length ≤ n → Cx s₀ s' ((D, .lst ys) :: T) → K D ys s') : CompReady prog w A s₀ env scope cl x ifs elt itv s₂ K
inductive UseReady (prog : Program) (w : World) (A : Around) (s₀ : Shared) (env : Env) (scope : Scope) (cl : List (Str × Addr)) (x : Str) (ifs : List Expr) (elt : Expr) (y : Str) (itv : Value) (s₂ : Shared) (Q : Shared → Prop) : Prop
  | mk (it : Addr) (r : Nat → Rs) (n : Nat) (P : Nat → Value → Prop) (L : Heap → Prop) (T : Tab) (G : Nat → List Value → Prop) (l : List (Str × Option Value)) (e : itv = .ref it) (W : Walk prog w A s₀ it r n P L) (hn : n ≤ sizeLine) (c : Cx s₀ s₂ ((it, r 0) :: T)) (hL : ∀ s, Cx s₀ s T → L s.heap) (h0 : G 0 [])
      (turn : ∀ C D, CompTurn prog w A s₀ T (cEnv scope cl C env) x ifs elt D it r n P G) (hT : (env.locals, Rs.ns l) ∈ T)
      (hQ : ∀ D ys, G n ys → ys.length ≤ n → ∃ l' T', PutV y (.ref D) l l' ∧ Put env.locals (.ns l') T T' ∧ ∀ s', Cx s₀ s' ((D, .lst ys) :: T') → Q s') : UseReady prog w A s₀ env scope cl x ifs elt y itv s₂ Q
/-- a turn, by what each item gives -/
theorem turnAny {α : Type} {items : List α} {V : α → Value → Prop} {T : Tab} {C D : Addr} (p : α → Bool) (B : List α → List Value → Prop) (hP : ∀ k v, k < items.length → P k v → ∃ xi, items[k]? = some xi ∧ V xi v)
    (turn : ∀ C D it r' acc pre xi v s E, xi ∈ items → V xi v → B pre acc → Cx s₀ s ((C, .ns [(x, some v)]) :: (D, .lst acc) :: (it, r') :: T) →
      wpAny (model prog w) A (testsOf ifs (cEnv scope cl C env)) (fun ok s₃ => ok = p xi ∧ (if ok = true then wpAny (model prog w) A (eval elt (cEnv scope cl C env)) (fun y s₄ => B (pre ++ [xi]) (acc ++ [y]) ∧ Cx s₀ s₄ ((C, .ns [(x, some v)]) :: (D, .lst acc) :: (it, r') :: T)) E s₃
        else Cx s₀ s₃ ((C, .ns [(x, some v)]) :: (D, .lst acc) :: (it, r') :: T))) E s) :
    CompTurn prog w A s₀ T (cEnv scope cl C env) x ifs elt D it r items.length P (fun k acc => B ((items.take k).filter p) acc) := by
  intro k v acc s E hk hv hG c
  obtain ⟨xi, hx, hV⟩ := hP k v hk hv
  have htk : items.take (k + 1) = items.take k ++ [xi] := by rw [List.take_add_one, hx]; rfl
  refine wpAny_mono (turn C D it (r (k + 1)) acc _ xi v s E (List.mem_of_getElem? hx) hV hG c) (fun ok s₃ h₃ => ?_) fun _ _ e => e
  obtain ⟨rfl, h₃⟩ := h₃
  cases hp : p xi with
  | true =>
    rw [hp] at h₃
    simp only [if_true] at h₃ ⊢
    refine wpAny_mono h₃ (fun y s₄ h₄ => ?_) fun _ _ e => e
    refine ⟨?_, h₄.2⟩
    rw [htk, List.filter_append]
    simp only [List.filter_cons, hp, if_true, List.filter_nil]
    exact h₄.1
  | false =>
    rw [hp] at h₃
    simp only [Bool.false_eq_true, if_false] at h₃ ⊢
    refine ⟨?_, h₃⟩
    rw [htk, List.filter_append]
    simp only [List.filter_cons, hp, Bool.false_eq_true, if_false, List.filter_nil, List.append_nil]
    exact hG
theorem comp_block {RR : Value → Addr → Result → Shared → Prop} (hcell : ∀ y ∈ scope.names, y.2 ≠ .cell) (hkind : scope.kind = .function) (hx : scope.names.lookup x = some .local) {T : Tab} {G : Nat → List Value → Prop}
    (W : Walk prog w A s₀ it r n P L) (hn : n ≤ sizeLine) (c : Cx s₀ s ((it, r 0) :: T)) (hL : ∀ s, Cx s₀ s T → L s.heap) (h0 : G 0 [])
    (turn : ∀ C D, CompTurn prog w A s₀ T (cEnv scope cl C env) x ifs elt D it r n P G)
    (hR : ∀ C D ys o s', G n ys → ys.length ≤ n → Cx s₀ s' ((C, .ns [(x, o)]) :: (D, .lst ys) :: T) → RR (.ref D) C (.ok .next) s') :
    wpAny (model prog w) A (newList []) (fun acc s₃ => wpAny (model prog w) A (newFunctionEnv scope env.globals cl [] env.qual none .none (some env)) (fun cenv s₄ =>
      codeAny (model prog w) A (.compStart (.ListComp elt [⟨.Name x px, iter, ifs, 0⟩] scope pos) 0 (.ref it) acc { cenv with scope := relabel scope env }) (RR acc cenv.locals) s₄) E s₃) E s := by
  refine oNewL c (Nat.zero_le _) fun D s₃ c₃ => ?_
  refine wpAny_newFunctionEnv hcell (by intro y hy; simp at hy) (fun h₁ hns hsb => ?_) hkind
  have c₄ : Cx s₀ { s₃ with heap := h₁, toks := s₃.toks + ([] : List (Str × Value)).length } ((s₃.heap.objs.size, .ns [(x, none)]) :: (D, .lst []) :: (it, r 0) :: T) := by
    obtain ⟨o, es, ep, ho, hd, hkk, hf⟩ := hns
    refine c₃.new _ ?_ (fun b o e => hsb.extBut b o (Nat.ne_of_lt (Heap.lt_size e)) (Heap.get?_push_of_some _ e)) ho ⟨by simp, es, ep, hd, hkk, fun nm => (hf nm).trans ?_⟩
    · cases e : s₃.heap.get? s₃.heap.objs.size with
      | none => rfl
      | some z => exact absurd (Heap.lt_size e) (Nat.lt_irrefl _)
    · show none = _
      rw [fr_cons]; split <;> rfl
  have loop := compLoop (px := px) (pos := pos) (iter := iter) (scope := scope) (R := RR (.ref D) s₃.heap.objs.size) (cenv := compEnvC scope cl s₃.heap.objs.size env) W G hn hL (by simp [compEnvC, relabel, hkind]) (lookup_relabel_local hx) (turn _ _) h0 c₄ (hR _ _)
  refine codeAny_compStart_list loop ?_
  have rot : ∀ {s : Shared} {p q z : Addr × Rs} {U : Tab}, Cx s₀ s (p :: q :: z :: U) → Cx s₀ s (z :: p :: q :: U) := fun c => ⟨c.same, c.keep, fun y hy => c.own y (by simp only [List.mem_cons] at hy ⊢; rcases hy with h | h | h | h <;> simp [h]), by
    have := c.nd
    simp only [List.map_cons, List.nodup_cons, List.mem_cons, not_or] at this ⊢
    obtain ⟨⟨a1, a2, a3⟩, ⟨b1, b2⟩, c1, d⟩ := this
    exact ⟨⟨fun e => a2 e.symm, fun e => b1 e.symm, c1⟩, ⟨a1, a3⟩, b2, d⟩⟩
  exact W.self 0 _ _ _ _ (rot c₄) loop
theorem compW {Q : Value → Shared → Prop} (hclos : closureFor scope env = pure cl) (hcell : ∀ y ∈ scope.names, y.2 ≠ .cell) (hkind : scope.kind = .function)
    (hnames : ∀ y ∈ scope.names, y.2 = .local → scope.names.lookup y.1 = some .local) (hx : scope.names.lookup x = some .local)
    (h : wpAny (model prog w) A (eval iter env) (fun xv s₁ => wpAny (model prog w) A (pyIter xv) (fun itv s₂ => CompReady prog w A s₀ env scope cl x ifs elt itv s₂ fun D ys s' => Q (.ref D) s') E s₁) E s)
    (hs : ∀ x, foldedSetIterable iter env x = pure x := by intro _; rfl) :
    wpAny (model prog w) A (eval (.ListComp elt [⟨.Name x px, iter, ifs, 0⟩] scope pos) env) Q E s := by
  rw [eval_ListComp]
  refine wpAny_comprehension_free (use := none) rfl hs hclos hkind hnames (wpAny_mono h (fun xv s₁ h₁ => wpAny_mono h₁ (fun itv s₂ h₂ => ?_) fun _ _ e => e) fun _ _ e => e)
  obtain ⟨it, r, n, P, L, T, G, rfl, W, hn, c, hL, h0, turn, hQ⟩ := h₂
  refine comp_block (RR := fun acc C => compPost (model prog w) A E none Q acc C) hcell hkind hx W hn c hL h0 turn fun C D ys o s' hG hlen c' => ?_
  exact ⟨_, c'.ns (List.mem_cons_self), fun h' hs' => hQ D ys _ hG hlen (c'.lose _ hs'.extBut)⟩
theorem compUseW {y : Str} {py spos : Pos} {Q : Flow → Shared → Prop} (hsw : swapsWith (.ListComp elt [⟨.Name x px, iter, ifs, 0⟩] scope pos) (some (.Name y py)) spos.line env = pure true)
    (hclos : closureFor scope env = pure cl) (hcell : ∀ y ∈ scope.names, y.2 ≠ .cell) (hkind : scope.kind = .function)
    (hnames : ∀ y ∈ scope.names, y.2 = .local → scope.names.lookup y.1 = some .local) (hx : scope.names.lookup x = some .local) (hk : env.scope.kind = .function) (hy : env.kindOf y = some .local)
    (h : wpAny (model prog w) A (eval iter env) (fun xv s₁ => wpAny (model prog w) A (pyIter xv) (fun itv s₂ => UseReady prog w A s₀ env scope cl x ifs elt y itv s₂ (fun s' => Q .next s')) E s₁) E s)
    (hs : ∀ x, foldedSetIterable iter env x = pure x := by intro _; rfl) :
    wpAny (model prog w) A (exec (.Assign [.Name y py] (.ListComp elt [⟨.Name x px, iter, ifs, 0⟩] scope pos) spos) env) Q E s := by
  rw [exec_Assign_Name_used _ _ _ _ hsw]
  refine wpAny_bind (wpAny_standAt (wpAny_bind ?_))
  show wpAny _ A (do let _ ← comprehension (.ListComp elt [⟨.Name x px, iter, ifs, 0⟩] scope pos) scope env _ (newList []) false (eval iter env) (some (assign (.Name y py) env))) _ _ s
  refine wpAny_bind (wpAny_mono (wpAny_comprehension_free (use := some (assign (.Name y py) env)) (Q := fun _ s' => Q .next s') rfl hs hclos hkind hnames
    (wpAny_mono h (fun xv s₁ h₁ => wpAny_mono h₁ (fun itv s₂ h₂ => ?_) fun _ _ e => e) fun _ _ e => e)) (fun _ s' h' => wpAny_pure (wpAny_pure h')) fun _ _ e => e)
  obtain ⟨it, r, n, P, L, T, G, l, rfl, W, hn, c, hL, h0, turn, hT, hQ⟩ := h₂
  refine comp_block (RR := fun acc C => compPost (model prog w) A E (some (assign (.Name y py) env)) (fun _ s' => Q .next s') acc C) hcell hkind hx W hn c hL h0 turn fun C D ys o s' hG hlen c' => ?_
  obtain ⟨l', T', hv, hp, hq⟩ := hQ D ys hG hlen
  show wpAny _ A (assign (.Name y py) env (.ref D)) _ _ s'
  refine wpAny_assign_Name (storeL c' hk hy (.tail _ (.tail _ hT)) hv (.tail _ (.tail _ hp)) fun s₂ c₂ => ?_)
  exact ⟨_, c₂.ns (List.mem_cons_self), fun h' hs' => hq _ (c₂.lose _ hs'.extBut)⟩
end
end
section
set_option maxRecDepth 100000
open PySem PySem.W PyProof.Rows PySem.Calls
/-! a table, or a name space, in another order -/
noncomputable def picked {α : Type} (is : List Nat) (n : Nat) (l : List α) : List α := is.filterMap (l[·]?) ++ l.drop n
theorem picked_mem {α : Type} {is : List Nat} {n : Nat} {l : List α} {p : α} (h : p ∈ picked is n l) : (∃ i ∈ is, l[i]? = some p) ∨ (∃ i, n ≤ i ∧ l[i]? = some p) := by
  rcases List.mem_append.mp h with h | h
  · obtain ⟨i, hi, e⟩ := List.mem_filterMap.mp h
    exact .inl ⟨i, hi, e⟩
  · obtain ⟨i, hi⟩ := List.getElem?_of_mem h
    rw [List.getElem?_drop] at hi
    exact .inr ⟨n + i, Nat.le_add_right .., hi⟩
theorem picked_sub {α : Type} {is : List Nat} {n : Nat} {l : List α} {p : α} (h : p ∈ picked is n l) : p ∈ l := by
  rcases picked_mem h with ⟨i, _, e⟩ | ⟨i, _, e⟩ <;> exact List.mem_of_getElem? e
theorem key_inj {α β : Type} {f : α → β} {l : List α} (nd : (l.map f).Nodup) {i j : Nat} {p q : α} (hi : l[i]? = some p) (hj : l[j]? = some q) (e : f p = f q) : i = j := by
  have h1 : (l.map f)[i]? = some (f p) := by rw [List.getElem?_map, hi]; rfl
  have h2 : (l.map f)[j]? = some (f q) := by rw [List.getElem?_map, hj]; rfl
  exact (List.getElem?_inj (List.getElem?_eq_some_iff.mp h1).1 nd).mp (by rw [h1, h2, e])
theorem picked_nd {α β : Type} {f : α → β} {l : List α} (nd : (l.map f).Nodup) {is : List Nat} {n : Nat} (hn : is.Nodup) (hb : ∀ i ∈ is, i < n) : ((picked is n l).map f).Nodup := by
  unfold picked
  rw [List.map_append]
  refine List.nodup_append.mpr ⟨?_, ?_, ?_⟩
  · induction is with
    | nil => exact List.nodup_nil
    | cons j js ih =>
      have ih := ih (List.nodup_cons.mp hn).2 (fun i hi => hb i (.tail _ hi))
      rw [List.filterMap_cons]
      split
      · exact ih
      · rename_i p hp
        refine List.nodup_cons.mpr ⟨fun h => ?_, ih⟩
        obtain ⟨q, hq, e⟩ := List.mem_map.mp h
        obtain ⟨i, hi, hq⟩ := List.mem_filterMap.mp hq
        have := key_inj nd hq hp e
        exact (List.nodup_cons.mp hn).1 (this ▸ hi)
  · rw [List.map_drop]; exact nd.sublist (List.drop_sublist ..)
  · intro a ha b hb' e
    obtain ⟨p, hp, rfl⟩ := List.mem_map.mp ha
    obtain ⟨q, hq, rfl⟩ := List.mem_map.mp hb'
    obtain ⟨i, hi, hp⟩ := List.mem_filterMap.mp hp
    obtain ⟨j, hj⟩ := List.getElem?_of_mem hq
    rw [List.getElem?_drop] at hj
    have := key_inj nd hp hj e
    have := hb i hi
    omega
variable {s₀ s : Shared} {T T' : Tab}
theorem Cx.pick (c : Cx s₀ s T) (is : List Nat) (n : Nat) (h : (decide is.Nodup && is.all (· < n)) = true) (e : T' = picked is n T) : Cx s₀ s T' := by
  simp only [Bool.and_eq_true, decide_eq_true_eq, List.all_eq_true] at h
  subst e
  exact ⟨c.same, c.keep, fun p hp => c.own p (picked_sub hp), picked_nd c.nd h.1 h.2⟩
theorem fr_none {l : List (Str × Option Value)} {x : Str} (h : x ∉ l.map (·.1)) : fr l x = none := by
  induction l with
  | nil => rfl
  | cons p l ih =>
    rw [fr_cons, if_neg (fun e => h (by rw [e]; exact List.mem_cons_self)), ih fun q => h (List.mem_cons_of_mem _ q)]
theorem fr_same {l l' : List (Str × Option Value)} (nd : (l.map (·.1)).Nodup) (nd' : (l'.map (·.1)).Nodup) (h : ∀ p, p ∈ l ↔ p ∈ l') (x : Str) : fr l x = fr l' x := by
  by_cases hx : x ∈ l.map (·.1)
  · obtain ⟨p, hp, rfl⟩ := List.mem_map.mp hx
    rw [fr_mem nd (v := p.2) hp, fr_mem nd' (v := p.2) ((h _).mp hp)]
  · rw [fr_none hx, fr_none fun q => hx ?_]
    obtain ⟨p, hp, rfl⟩ := List.mem_map.mp q
    exact List.mem_map_of_mem ((h _).mpr hp)
theorem set_map_self {T : Tab} {i : Nat} {L : Addr} {r r' : Rs} (hi : T[i]? = some (L, r)) : (T.set i (L, r')).map (·.1) = T.map (·.1) := by
  induction T generalizing i with
  | nil => simp at hi
  | cons p T ih =>
    cases i with
    | zero => simp at hi; subst hi; rfl
    | succ i => simp only [List.set_cons_succ, List.map_cons]; rw [ih (by simpa using hi)]
theorem Cx.pickNs {L : Addr} {l l' : List (Str × Option Value)} (c : Cx s₀ s T) (i : Nat) (hi : T[i]? = some (L, Rs.ns l)) (is : List Nat) (n : Nat) (h : (decide is.Nodup && is.all (· < n) && (List.range n).all is.contains) = true) (e : l' = picked is n l) : Cx s₀ s (T.set i (L, Rs.ns l')) := by
  simp only [Bool.and_eq_true, decide_eq_true_eq, List.all_eq_true, List.mem_range] at h
  subst e
  refine ⟨c.same, c.keep, fun p hp => ?_, by rw [set_map_self hi]; exact c.nd⟩
  rcases List.mem_or_eq_of_mem_set hp with hp | rfl
  · exact c.own p hp
  · obtain ⟨h0, o, ho, nd, es, ep, hd, hk, hf⟩ := c.own _ (List.mem_of_getElem? hi)
    have nd' := picked_nd nd h.1.1 h.1.2
    refine ⟨h0, o, ho, nd', es, ep, hd, hk, fun nm => (hf nm).trans (fr_same nd nd' (fun p => ⟨fun hp => ?_, picked_sub⟩) nm)⟩
    obtain ⟨i, hi⟩ := List.getElem?_of_mem hp
    by_cases hin : i < n
    · exact List.mem_append_left _ (List.mem_filterMap.mpr ⟨i, by simpa using h.2 i hin, hi⟩)
    · refine List.mem_append_right _ (List.mem_of_getElem? (i := i - n) ?_)
      rw [List.getElem?_drop, Nat.add_sub_cancel' (by omega)]; exact hi
end
section
set_option maxRecDepth 100000
open PySem PySem.W PyProof.Rows PySem.Calls
noncomputable def S (l : List Nat) : Str := ⟨l.toArray⟩
theorem S_inj {a b : List Nat} (h : S a = S b) : a = b := by unfold S at h; simpa using h
@[simp] theorem S_inj_iff {a b : List Nat} : S a = S b ↔ a = b := ⟨S_inj, fun h => by rw [h]⟩
@[simp] theorem S_len (l : List Nat) : (S l).length = l.length := by simp [S, Str.length]
@[simp] theorem S_size (l : List Nat) : (S l).cps.size = l.length := by simp [S]
theorem S_eq (a b : List Nat) : (S a == S b) = decide (a = b) := by
  rw [Bool.eq_iff_iff]; simp
theorem S_app (a b : List Nat) : S a ++ S b = S (a ++ b) := by
  show Str.append (S a) (S b) = _
  simp [S, Str.append]
theorem S_get (l : List Nat) (i : Nat) : (S l).cps[i]? = l[i]? := by simp [S]
theorem S_toList (l : List Nat) : (S l).cps.toList = l := by simp [S]
theorem S_of (y : Str) : S y.cps.toList = y := by simp [S]
noncomputable def cutL {α : Type} (l : List α) (lo hi : Option Int) : List α := (l.drop (kms_lo lo l.length)).take (kms_hi hi l.length - kms_lo lo l.length)
theorem pick_eq (vs : List Value) (lo hi : Option Int) : pick vs lo hi none = cutL vs lo hi := by
  unfold pick
  rw [kms_pick_eq]
  rfl
theorem cut_map {α β : Type} (f : α → β) (l : List α) (lo hi : Option Int) : cutL (l.map f) lo hi = (cutL l lo hi).map f := by
  unfold cutL; simp [List.map_take, List.map_drop]
theorem cut_length_le {α : Type} (l : List α) (lo hi : Option Int) : (cutL l lo hi).length ≤ l.length := by
  unfold cutL; simp; (first | lia | omega)
theorem run_filterMap {α : Type} (l : List α) (a b : Nat) : (sliceRange (a : Int) (b : Int) 1).filterMap (l[·]?) = (l.drop a).take (b - a) := by
  rw [sliceRange_one]
  generalize b - a = n
  clear b
  induction n generalizing a with
  | zero => simp
  | succ n ih =>
    rw [List.range_succ_eq_map, List.map_cons, List.map_map, List.filterMap_cons]
    have e : (List.map ((fun k => a + k) ∘ Nat.succ) (List.range n)) = List.map (fun k => (a + 1) + k) (List.range n) := List.map_congr_left fun k _ => by simp; (first | lia | omega)
    rw [e, ih (a + 1)]
    cases h : l[a]? with
    | none =>
      have := List.getElem?_eq_none_iff.mp h
      simp [h, List.drop_eq_nil_of_le this, List.drop_eq_nil_of_le (Nat.le_succ_of_le this)]
    | some x =>
      obtain ⟨h1, h2⟩ := List.getElem?_eq_some_iff.mp h
      rw [List.drop_eq_getElem_cons h1, List.take_succ_cons, h2]
theorem strIdx (lo hi : Option Int) (n : Nat) : Builtin.Str.strSliceIndices lo hi 1 n = sliceRange (kms_lo lo n) (kms_hi hi n) 1 := by
  have h := kms_bounds lo hi n
  have h1 := congrArg (·.1) h
  have h2 := congrArg (·.2.1) h
  simp only at h1 h2
  rw [← h1, ← h2]
  rfl
theorem slice_eq (l : List Nat) (lo hi : Option Int) : Txt.slice (S l) lo hi = S (cutL l lo hi) := by
  unfold Txt.slice
  rw [S_len, strIdx]
  have key : ((sliceRange (kms_lo lo l.length : Int) (kms_hi hi l.length) 1).filterMap ((S l).cps[·]?)) = cutL l lo hi := by
    have := run_filterMap l (kms_lo lo l.length) (kms_hi hi l.length)
    simp only [S_get]
    exact this
  rw [key]
  split
  · rename_i h
    simp only [Bool.and_eq_true, beq_iff_eq] at h
    have hl := h.2
    rw [sliceRange_one, List.length_map, List.length_range] at hl
    have a1 : kms_hi hi l.length ≤ l.length := by unfold kms_hi; split <;> (try split) <;> (first | lia | omega)
    unfold cutL
    by_cases hz : l.length = 0
    · rw [List.length_eq_zero_iff.mp hz]; simp
    have e0 : kms_lo lo l.length = 0 := by (first | lia | omega)
    have e1 : kms_hi hi l.length = l.length := by (first | lia | omega)
    rw [e0, e1]; simp
  · rfl
theorem item_eq (l : List Nat) (i : Int) {c : Nat} (h : (seqIndex? i l.length).bind (l[·]?) = some c) : Txt.item (S l) i = S [c] := by
  unfold Txt.item Txt.charAt
  rw [S_len]
  simp only [S_get]
  rw [h]; rfl
theorem item_nat (l : List Nat) (k : Nat) {c : Nat} (h : l[k]? = some c) : Txt.item (S l) k = S [c] := by
  refine item_eq l k ?_
  have hk := (List.getElem?_eq_some_iff.mp h).1
  unfold seqIndex?
  have : ¬ ((k : Int) < 0) := by (first | lia | omega)
  simp only [this, if_false]
  simp [hk]
  exact (List.getElem?_eq_some_iff.mp h).2
theorem item_last (l : List Nat) {c : Nat} (h : l.getLast? = some c) : Txt.item (S l) (-1) = S [c] := by
  refine item_eq l _ ?_
  rw [List.getLast?_eq_getElem?] at h
  have hk := (List.getElem?_eq_some_iff.mp h).1
  unfold seqIndex?
  simp only [show (-1 : Int) < 0 by decide, if_true]
  have e : (-1 + (l.length : Int)).toNat = l.length - 1 := by (first | lia | omega)
  rw [if_pos (by simp; (first | lia | omega))]
  simp [e, h]
theorem has_one (l : List Nat) (c : Nat) : (!(Builtin.Str.occurrences (S l) (S [c]) 0 (S l).length 1).isEmpty) = l.contains c := by
  have := StrLaws.found_one (S l) c
  rw [show (⟨#[c]⟩ : Str) = S [c] from rfl] at this
  rw [this, S_toList, Bool.eq_iff_iff]; simp
noncomputable def joinL (sep : List Nat) : List (List Nat) → List Nat
  | [] => []
  | x :: rest => x ++ (rest.map (sep ++ ·)).flatten
theorem join_eq (sep : List Nat) (ls : List (List Nat)) : Txt.join (S sep) (ls.map S) = S (joinL sep ls) := by
  unfold Txt.join Builtin.Str.glued
  cases ls with
  | nil => rfl
  | cons x rest =>
    simp only [List.map_cons, List.drop_one, List.tail_cons, List.headD_cons, joinL]
    have key : ∀ (rest : List (List Nat)) (a : List Nat), (rest.map S).foldl (fun acc p => acc ++ (S sep).cps ++ p.cps) a.toArray = (a ++ (rest.map (sep ++ ·)).flatten).toArray := fun rest => by
      induction rest with
      | nil => intro a; simp
      | cons y r ih =>
        intro a
        rw [List.map_cons, List.foldl_cons]
        have e : a.toArray ++ (S sep).cps ++ (S y).cps = (a ++ sep ++ y).toArray := by simp [S]
        rw [e, ih]; simp
    have := key rest x
    unfold S at this ⊢
    rw [this]
theorem joinL_nil (ls : List (List Nat)) : joinL [] ls = ls.flatten := by
  cases ls with
  | nil => rfl
  | cons x rest => simp [joinL]
end
section
set_option maxRecDepth 100000
open PySem PySem.W PyProof.Rows PySem.Calls
noncomputable def drOf (st : Stmt) : DefRec := match st with
  | .FunctionDef name args b _ _ _ scope _ _ pos => ⟨name, args, b, scope, pos⟩
  | _ => ⟨"", ⟨[], [], none, [], [], none, []⟩, [], { kind := .function, names := [], isGenerator := false, isCoroutine := false, more := [] }, ⟨0, 0, 0, 0⟩⟩
noncomputable def stAt (n : Nat) : Stmt := PySem.Challenge.pw_kt0025_01.main.body.getD n (.Pass ⟨0, 0, 0, 0⟩)
noncomputable def dDedup : DefRec := drOf (stAt 2)
noncomputable def dCmp : DefRec := drOf (stAt 3)
noncomputable def dTr : DefRec := drOf (stAt 6)
noncomputable def dEsc : DefRec := drOf (stAt 9)
noncomputable def dTr_ : DefRec := drOf (stAt 11)
noncomputable def dJoin : DefRec := drOf (stAt 12)
noncomputable def dSld : DefRec := drOf (stAt 14)
noncomputable def dUld : DefRec := drOf (stAt 15)
noncomputable def dSpell : DefRec := drOf (stAt 17)
noncomputable def dRead : DefRec := drOf (stAt 18)
noncomputable def dTakes : DefRec := drOf (stAt 19)
noncomputable def dFits : DefRec := drOf (stAt 20)
noncomputable def dDress : DefRec := drOf (stAt 21)
noncomputable def dCount : DefRec := drOf (stAt 22)
noncomputable def dLaw : DefRec := drOf (stAt 23)
noncomputable def dAll : List DefRec := [dDedup, dCmp, dTr, dEsc, dTr_, dJoin, dSld, dUld, dSpell, dRead, dTakes, dFits, dDress, dCount, dLaw]
end
section
set_option maxRecDepth 100000
set_option maxHeartbeats 8000000
open PySem PySem.W PyProof.Rows PySem.Calls
/-! the head: the top's run in the kernel, once for each choice of the world's two rows -/
noncomputable def pP : Program := PySem.Challenge.rw_kt0025_01.prog
noncomputable def qV : Program := { pP with main := { pP.main with body := [0,2,3,5,6,8,9,11,12,14,15,17,18,19,20,21,22,23].filterMap fun i => pP.main.body[i]? } }
noncomputable def looseV : List Str := [Str.ofString "_twin_re_1", Str.ofString "_special_chars_map"]
/-- what lies at six places when the top is done -/
noncomputable def kTop (P : Params) : Frag := [
  (2, { cls := Value.none, data := Data.dict #[{ hash := PyData.keyHash P (Str.ofString "\x69mport.loaded._sre"), key := Value.str (Str.ofString "\x69mport.loaded._sre") 183, val := Value.bool true }, { hash := PyData.keyHash P (Str.ofString "class._frozen_importlib.BuiltinImporter"), key := Value.str (Str.ofString "class._frozen_importlib.BuiltinImporter") 185, val := Value.ref 14 }, { hash := PyData.keyHash P (Str.ofString "watched.\x69mport"), key := Value.str (Str.ofString "watched.\x69mport") 206, val := Value.ref 18 }, { hash := PyData.keyHash P (Str.ofString "class._frozen_importlib.ModuleSpec"), key := Value.str (Str.ofString "class._frozen_importlib.ModuleSpec") 216, val := Value.ref 22 }, { hash := PyData.keyHash P (Str.ofString "sys.modules.booked-epoch"), key := Value.str (Str.ofString "sys.modules.booked-epoch") 245, val := Value.int 3 0 }, { hash := PyData.keyHash P (Str.ofString "\x69mport.later-laid._sre"), key := Value.str (Str.ofString "\x69mport.later-laid._sre") 270, val := Value.bool true }, { hash := PyData.keyHash P (Str.ofString "watched.library"), key := Value.str (Str.ofString "watched.library") 272, val := Value.ref 27 }, { hash := PyData.keyHash P (Str.ofString "watched.library-objects"), key := Value.str (Str.ofString "watched.library-objects") 0, val := Value.str (Str.ofString "\x0c") 0 }, { hash := PyData.keyHash P (Str.ofString "watched.library-deep._sre"), key := Value.str (Str.ofString "watched.library-deep._sre") 273, val := Value.str (Str.ofString "\x04\x00\x00\x0b\x04\x00\x00\x0b\x04\x00\x00\x03\x04\x00\x00\x0b\x08\x04dict\x02") 0 }] 9 }),
  (3, { cls := Value.type "dict", data := Data.dict #[{ hash := PyData.keyHash P (Str.ofString "__name__"), key := Value.str (Str.ofString "__name__") 165, val := Value.str (Str.ofString "law_kt0025_01") 569 }, { hash := PyData.keyHash P (Str.ofString "__doc__"), key := Value.str (Str.ofString "__doc__") 166, val := Value.none }, { hash := PyData.keyHash P (Str.ofString "__package__"), key := Value.str (Str.ofString "__package__") 167, val := Value.none }, { hash := PyData.keyHash P (Str.ofString "__loader__"), key := Value.str (Str.ofString "__loader__") 168, val := Value.builtin "__main__.__loader__#opaque" }, { hash := PyData.keyHash P (Str.ofString "__spec__"), key := Value.str (Str.ofString "__spec__") 169, val := Value.none }, { hash := PyData.keyHash P (Str.ofString "__annotations__"), key := Value.str (Str.ofString "__annotations__") 170, val := Value.ref 6 }, { hash := PyData.keyHash P (Str.ofString "__builtins__"), key := Value.str (Str.ofString "__builtins__") 171, val := Value.ref 4 }, { hash := PyData.keyHash P (Str.ofString "__file__"), key := Value.str (Str.ofString "__file__") 173, val := Value.str (Str.ofString "/claim/cut.py") 172 }, { hash := PyData.keyHash P (Str.ofString "__cached__"), key := Value.str (Str.ofString "__cached__") 174, val := Value.none }, { hash := PyData.keyHash P (Str.ofString "_sre"), key := Value.str (Str.ofString "_sre") 275, val := Value.ref 12 }, { hash := PyData.keyHash P (Str.ofString "_deduplicate_unhashable"), key := Value.str (Str.ofString "_deduplicate_unhashable") 292, val := Value.ref 38 }, { hash := PyData.keyHash P (Str.ofString "_compare_args_orderless"), key := Value.str (Str.ofString "_compare_args_orderless") 304, val := Value.ref 45 }, { hash := PyData.keyHash P (Str.ofString "_twin_re_1"), key := Value.str (Str.ofString "_twin_re_1") 344, val := Value.ref 50 }, { hash := PyData.keyHash P (Str.ofString "translate"), key := Value.str (Str.ofString "translate") 353, val := Value.ref 57 }, { hash := PyData.keyHash P (Str.ofString "_special_chars_map"), key := Value.str (Str.ofString "_special_chars_map") 501, val := Value.ref 59 }, { hash := PyData.keyHash P (Str.ofString "escape"), key := Value.str (Str.ofString "escape") 508, val := Value.ref 69 }, { hash := PyData.keyHash P (Str.ofString "_translate"), key := Value.str (Str.ofString "_translate") 529, val := Value.ref 76 }, { hash := PyData.keyHash P (Str.ofString "_join_translated_parts"), key := Value.str (Str.ofString "_join_translated_parts") 542, val := Value.ref 83 }, { hash := PyData.keyHash P (Str.ofString "sorted_list_difference"), key := Value.str (Str.ofString "sorted_list_difference") 558, val := Value.ref 90 }, { hash := PyData.keyHash P (Str.ofString "unorderable_list_difference"), key := Value.str (Str.ofString "unorderable_list_difference") 568, val := Value.ref 97 }, { hash := PyData.keyHash P (Str.ofString "_law_spell"), key := Value.str (Str.ofString "_law_spell") 576, val := Value.ref 102 }, { hash := PyData.keyHash P (Str.ofString "_law_read"), key := Value.str (Str.ofString "_law_read") 582, val := Value.ref 107 }, { hash := PyData.keyHash P (Str.ofString "_law_takes"), key := Value.str (Str.ofString "_law_takes") 593, val := Value.ref 114 }, { hash := PyData.keyHash P (Str.ofString "_law_fits"), key := Value.str (Str.ofString "_law_fits") 602, val := Value.ref 121 }, { hash := PyData.keyHash P (Str.ofString "_law_dress"), key := Value.str (Str.ofString "_law_dress") 619, val := Value.ref 128 }, { hash := PyData.keyHash P (Str.ofString "_law_count"), key := Value.str (Str.ofString "_law_count") 634, val := Value.ref 135 }, { hash := PyData.keyHash P (Str.ofString "law"), key := Value.str (Str.ofString "law") 640, val := Value.ref 140 }] 27 }),
  (49, { cls := Value.type "tuple", data := Data.seq #[Value.int 14 0, Value.int 14 0, Value.int 4 0, Value.int 1 0, Value.int 1 0, Value.int 9 0, Value.int 0 0, Value.int 64 0, Value.int 0 0, Value.int 1342177280 0, Value.int 0 0, Value.int 0 0, Value.int 0 0, Value.int 0 0, Value.int 0 0, Value.int 17 0, Value.int 0 0, Value.int 13 0, Value.int 11 0, Value.int 9 0, Value.int 0 0, Value.int 64 0, Value.int 0 0, Value.int 1342177280 0, Value.int 0 0, Value.int 0 0, Value.int 0 0, Value.int 0 0, Value.int 0 0, Value.int 17 0, Value.int 1 0, Value.int 1 0] }),
  (50, { cls := Value.type "re.Pattern", data := Data.fields #[Value.str (Str.ofString "([&~|])") 308, Value.int 32 343, Value.int 1 0, Value.none, Value.none, Value.ref 49, Value.int 0 0] }),
  (59, { cls := Value.type "dict", data := Data.dict #[{ hash := 40, key := Value.int 40 357, val := Value.str (Str.ofString "\\(") 361 }, { hash := 41, key := Value.int 41 363, val := Value.str (Str.ofString "\\)") 367 }, { hash := 91, key := Value.int 91 369, val := Value.str (Str.ofString "\\[") 373 }, { hash := 93, key := Value.int 93 375, val := Value.str (Str.ofString "\\]") 379 }, { hash := 123, key := Value.int 123 381, val := Value.str (Str.ofString "\\{") 385 }, { hash := 125, key := Value.int 125 387, val := Value.str (Str.ofString "\\}") 391 }, { hash := 63, key := Value.int 63 393, val := Value.str (Str.ofString "\\?") 397 }, { hash := 42, key := Value.int 42 399, val := Value.str (Str.ofString "\\*") 403 }, { hash := 43, key := Value.int 43 405, val := Value.str (Str.ofString "\\+") 409 }, { hash := 45, key := Value.int 45 411, val := Value.str (Str.ofString "\\-") 415 }, { hash := 124, key := Value.int 124 417, val := Value.str (Str.ofString "\\|") 421 }, { hash := 94, key := Value.int 94 423, val := Value.str (Str.ofString "\\^") 427 }, { hash := 36, key := Value.int 36 429, val := Value.str (Str.ofString "\\$") 433 }, { hash := 92, key := Value.int 92 435, val := Value.str (Str.ofString "\\\\") 439 }, { hash := 46, key := Value.int 46 441, val := Value.str (Str.ofString "\\.") 445 }, { hash := 38, key := Value.int 38 447, val := Value.str (Str.ofString "\\&") 451 }, { hash := 126, key := Value.int 126 453, val := Value.str (Str.ofString "\\~") 457 }, { hash := 35, key := Value.int 35 459, val := Value.str (Str.ofString "\\#") 463 }, { hash := 32, key := Value.int 32 465, val := Value.str (Str.ofString "\\ ") 469 }, { hash := 9, key := Value.int 9 471, val := Value.str (Str.ofString "\\\t") 475 }, { hash := 10, key := Value.int 10 477, val := Value.str (Str.ofString "\\\n") 481 }, { hash := 13, key := Value.int 13 483, val := Value.str (Str.ofString "\\\x0d") 487 }, { hash := 11, key := Value.int 11 489, val := Value.str (Str.ofString "\\\x0b") 493 }, { hash := 12, key := Value.int 12 495, val := Value.str (Str.ofString "\\\x0c") 499 }] 24 }),
  (75, { cls := Value.type "code", data := Data.fields #[Value.str (Str.ofString "_translate") 511, Value.str (Str.ofString "_translate") 512, Value.str (Str.ofString "/claim/cut.py") 513, Value.int 34 0, Value.int 3 0, Value.int 0 0, Value.int 0 0, Value.int 3 0, Value.ref 70, Value.bool true, Value.int 276 0, Value.ref 71, Value.none, Value.ref 72, Value.ref 73, Value.ref 74, Value.int 527 0, Value.int 34 0, Value.str (Str.ofString "/claim/cut.py") 528] })]
noncomputable def code75 (h : Heap) : Bool := match h.get? 76 with
  | some o => (match o.data with
    | .func fd => (match fd.code with
      | .ref a => Nat.beq a 75
      | _ => false)
    | _ => false)
  | none => false
noncomputable def codeOf (o : Obj) : Value := match o.data with
  | .func fd => fd.code
  | _ => .none
theorem code75_of {h : Heap} (x : code75 h = true) : ∃ o, h.get? 76 = some o ∧ codeOf o = .ref 75 := by
  unfold code75 at x
  split at x
  · rename_i o ho
    refine ⟨o, ho, ?_⟩
    unfold codeOf
    split at x
    · split at x
      · rename_i hc
        rw [hc, Nat.eq_of_beq_eq_true x]
      · cases x
    · cases x
  · cases x
theorem code75_keeps {h h' : Heap} (x : code75 h = true) (k : ∀ b o, h.get? b = some o → h'.get? b = some o) : code75 h' = true := by
  obtain ⟨o, ho, _⟩ := code75_of x
  unfold code75 at x ⊢
  rw [ho] at x
  rw [k _ _ ho]; exact x
noncomputable def kHk : Hook := kmHook kTop [2, 3, 49, 50, 59, 75] (fun _ => rfl) [71]
noncomputable def hookV : Hook where
  α := kHk.α × Bool
  obs := fun s => (kHk.obs s, code75 s.heap)
  val := fun w => (kHk.val w, true)
  says := fun w h => kHk.says w h ∧ code75 h = true
  of := fun w s x => ⟨kHk.of w s (Prod.mk.inj x).1, (Prod.mk.inj x).2⟩
  keeps := fun w h h' x k => ⟨kHk.keeps w h h' x.1 k, code75_keeps x.2 k⟩
abbrev LeftAt (w : World) : Prop :=
  (openEnds treeTable pP w 3900).map (fun s => (openSeen qV looseV (importedModules pP.main.body) (fun s => xlAt qV [] s && recOk (RowW.records PySem.Challenge.rw_kt0025_01.row.toRowW) s) true s, hookV.obs s)) = some (openGood qV looseV, hookV.val w)
theorem left_ff (w : World) : LeftAt ((w.withFollow "comprehension-iter-twice" false).withFollow "special-get-raises" false) := by
  unfold LeftAt openEnds fencedOpening topFrom
  rw [PySem.W.Fast.te4187177175401517315, PySem.W.Fast.te14082659384304107361, PySem.W.Fast.te10274390034422433532, PySem.W.Fast.te14364793385576792824]
  kernel_rfl
theorem left_ft (w : World) : LeftAt ((w.withFollow "comprehension-iter-twice" false).withFollow "special-get-raises" true) := by
  unfold LeftAt openEnds fencedOpening topFrom
  rw [PySem.W.Fast.te4187177175401517315, PySem.W.Fast.te14082659384304107361, PySem.W.Fast.te10274390034422433532, PySem.W.Fast.te14364793385576792824]
  kernel_rfl
theorem left_tf (w : World) : LeftAt ((w.withFollow "comprehension-iter-twice" true).withFollow "special-get-raises" false) := by
  unfold LeftAt openEnds fencedOpening topFrom
  rw [PySem.W.Fast.te4187177175401517315, PySem.W.Fast.te14082659384304107361, PySem.W.Fast.te10274390034422433532, PySem.W.Fast.te14364793385576792824]
  kernel_rfl
theorem left_tt (w : World) : LeftAt ((w.withFollow "comprehension-iter-twice" true).withFollow "special-get-raises" true) := by
  unfold LeftAt openEnds fencedOpening topFrom
  rw [PySem.W.Fast.te4187177175401517315, PySem.W.Fast.te14082659384304107361, PySem.W.Fast.te10274390034422433532, PySem.W.Fast.te14364793385576792824]
  kernel_rfl
theorem left_at (w : World) : LeftAt w :=
  byRow2 "special-get-raises" (P := LeftAt)
    (fun w => by
      refine byRow2 "comprehension-iter-twice" (P := fun w => LeftAt (w.withFollow "special-get-raises" false)) (fun w => left_ff w) (fun w => left_tf w) w)
    (fun w => by
      refine byRow2 "comprehension-iter-twice" (P := fun w => LeftAt (w.withFollow "special-get-raises" true)) (fun w => left_ft w) (fun w => left_tt w) w) w
theorem said_all : PySem.Challenge.rw_kt0025_01.wellSaid = true := by kernel_rfl
end
section
set_option maxRecDepth 100000
open PySem PySem.W PyProof.Rows PySem.Calls
noncomputable def okN (k : NameKind) (env : Env) (x : Str) : Bool := env.scope.kind == .function && env.kindOf x == some k && !(x == ("__debug__" : Str)) && !(x == ("__classdict__" : Str))
theorem okN_parts {k : NameKind} {env : Env} {x : Str} (h : okN k env x = true) : env.scope.kind = .function ∧ env.kindOf x = some k ∧ (x == ("__debug__" : Str)) = false ∧ (x == ("__classdict__" : Str)) = false := by
  unfold okN at h
  simp only [Bool.and_eq_true, Bool.not_eq_true', beq_iff_eq] at h
  exact ⟨h.1.1.1, h.1.1.2, h.1.2, h.2⟩
section
variable {ds : List DefRec} {mg mb : Str → Option Value} {prog : Program} {w : World} {A : Around} {E : Value → Shared → Prop} {s₀ s : Shared} {T T' : Tab} {env : Env} {x : Str} {pos : Pos} {v : Value} {a : Addr}
theorem nL {l} {Q : Value → Shared → Prop} (c : Cx s₀ s T) (ok : okN .local env x = true) (hT : (env.locals, Rs.ns l) ∈ T) (hv : (x, some v) ∈ l) (h : Q v s) : wpAny (model prog w) A (eval (.Name x pos) env) Q E s :=
  let ⟨a, b, d, _⟩ := okN_parts ok; nameL c a b d hT hv h
theorem nC {Q : Value → Shared → Prop} (c : Cx s₀ s T) (ok : okN .cell env x = true) (hc : env.cells.lookup x = some a) (hT : (a, Rs.cell (some v)) ∈ T) (h : Q v s) : wpAny (model prog w) A (eval (.Name x pos) env) Q E s :=
  let ⟨b, e, d, _⟩ := okN_parts ok; nameC c b e d hc hT h
theorem nG {Q : Value → Shared → Prop} (c : Cx s₀ s T) (G : Gl ds mg mb s₀.heap) (ok : okN .globalImplicit env x = true) (hg : env.globals = mainGlobals) (hv : mg x = some v) (h : Q v s) : wpAny (model prog w) A (eval (.Name x pos) env) Q E s :=
  let ⟨b, e, d, _⟩ := okN_parts ok; nameG c G b hg e d hv h
theorem nB {Q : Value → Shared → Prop} (c : Cx s₀ s T) (G : Gl ds mg mb s₀.heap) (ok : okN .globalImplicit env x = true) (hg : env.globals = mainGlobals) (hb : env.builtins = builtinsNs) (hv : (x, v) ∈ bTab) (h : Q v s) : wpAny (model prog w) A (eval (.Name x pos) env) Q E s :=
  let ⟨b, e, d, _⟩ := okN_parts ok; nameB c G b hg hb e d hv h
theorem lL {l} {Q : Value → Shared → Prop} (c : Cx s₀ s T) (ok : okN .local env x = true) (hT : (env.locals, Rs.ns l) ∈ T) (hv : (x, some v) ∈ l) (h : Q v s) : wpAny (model prog w) A (loadName env x) Q E s :=
  let ⟨a, b, _, _⟩ := okN_parts ok; loadL c a b hT hv h
theorem lC {Q : Value → Shared → Prop} (c : Cx s₀ s T) (ok : okN .cell env x = true) (hc : env.cells.lookup x = some a) (hT : (a, Rs.cell (some v)) ∈ T) (h : Q v s) : wpAny (model prog w) A (loadName env x) Q E s :=
  let ⟨b, e, _, _⟩ := okN_parts ok; loadC c b e hc hT h
theorem sL {l l'} {Q : Unit → Shared → Prop} (c : Cx s₀ s T) (ok : okN .local env x = true) (hT : (env.locals, Rs.ns l) ∈ T) (hv : PutV x v l l') (hp : Put env.locals (Rs.ns l') T T') (h : ∀ s', Cx s₀ s' T' → Q () s') : wpAny (model prog w) A (storeName env x v) Q E s :=
  let ⟨a, b, _, _⟩ := okN_parts ok; storeL c a b hT hv hp h
theorem sC {v₀ : Option Value} {Q : Unit → Shared → Prop} (c : Cx s₀ s T) (ok : okN .cell env x = true) (hc : env.cells.lookup x = some a) (hT : (a, Rs.cell v₀) ∈ T) (hp : Put a (Rs.cell (some v)) T T') (h : ∀ s', Cx s₀ s' T' → Q () s') : wpAny (model prog w) A (storeName env x v) Q E s :=
  let ⟨b, e, _, _⟩ := okN_parts ok; storeC c b e hc hT hp h
theorem cwFn {d : DefRec} {f : Addr} {e : Expr} {rest : List Expr} {Q : Value → Shared → Prop} (F : FnAt s₀.heap d f)
    (h : wpAny (model prog w) A (spliced (backTo pos (starEach (e :: rest) env))) (fun vs s₁ => (∀ b o, s₀.heap.get? b = some o → s₁.heap.get? b = some o) ∧ wpAny (model prog w) A (call (.ref f) vs) Q E s₁) E s)
    (he : starEach (e :: rest) env = (false, eval e env) :: starEach rest env := by rfl) :
    wpAny (model prog w) A (callWith pos (.ref f) [] (backTo pos (starEach (e :: rest) env)) []) Q E s := by
  obtain ⟨o, pm, code, doc, ho, hd, _⟩ := F.ex
  refine callWith_function (o := o) (fd := docDef d.name d.params d.body d.scope pm code doc) ?_
  rw [he] at h ⊢
  exact evalArgs_plain (wpAny_mono h (fun vs s₁ h₁ => ⟨⟨h₁.1 _ _ ho, hd⟩, h₁.2⟩) fun _ _ e => e)
end
section
variable {prog : Program} {w : World} {A : Around} {E : Value → Shared → Prop} {s₀ s : Shared} {T T' : Tab} {a : Addr} {v : Value}
theorem oItem {value slice : Expr} {y : List Nat} {t : Tok} {i : Int} {u : Tok} {Q : Value → Shared → Prop} (c : Cx s₀ s T) (k : Nat) (hi : i = k) {ch : Nat} (hc : y[k]? = some ch) (hz : y.length ≤ sizeLine)
    (hs : subscripted slice false (.str (S y) t) (.int i u) = operate [.str (S y) t, .int i u] (getItem (.str (S y) t) (.int i u))) (ht : ∀ r, letTemporaryGo value (.str (S y) t) r = pure ())
    (h : ∀ t s', Cx s₀ s' T → Q (.str (S [ch]) t) s') : wpAny (model prog w) A (subscriptTail value slice (.str (S y) t) (.int i u)) Q E s := by
  have hk := (List.getElem?_eq_some_iff.mp hc).1
  subst hi
  refine oItemS c (by simpa using hz) (by (first | lia | omega)) (by simpa using hk) hs ht ?_
  rw [item_nat y k hc]; exact h
theorem oItemLast {value slice : Expr} {y : List Nat} {t : Tok} {u : Tok} {Q : Value → Shared → Prop} (c : Cx s₀ s T) {ch : Nat} (hc : y.getLast? = some ch) (hz : y.length ≤ sizeLine)
    (hs : subscripted slice false (.str (S y) t) (.int (-1) u) = operate [.str (S y) t, .int (-1) u] (getItem (.str (S y) t) (.int (-1) u))) (ht : ∀ r, letTemporaryGo value (.str (S y) t) r = pure ())
    (h : ∀ t s', Cx s₀ s' T → Q (.str (S [ch]) t) s') : wpAny (model prog w) A (subscriptTail value slice (.str (S y) t) (.int (-1) u)) Q E s := by
  have hk : y ≠ [] := fun e => by rw [e] at hc; cases hc
  have hk' := List.length_pos_iff.mpr hk
  refine oItemS c (by simpa using hz) (by simp; (first | lia | omega)) (by simp; (first | lia | omega)) hs ht ?_
  rw [item_last y hc]; exact h
theorem oCutSN {value slice : Expr} {y : List Nat} {t : Tok} {i : Int} {u : Tok} {Q : Value → Shared → Prop} (c : Cx s₀ s T) (hz : y.length ≤ sizeLine)
    (hs : subscripted slice false (.str (S y) t) (.ref s.heap.objs.size) = operate [.ref s.heap.objs.size, .str (S y) t] (getItem (.str (S y) t) (.ref s.heap.objs.size))) (ht : ∀ r, letTemporaryGo value (.str (S y) t) r = pure ())
    (h : ∀ t s', Cx s₀ s' T → Q (.str (S (cutL y (some i) none)) t) s') :
    wpAny (model prog w) A (subscriptTail value slice (.str (S y) t) (.ref s.heap.objs.size)) Q E { s with heap := s.heap.push { cls := .type "slice", data := .fields #[.int i u, .none, .none] } } :=
  oSliSN c (by simpa using hz) hs ht (by rw [slice_eq]; exact h)
theorem oCutNS {value slice : Expr} {y : List Nat} {t : Tok} {i : Int} {u : Tok} {Q : Value → Shared → Prop} (c : Cx s₀ s T) (hz : y.length ≤ sizeLine)
    (hs : subscripted slice false (.str (S y) t) (.ref s.heap.objs.size) = operate [.ref s.heap.objs.size, .str (S y) t] (getItem (.str (S y) t) (.ref s.heap.objs.size))) (ht : ∀ r, letTemporaryGo value (.str (S y) t) r = pure ())
    (h : ∀ t s', Cx s₀ s' T → Q (.str (S (cutL y none (some i))) t) s') :
    wpAny (model prog w) A (subscriptTail value slice (.str (S y) t) (.ref s.heap.objs.size)) Q E { s with heap := s.heap.push { cls := .type "slice", data := .fields #[.none, .int i u, .none] } } :=
  oSliNS c (by simpa using hz) hs ht (by rw [slice_eq]; exact h)
theorem oCutSS {value slice : Expr} {y : List Nat} {t : Tok} {i j : Int} {u v : Tok} {Q : Value → Shared → Prop} (c : Cx s₀ s T) (hz : y.length ≤ sizeLine)
    (hs : subscripted slice false (.str (S y) t) (.ref s.heap.objs.size) = operate [.ref s.heap.objs.size, .str (S y) t] (getItem (.str (S y) t) (.ref s.heap.objs.size))) (ht : ∀ r, letTemporaryGo value (.str (S y) t) r = pure ())
    (h : ∀ t s', Cx s₀ s' T → Q (.str (S (cutL y (some i) (some j))) t) s') :
    wpAny (model prog w) A (subscriptTail value slice (.str (S y) t) (.ref s.heap.objs.size)) Q E { s with heap := s.heap.push { cls := .type "slice", data := .fields #[.int i u, .int j v, .none] } } :=
  oSliSS c (by simpa using hz) hs ht (by rw [slice_eq]; exact h)
theorem oCutL {value slice : Expr} {vs : List Value} {vl vu : Value} {lo hi : Option Int} {Q : Value → Shared → Prop} (c : Cx s₀ s T) (hl : LstAt s.heap a vs) (pl : IsPart vl lo) (pu : IsPart vu hi)
    (hz : vs.length ≤ sizeLine) (hs : subscripted slice false (.ref a) (.ref s.heap.objs.size) = operate [.ref s.heap.objs.size, .ref a] (getItem (.ref a) (.ref s.heap.objs.size))) (ht : ∀ r, letTemporaryGo value (.ref a) r = pure ())
    (h : ∀ b s', Cx s₀ s' ((b, .lst (cutL vs lo hi)) :: T) → Q (.ref b) s') :
    wpAny (model prog w) A (subscriptTail value slice (.ref a) (.ref s.heap.objs.size)) Q E { s with heap := s.heap.push { cls := .type "slice", data := .fields #[vl, vu, .none] } } :=
  oSliL c hl pl pu .none (by simp) hz hs ht (by rw [pick_eq]; exact h)
theorem inS1 {y : List Nat} {ch : Nat} {t u : Tok} {Q : Value → Shared → Prop} (h : Q (.bool (y.contains ch)) s) : wpAny (model prog w) A (compareOp .In (.str (S [ch]) u) (.str (S y) t)) Q E s :=
  in_str (by rw [has_one]; exact h)
theorem notInS1 {y : List Nat} {ch : Nat} {t u : Tok} {Q : Value → Shared → Prop} (h : Q (.bool (!y.contains ch)) s) : wpAny (model prog w) A (compareOp .NotIn (.str (S [ch]) u) (.str (S y) t)) Q E s :=
  PyProof.Rows.notIn_str (by rw [has_one]; exact h)
end
/-! what is left of a block, under a name -/
noncomputable def Seq (M : Model) (A : Around) (rest : List Stmt) (env : Env) (Q : Flow → Shared → Prop) (E : Value → Shared → Prop) (Q' : Flow → Shared → Prop) : Prop :=
  ∀ f s, (match f with | .next => wpAny M A (execs rest env) Q E s | f => Q f s) → Q' f s
section
variable {M : Model} {A : Around} {st : Stmt} {rest : List Stmt} {env : Env} {Q Q' : Flow → Shared → Prop} {E : Value → Shared → Prop} {s : Shared}
theorem seqCons (h : ∀ Q', Seq M A rest env Q E Q' → wpAny M A (exec st env) Q' E s) : wpAny M A (execs (st :: rest) env) Q E s := wpAny_execs_cons (h _ fun _ _ x => x)
theorem seqNext (h : Seq M A rest env Q E Q') (x : wpAny M A (execs rest env) Q E s) : Q' .next s := h _ _ x
theorem seqRet {v : Value} (h : Seq M A rest env Q E Q') (x : Q (.ret v) s) : Q' (.ret v) s := h _ _ x
theorem seqBrk (h : Seq M A rest env Q E Q') (x : Q .brk s) : Q' .brk s := h _ _ x
end
inductive Ex2 {α0 α1 : Type} (p : α0 → α1 → Prop) : Prop
  | mk (x0 : α0) (x1 : α1) (h : p x0 x1) : Ex2 p
inductive Ex3 {α0 α1 α2 : Type} (p : α0 → α1 → α2 → Prop) : Prop
  | mk (x0 : α0) (x1 : α1) (x2 : α2) (h : p x0 x1 x2) : Ex3 p
inductive Ex4 {α0 α1 α2 α3 : Type} (p : α0 → α1 → α2 → α3 → Prop) : Prop
  | mk (x0 : α0) (x1 : α1) (x2 : α2) (x3 : α3) (h : p x0 x1 x2 x3) : Ex4 p
inductive Ex5 {α0 α1 α2 α3 α4 : Type} (p : α0 → α1 → α2 → α3 → α4 → Prop) : Prop
  | mk (x0 : α0) (x1 : α1) (x2 : α2) (x3 : α3) (x4 : α4) (h : p x0 x1 x2 x3 x4) : Ex5 p
inductive Ex6 {α0 α1 α2 α3 α4 α5 : Type} (p : α0 → α1 → α2 → α3 → α4 → α5 → Prop) : Prop
  | mk (x0 : α0) (x1 : α1) (x2 : α2) (x3 : α3) (x4 : α4) (x5 : α5) (h : p x0 x1 x2 x3 x4 x5) : Ex6 p
inductive Ex7 {α0 α1 α2 α3 α4 α5 α6 : Type} (p : α0 → α1 → α2 → α3 → α4 → α5 → α6 → Prop) : Prop
  | mk (x0 : α0) (x1 : α1) (x2 : α2) (x3 : α3) (x4 : α4) (x5 : α5) (x6 : α6) (h : p x0 x1 x2 x3 x4 x5 x6) : Ex7 p
inductive Ex8 {α0 α1 α2 α3 α4 α5 α6 α7 : Type} (p : α0 → α1 → α2 → α3 → α4 → α5 → α6 → α7 → Prop) : Prop
  | mk (x0 : α0) (x1 : α1) (x2 : α2) (x3 : α3) (x4 : α4) (x5 : α5) (x6 : α6) (x7 : α7) (h : p x0 x1 x2 x3 x4 x5 x6 x7) : Ex8 p
inductive Ex9 {α0 α1 α2 α3 α4 α5 α6 α7 α8 : Type} (p : α0 → α1 → α2 → α3 → α4 → α5 → α6 → α7 → α8 → Prop) : Prop
  | mk (x0 : α0) (x1 : α1) (x2 : α2) (x3 : α3) (x4 : α4) (x5 : α5) (x6 : α6) (x7 : α7) (x8 : α8) (h : p x0 x1 x2 x3 x4 x5 x6 x7 x8) : Ex9 p
inductive Ex10 {α0 α1 α2 α3 α4 α5 α6 α7 α8 α9 : Type} (p : α0 → α1 → α2 → α3 → α4 → α5 → α6 → α7 → α8 → α9 → Prop) : Prop
  | mk (x0 : α0) (x1 : α1) (x2 : α2) (x3 : α3) (x4 : α4) (x5 : α5) (x6 : α6) (x7 : α7) (x8 : α8) (x9 : α9) (h : p x0 x1 x2 x3 x4 x5 x6 x7 x8 x9) : Ex10 p
inductive Ex11 {α0 α1 α2 α3 α4 α5 α6 α7 α8 α9 α10 : Type} (p : α0 → α1 → α2 → α3 → α4 → α5 → α6 → α7 → α8 → α9 → α10 → Prop) : Prop
  | mk (x0 : α0) (x1 : α1) (x2 : α2) (x3 : α3) (x4 : α4) (x5 : α5) (x6 : α6) (x7 : α7) (x8 : α8) (x9 : α9) (x10 : α10) (h : p x0 x1 x2 x3 x4 x5 x6 x7 x8 x9 x10) : Ex11 p
structure An3 (a0 a1 a2 : Prop) : Prop where
  h0 : a0
  h1 : a1
  h2 : a2
structure An4 (a0 a1 a2 a3 : Prop) : Prop where
  h0 : a0
  h1 : a1
  h2 : a2
  h3 : a3
structure An5 (a0 a1 a2 a3 a4 : Prop) : Prop where
  h0 : a0
  h1 : a1
  h2 : a2
  h3 : a3
  h4 : a4
structure An6 (a0 a1 a2 a3 a4 a5 : Prop) : Prop where
  h0 : a0
  h1 : a1
  h2 : a2
  h3 : a3
  h4 : a4
  h5 : a5
structure An7 (a0 a1 a2 a3 a4 a5 a6 : Prop) : Prop where
  h0 : a0
  h1 : a1
  h2 : a2
  h3 : a3
  h4 : a4
  h5 : a5
  h6 : a6
structure An8 (a0 a1 a2 a3 a4 a5 a6 a7 : Prop) : Prop where
  h0 : a0
  h1 : a1
  h2 : a2
  h3 : a3
  h4 : a4
  h5 : a5
  h6 : a6
  h7 : a7
structure An9 (a0 a1 a2 a3 a4 a5 a6 a7 a8 : Prop) : Prop where
  h0 : a0
  h1 : a1
  h2 : a2
  h3 : a3
  h4 : a4
  h5 : a5
  h6 : a6
  h7 : a7
  h8 : a8
theorem iteDT {p : Prop} [Decidable p] {P Q : Prop} (h : p) (x : P) : if decide p = true then P else Q := by rw [decide_eq_true h]; exact x
theorem iteDF {p : Prop} [Decidable p] {P Q : Prop} (h : ¬ p) (x : Q) : if decide p = true then P else Q := by rw [decide_eq_false h]; exact x
/-- a def's end, under a name -/
noncomputable def FinQ (Q Q' : Flow → Shared → Prop) : Prop := ∀ f s, Q f s → Q' f s
theorem finRet {Q Q' : Flow → Shared → Prop} {v : Value} {s : Shared} (h : FinQ Q Q') (x : Q (.ret v) s) : Q' (.ret v) s := h _ _ x
theorem finNext {Q Q' : Flow → Shared → Prop} {s : Shared} (h : FinQ Q Q') (x : Q .next s) : Q' .next s := h _ _ x
theorem lfC {C : Shared → Prop} {R : Result → Shared → Prop} {Q' : Flow → Shared → Prop} {G : Prop} (h : LoopFin C R Q') (k : ∀ C', (∀ s, C s → C' s) → LoopFin C' R Q' → G) : G := k C (fun _ x => x) h
theorem ent {M : Model} {A : Around} {m : Sem Flow} {Q : Flow → Shared → Prop} {E : Value → Shared → Prop} {s : Shared}
    (h : ∀ Q' E', FinQ Q Q' → E' = E → wpAny M A m Q' E' s) : wpAny M A m Q E s :=
  h Q E (fun _ _ x => x) rfl
theorem iteT {P Q : Prop} (h : P) : if true = true then P else Q := h
theorem iteF {P Q : Prop} (h : Q) : if false = true then P else Q := h
noncomputable def noStar (e : Expr) : Bool := e.ctorIdx != 22
noncomputable def noStars : List Expr → Bool
  | [] => true
  | e :: r => noStar e && noStars r
theorem starEach_cons {e : Expr} {rest : List Expr} {env : Env} (h : noStar e = true) : starEach (e :: rest) env = (false, eval e env) :: starEach rest env := by
  cases e <;> first | rfl | exact nomatch (show false = true from h)
theorem starEach_any {rest : List Expr} {env : Env} {pos : Pos} (h : noStars rest = true) : (backTo pos (starEach rest env)).any (·.1) = false := by
  induction rest with
  | nil => rfl
  | cons e r ih =>
    simp only [noStars, Bool.and_eq_true] at h
    have e1 := starEach_cons (rest := r) (env := env) h.1
    have ih := ih h.2
    unfold backTo at ih ⊢
    rw [e1]
    simp only [List.map_cons, List.any_cons, Bool.false_or]
    exact ih
noncomputable def plainTest (e : Expr) : Bool := !([0, 3, 5, 15].contains e.ctorIdx)
section
variable {prog : Program} {w : World} {A : Around} {E : Value → Shared → Prop} {s₀ s : Shared} {env : Env} {pos : Pos}
theorem rTest {e : Expr} {whole : Sem Value} {Q : Bool → Shared → Prop} (hp : plainTest e = true) (h : wpAny (model prog w) A whole (fun v s₁ => wpAny (model prog w) A (truthy v) Q E s₁) E s) : wpAny (model prog w) A (isTrue e env whole) Q E s :=
  PyProof.Rows.isTrue_plain h (by cases e <;> first | rfl | exact nomatch (show false = true from hp))
theorem rMore {e : Expr} {rest : List Expr} {Q : List Value → Shared → Prop} (hs : noStar e = true)
    (h : wpAny (model prog w) A (eval e env) (fun v s₁ => wpAny (model prog w) A (spliced (backTo pos (starEach rest env))) (fun vs s₂ => Q (v :: vs) s₂) E s₁) E s) : wpAny (model prog w) A (spliced (backTo pos (starEach (e :: rest) env))) Q E s :=
  args_cons h (starEach_cons hs)
theorem rB1 {id : String} {e : Expr} {rest : List Expr} {Q : Value → Shared → Prop} (hs : noStars (e :: rest) = true)
    (h : wpAny (model prog w) A (spliced (backTo pos (starEach (e :: rest) env))) (fun vs s₁ => wpAny (model prog w) A (call (.builtin id) vs) Q E s₁) E s) :
    wpAny (model prog w) A (callWith pos (.builtin id) [] (backTo pos (starEach (e :: rest) env)) []) Q E s := by
  simp only [noStars, Bool.and_eq_true] at hs
  exact PyProof.Rows.callWith_builtin1 h (starEach_cons hs.1) (starEach_any hs.2)
theorem rM1 {id : String} {first : List Value} {e : Expr} {rest : List Expr} {Q : Value → Shared → Prop} (hs : noStars (e :: rest) = true)
    (h : wpAny (model prog w) A (spliced (backTo pos (starEach (e :: rest) env))) (fun vs s₁ => wpAny (model prog w) A (call (.builtin id) (first ++ vs)) Q E s₁) E s) :
    wpAny (model prog w) A (callWith pos (.builtin id) first (backTo pos (starEach (e :: rest) env)) []) Q E s := by
  simp only [noStars, Bool.and_eq_true] at hs
  exact callWith_method1 h (starEach_cons hs.1) (starEach_any hs.2)
theorem rT1 {T : String} {e : Expr} {rest : List Expr} {Q : Value → Shared → Prop} (hs : noStars (e :: rest) = true)
    (h : wpAny (model prog w) A (spliced (backTo pos (starEach (e :: rest) env))) (fun vs s₁ => wpAny (model prog w) A (call (.type T) vs) Q E s₁) E s) :
    wpAny (model prog w) A (callWith pos (.type T) [] (backTo pos (starEach (e :: rest) env)) []) Q E s := by
  simp only [noStars, Bool.and_eq_true] at hs
  exact PyProof.Rows.callWith_type1 h (starEach_cons hs.1) (starEach_any hs.2)
theorem rFn {d : DefRec} {f : Addr} {e : Expr} {rest : List Expr} {Q : Value → Shared → Prop} (F : FnAt s₀.heap d f) (hs : noStars (e :: rest) = true)
    (h : wpAny (model prog w) A (spliced (backTo pos (starEach (e :: rest) env))) (fun vs s₁ => (∀ b o, s₀.heap.get? b = some o → s₁.heap.get? b = some o) ∧ wpAny (model prog w) A (call (.ref f) vs) Q E s₁) E s) :
    wpAny (model prog w) A (callWith pos (.ref f) [] (backTo pos (starEach (e :: rest) env)) []) Q E s := by
  simp only [noStars, Bool.and_eq_true] at hs
  exact cwFn F h (starEach_cons hs.1)
theorem rCallN {id : Str} {p : Pos} {args : List Expr} {Q : Value → Shared → Prop} (h : wpAny (model prog w) A (eval (.Name id p) env) (fun f s₁ => wpAny (model prog w) A (callWith pos f [] (backTo pos (starEach args env)) []) Q E s₁) E s) :
    wpAny (model prog w) A (eval (.Call (.Name id p) args [] pos) env) Q E s := Call_ h rfl
end
structure Room (A : Around) (k : Nat) : Prop where
  handled : A.handled = none
  depth : A.depth + k < recursionLimit
  units : A.units + 10 * k < cLine
theorem Room.deeper {A : Around} {k : Nat} {env : Env} (h : Room A (k + 1)) : Room (A.deeper env) k := ⟨h.handled, by show A.depth + 1 + k < _; have := h.depth; (first | lia | omega), by show A.units + 3 + 10 * k < _; have := h.units; (first | lia | omega)⟩
theorem Room.le {A : Around} {k j : Nat} (h : Room A k) (hj : j ≤ k) : Room A j := ⟨h.handled, by have := h.depth; (first | lia | omega), by have := h.units; (first | lia | omega)⟩
theorem Room.d {A : Around} {k : Nat} (h : Room A k) : A.depth < recursionLimit := by have := h.depth; (first | lia | omega)
theorem Room.u {A : Around} {k : Nat} (h : Room A k) : A.units < cLine := by have := h.units; (first | lia | omega)
section
variable {prog : Program} {w : World} {A : Around} {E : Value → Shared → Prop} {s₀ s : Shared} {T T' : Tab}
theorem walkR1 {n : Nat} {it : Addr} (hh : A.handled = none) : Walk prog w A s₀ it (fun k => .obj (rIt k ((n : Int) - k) 1)) n (fun k v => ∃ t, v = .int k t) (fun _ => True) := by
  have := walkR (prog := prog) (w := w) (s₀ := s₀) (it := it) (b := 0) (step := 1) (n := n) hh
  simpa using this
theorem rangeSize_one (n : Int) (h : 0 ≤ n) : Builtin.Range.rangeSize 0 n 1 = n := by
  unfold Builtin.Range.rangeSize
  simp only [show (1 : Int) > 0 by decide, if_true]
  split <;> (first | lia | omega)
theorem rangeIter1 {n : Int} {t : Tok} {Q : Value → Shared → Prop} (c : Cx s₀ s T) (h0 : 0 ≤ n) (h1 : n ≤ 16777216) (h : ∀ it s', Cx s₀ s' ((it, .obj (rIt 0 n 1)) :: T) → Q (.ref it) s') :
    wpAny (model prog w) A (call (.type "range") [.int n t]) (fun x s₁ => wpAny (model prog w) A (pyIter x) Q E s₁) E s := by
  refine call_range_1 ?_
  have hs := rangeSize_one n h0
  refine wpAny_pyIter_range (a := 0) (b := n) (c := 1) (t := s.toks) (u := t) (v := s.toks + 1) (Heap.get?_push_size _ rfl) ?_ ?_
  · unfold Builtin.Range.small
    rw [hs]
    simp only [Builtin.Range.rangeFitsLong, Bool.and_eq_true, decide_eq_true_eq, Bool.or_eq_true]
    refine ⟨⟨⟨⟨by decide, by (first | lia | omega)⟩, by decide⟩, by (first | lia | omega)⟩, .inr ?_⟩
    simp only [show (1 : Int) > 0 by decide, if_true]
    simp only [Bool.and_eq_true, decide_eq_true_eq]
    (first | lia | omega)
  · rw [hs]
    have c1 := c.pushG { cls := .type "range", data := .fields #[.int 0 s.toks, .int n t, .int 1 (s.toks + 1)] }
    have c2 := (c1.push (r := .obj (rIt 0 n 1)) (o := rIt 0 n 1) rfl rfl).tok (s.toks + 1 + 1)
    exact h _ _ c2
end
end
set_option hygiene false in
local macro_rules | `(tactic| wtm_at "zz_sz") => `(tactic| (simp only [S_len, sizeLine, List.length_append, List.length_cons, List.length_nil, List.length_map]; (first | lia | omega)))
section
set_option maxRecDepth 100000
open PySem PySem.W PyProof.Rows PySem.Calls
abbrev PW : Program := PySem.Challenge.pw_kt0025_01
/-! the text's written strs -/
theorem q0 : (Str.ofString "") = S [] := by decide +kernel
theorem q1 : (Str.ofString "*?") = S [42, 63] := by decide +kernel
theorem q2 : (Str.ofString "[!") = S [91, 33] := by decide +kernel
theorem q3 : (Str.ofString "]") = S [93] := by decide +kernel
theorem q4 : (Str.ofString "[") = S [91] := by decide +kernel
theorem q5 : (Str.ofString "-") = S [45] := by decide +kernel
theorem q6 : (Str.ofString "?") = S [63] := by decide +kernel
theorem q7 : (Str.ofString "(?s:") = S [40, 63, 115, 58] := by decide +kernel
theorem q8 : (Str.ofString ")\\Z") = S [41, 92, 90] := by decide +kernel
theorem q9 : (Str.ofString "(?>.*?") = S [40, 63, 62, 46, 42, 63] := by decide +kernel
theorem q10 : (Str.ofString ".*") = S [46, 42] := by decide +kernel
theorem q11 : (Str.ofString ")") = S [41] := by decide +kernel
theorem q12 : (Str.ofString ".") = S [46] := by decide +kernel
theorem q13 : (Str.ofString "\\") = S [92] := by decide +kernel
theorem q14 : (Str.ofString "^") = S [94] := by decide +kernel
theorem q15 : (Str.ofString "!") = S [33] := by decide +kernel
theorem q16 : (Str.ofString "*") = S [42] := by decide +kernel
theorem q19 : (Str.ofString "\\\\") = S [92, 92] := by decide +kernel
theorem q21 : (Str.ofString "abc") = S [97, 98, 99] := by decide +kernel
theorem q22 : (Str.ofString "*.?") = S [42, 46, 63] := by decide +kernel
section
variable {prog : Program} {w : World} {A : Around} {E : Value → Shared → Prop} {s₀ s : Shared} {T T' : Tab} {a : Addr} {v : Value} {env : Env} {pos : Pos}
theorem kStrS {y : Str} {l : List Nat} {k : Nat} {Q : Value → Shared → Prop} (hy : y = S l) (c : Cx s₀ s T) (h : ∀ t s', Cx s₀ s' T → Q (.str (S l) t) s') : wpAny (model prog w) A (eval (.Constant (.str y) k pos) env) Q E s :=
  hy ▸ kStr c h
theorem oNeg {i : Int} {t : Tok} {Q : Value → Shared → Prop} (c : Cx s₀ s T) (h : ∀ t s', Cx s₀ s' T → Q (.int (-i) t) s') : wpAny (model prog w) A (unaryOp .USub (.int i t)) Q E s :=
  PyProof.Rows.neg_int (h _ _ (c.tok _))
theorem oEqS {y z : List Nat} {t u : Tok} {Q : Value → Shared → Prop} (h : Q (.bool (decide (y = z))) s) : wpAny (model prog w) A (compareOp .Eq (.str (S y) t) (.str (S z) u)) Q E s := eq_str (by rw [S_eq]; exact h)
theorem oNeS {y z : List Nat} {t u : Tok} {Q : Value → Shared → Prop} (h : Q (.bool (!decide (y = z))) s) : wpAny (model prog w) A (compareOp .NotEq (.str (S y) t) (.str (S z) u)) Q E s :=
  PyProof.Rows.ne_str (by show Q (.bool (!(S y == S z))) s; rw [S_eq]; exact h)
theorem oCatS {y z : List Nat} {t u : Tok} {Q : Value → Shared → Prop} (c : Cx s₀ s T) (hz : y.length + z.length ≤ sizeLine) (h : ∀ t s', Cx s₀ s' T → Q (.str (S (y ++ z)) t) s') : wpAny (model prog w) A (binaryOp .Add (.str (S y) t) (.str (S z) u)) Q E s :=
  oCat c (by simpa using hz) (by rw [S_app]; exact h)
theorem oIcatS {y z : List Nat} {t u : Tok} {Q : Value → Shared → Prop} (c : Cx s₀ s T) (hz : y.length + z.length ≤ sizeLine) (h : ∀ t s', Cx s₀ s' T → Q (.str (S (y ++ z)) t) s') : wpAny (model prog w) A (inplaceOp .Add (.str (S y) t) (.str (S z) u)) Q E s :=
  oIcat c (by simpa using hz) (by rw [S_app]; exact h)
theorem oLenSS {y : List Nat} {t : Tok} {Q : Value → Shared → Prop} (c : Cx s₀ s T) (hz : y.length ≤ sizeLine) (h : ∀ t s', Cx s₀ s' T → Q (.int y.length t) s') : wpAny (model prog w) A (call (.builtin "len") [.str (S y) t]) Q E s :=
  oLenS c (by simpa using hz) (by simpa using h)
theorem oTruSS {y : List Nat} {t : Tok} {Q : Bool → Shared → Prop} (c : Cx s₀ s T) (hz : y.length ≤ sizeLine) (h : ∀ s', Cx s₀ s' T → Q (!y.isEmpty) s') : wpAny (model prog w) A (truthy (.str (S y) t)) Q E s :=
  oTruS c (by simpa using hz) fun s' c' => by
    have : (((S y).length : Int) != 0) = !y.isEmpty := by cases y <;> simp <;> (first | lia | omega)
    rw [this]; exact h s' c'
theorem allEq {xs ys : List Str} (hsz : xs.length = ys.length) : (List.range xs.length).all (fun j => xs[j]? == ys[j]?) = decide (xs = ys) := by
  rw [Bool.eq_iff_iff]
  simp only [List.all_eq_true, List.mem_range, decide_eq_true_eq, beq_iff_eq]
  constructor
  · intro z
    refine List.ext_getElem? fun i => ?_
    by_cases hi : i < xs.length
    · exact z i hi
    · rw [List.getElem?_eq_none (by (first | lia | omega)), List.getElem?_eq_none (by (first | lia | omega))]
  · rintro rfl i _; rfl
theorem eqAtStrs {A : Around} {vs ws : List Value} {xs ys : List Str} (hx : StrsAre vs xs) (hy : StrsAre ws ys) (j : Nat) (h1 : j < vs.toArray.size) (h2 : j < ws.toArray.size) : SeqAt.EqAt A s vs.toArray[j] ws.toArray[j] (xs[j]? == ys[j]?) := by
  have h1' : j < xs.length := by simpa [saLen hx] using h1
  have h2' : j < ys.length := by simpa [saLen hy] using h2
  obtain ⟨t, e1⟩ := saGet hx (List.getElem?_eq_getElem h1')
  obtain ⟨u, e2⟩ := saGet hy (List.getElem?_eq_getElem h2')
  have f1 : vs.toArray[j] = .str xs[j] t := by
    have := Array.getElem?_eq_getElem h1
    simp only [List.getElem?_toArray, e1] at this
    exact (Option.some.inj this).symm
  have f2 : ws.toArray[j] = .str ys[j] u := by
    have := Array.getElem?_eq_getElem h2
    simp only [List.getElem?_toArray, e2] at this
    exact (Option.some.inj this).symm
  rw [f1, f2, List.getElem?_eq_getElem h1', List.getElem?_eq_getElem h2']
  intro prog w E Q hq
  refine eqBool_str ?_
  simpa using hq
theorem oNeLS {b : Addr} {vs ws : List Value} {xs ys : List Str} {Q : Value → Shared → Prop} (hu : A.units < cLine) (hl : LstAt s.heap a vs) (hb : LstAt s.heap b ws) (hx : StrsAre vs xs) (hy : StrsAre ws ys)
    (h : Q (.bool (!decide (xs = ys))) s) : wpAny (model prog w) A (compareOp .NotEq (.ref a) (.ref b)) Q E s := by
  by_cases hsz : xs.length = ys.length
  · refine cmp_ofNotEq (SeqAt.RcNeAt.lists (e := fun j => xs[j]? == ys[j]?) hl.list hb.list (by simpa [saLen hx, saLen hy] using hsz) hu (fun j h1 h2 => eqAtStrs hx hy j h1 h2) prog w E Q ?_)
    have := allEq hsz
    rw [show vs.toArray.size = xs.length by simp [saLen hx], this]
    exact h
  · refine cmp_ofNotEq (SeqAt.RcNeAt.lists_lengths hl.list hb.list (by simpa [saLen hx, saLen hy] using hsz) hu prog w E Q ?_)
    have : decide (xs = ys) = false := decide_eq_false fun e => hsz (by rw [e])
    rw [this] at h; exact h
end
end
section
set_option maxRecDepth 100000
set_option maxHeartbeats 4000000
open PySem PySem.W PyProof.Rows PySem.Calls
noncomputable def fitsF : List (List Nat) → List Nat → Bool
  | [], _ => true
  | it :: items, nm => (List.range nm.length).any fun k => (nm[k]?).any it.contains && fitsF items (nm.drop (k + 1))
theorem cut_tail {α : Type} (x : α) (l : List α) : cutL (x :: l) (some 1) none = l := by simp [cutL, kms_lo, kms_hi]
theorem cut_from {α : Type} (l : List α) (k : Nat) : cutL l (some (k : Int)) none = l.drop k := by
  have : ¬ ((k : Int) < 0) := by (first | lia | omega)
  simp only [cutL, kms_lo, kms_hi, this, if_false, Int.toNat_natCast]
  rw [List.take_of_length_le (by simp)]
  by_cases h : k ≤ l.length
  · rw [Nat.min_eq_left h]
  · rw [Nat.min_eq_right (by (first | lia | omega)), List.drop_eq_nil_of_le (Nat.le_refl _), List.drop_eq_nil_of_le (by (first | lia | omega))]
theorem cut_at {α : Type} (l : List α) (p k : Nat) : cutL l (some (p : Int)) (some ((p : Int) + k)) = (l.drop p).take k := by
  have e1 : ¬ ((p : Int) < 0) := by (first | lia | omega)
  have e2 : ¬ ((p : Int) + k < 0) := by (first | lia | omega)
  have e3 : ((p : Int) + k).toNat = p + k := by (first | lia | omega)
  simp only [cutL, kms_lo, kms_hi, e1, e2, if_false, Int.toNat_natCast, e3]
  by_cases h : p ≤ l.length
  · rw [Nat.min_eq_left h]
    rcases Nat.le_total (p + k) l.length with h2 | h2
    · rw [Nat.min_eq_left h2]; congr 1; (first | lia | omega)
    · rw [Nat.min_eq_right h2, List.take_of_length_le (by simp), List.take_of_length_le (by simp; (first | lia | omega))]
  · rw [List.drop_eq_nil_of_le (Nat.le_of_lt (Nat.lt_of_not_le h)), show min p l.length = l.length by (first | lia | omega), List.drop_eq_nil_of_le (Nat.le_refl _)]; simp
theorem cut_range {α : Type} (l : List α) (p q : Nat) : cutL l (some (p : Int)) (some (q : Int)) = (l.drop p).take (q - p) := by
  rcases Nat.le_total p q with hpq | hpq
  · have := cut_at l p (q - p)
    rw [← this]; congr 2; (first | lia | omega)
  · have e1 : ¬ ((p : Int) < 0) := by (first | lia | omega)
    have e2 : ¬ ((q : Int) < 0) := by (first | lia | omega)
    simp only [cutL, kms_lo, kms_hi, e1, e2, if_false, Int.toNat_natCast]
    rw [show min q l.length - min p l.length = 0 by (first | lia | omega), show q - p = 0 by (first | lia | omega)]; simp
theorem fits_ok {mg mb : Str → Option Value} {w : World} {f : Addr} (hf : mg "_law_fits" = some (.ref f)) (ls : List (List Nat)) : ∀ {A : Around} {Q E : Value → Shared → Prop} {s : Shared} {l : Addr} {vs : List Value} {nm : List Nat} {t : Tok},
    Room A (ls.length + 3) → FnAt s.heap dFits f → Gl dAll mg mb s.heap → LstAt s.heap l vs → StrsAre vs (ls.map S) → ls.length ≤ 1000 → nm.length ≤ 1000 →
    (∀ s', Keeps s s' → Q (.bool (fitsF ls nm)) s') → wpAny (model PW w) A (call (.ref f) [.ref l, .str (S nm) t]) Q E s := by
  induction ls with
  | nil =>
    intro A Q E s l vs nm t hA F G hl hs hz1 hz2 hQ
    refine callD (binds := [("items", .ref l), ("name", .str (S nm) t)]) [("items", .ref l), ("name", .str (S nm) t)] [] ["k"] [] ["items", "name", "k"] _ [] (ks2 := []) hA.d F G.lim (fun _ _ _ => by kernel_rfl) (by kernel_rfl) (by kernel_rfl) (by kernel_rfl)
      (by kernel_rfl) (by kernel_rfl) (by decide +kernel) (by decide +kernel) (by kernel_rfl) (by decide +kernel) rfl rfl (by kernel_rfl) (by kernel_rfl) (by kernel_rfl) ?_
    intro L code as s₁ has c
    simp only [List.map_cons, List.map_nil, List.cons_append, List.nil_append, List.zip_nil_right, List.zip_nil_left] at c ⊢
    have hR : Room (A.deeper (envC dFits L f code [])) 2 := Room.deeper (hA.le (by simp))
    generalize hA9 : A.deeper _ = A9 at hR ⊢
    refine ent ?_
    intro Q9 E9 hQ9 hE9
    refine seqCons ?_
    intro Q7 hQ7
    (with_reducible refine wpAny_If ?_; refine wpAny_isTrue_Compare1 ?_; refine nL ‹_› (by kernel_rfl) (mm0 _ _) (mm0 _ _) ?_; refine List_ ?_; refine spliced_none ?_; refine oNewL ‹_› (by exact Nat.le_of_ble_eq_true rfl) fun b' s' c9 => ?_; (try clear c'); rename Cx _ _ _ => c')
    refine oEqLS hR.u ((Cx.old ‹_› ‹_›)) ((Cx.lat ‹_› (mm0 _ _))) hs .nil ?_
    simp only [List.map_nil, decide_true]
    ((with_reducible refine wpAny_truthy_bool ?_; refine iteT ?_; refine seqCons fun Q9 hQ9 => ?_; refine wpAny_Return_some ?_; refine kBool ?_; refine seqRet ‹_› ?_; refine seqRet ‹_› ?_; refine finRet ‹_› ?_); dsimp only)
    exact hQ _ c'.done
  | cons it0 ls ih =>
    intro A Q E s l vs nm t hA F G hl hs hz1 hz2 hQ
    refine callD (binds := [("items", .ref l), ("name", .str (S nm) t)]) [("items", .ref l), ("name", .str (S nm) t)] [] ["k"] [] ["items", "name", "k"] _ [] (ks2 := []) hA.d F G.lim (fun _ _ _ => by kernel_rfl) (by kernel_rfl) (by kernel_rfl) (by kernel_rfl)
      (by kernel_rfl) (by kernel_rfl) (by decide +kernel) (by decide +kernel) (by kernel_rfl) (by decide +kernel) rfl rfl (by kernel_rfl) (by kernel_rfl) (by kernel_rfl) ?_
    intro L code as s₁ has c
    simp only [List.map_cons, List.map_nil, List.cons_append, List.nil_append, List.zip_nil_right, List.zip_nil_left] at c ⊢
    have hR : Room (A.deeper (envC dFits L f code [])) (ls.length + 3) := Room.deeper (hA.le (by simp))
    have hs0 := hs
    cases hs with | cons _ t0 hs' => ?_
    rename_i vs
    have hvz := saLen hs'
    simp only [List.length_cons, List.length_map] at hz1 hvz
    generalize hA9 : A.deeper _ = A9 at hR ⊢
    refine ent ?_
    intro Q9 E9 hQ9 hE9
    refine seqCons ?_
    intro Q7 hQ7
    (with_reducible refine wpAny_If ?_; refine wpAny_isTrue_Compare1 ?_; refine nL ‹_› (by kernel_rfl) (mm0 _ _) (mm0 _ _) ?_; refine List_ ?_; refine spliced_none ?_; refine oNewL ‹_› (by exact Nat.le_of_ble_eq_true rfl) fun b' s' c9 => ?_; (try clear c'); rename Cx _ _ _ => c')
    refine oEqLS hR.u ((Cx.old ‹_› ‹_›)) ((Cx.lat ‹_› (mm0 _ _))) hs0 .nil ?_
    simp only [List.map_cons, reduceCtorEq, decide_false]
    ((with_reducible refine wpAny_truthy_bool ?_; refine iteF ?_; refine wpAny_execs_nil ?_; refine seqNext ‹_› ?_; refine seqCons fun Q9 hQ9 => ?_); refine wpAny_For ?_ (hs := by intro _; rfl); (with_reducible refine rCallN ?_; refine nB ‹_› ‹_› (by kernel_rfl) (by rfl) (by rfl) (mm1 _ _ _) ?_; refine rT1 (by with_unfolding_all rfl) ?_; refine rMore (by with_unfolding_all rfl) ?_; refine rCallN ?_; refine nB ‹_› ‹_› (by kernel_rfl) (by rfl) (by rfl) (mm0 _ _) ?_; refine rB1 (by with_unfolding_all rfl) ?_; refine rMore (by with_unfolding_all rfl) ?_; refine nL ‹_› (by kernel_rfl) (mm1 _ _ _) (mm1 _ _ _) ?_; refine spliced_none ?_; refine oLenSS ‹_› (by first | assumption | wtm_at "zz_sz") fun t' s' c9 => ?_; (try clear c'); rename Cx _ _ _ => c'; refine spliced_none ?_; refine rangeIter1 ‹_› (by first | assumption | omega | wtm_at "zz_sz") (by first | assumption | omega | wtm_at "zz_sz") fun it' s' c9 => ?_; (try clear c'); rename Cx _ _ _ => c'))
    refine forW (walkR1 (n := nm.length) hR.handled) (fun k T => (List.range k).any (fun k => (nm[k]?).any it0.contains && fitsF ls (nm.drop (k + 1))) = false ∧ ∃ o, T = [(b', Rs.lst []), (L, Rs.ns [("items", some (.ref l)), ("name", some (.str (S nm) t)), ("k", o)])])
      (fun _ _ _ _ _ => trivial) ?_ ?_ ⟨by simp, none, rfl⟩ (by simpa using c') (fun _ => rfl)
    · intro k v T s₂ hk h70 h71 c Q8 E8 hQ8 hE8
      obtain ⟨t', rfl⟩ := h70
      obtain ⟨hI, o, rfl⟩ := h71
      have step : ∀ b, (((nm[k]?).any it0.contains && fitsF ls (nm.drop (k + 1))) = b) → (List.range (k + 1)).any (fun k => (nm[k]?).any it0.contains && fitsF ls (nm.drop (k + 1))) = b := fun b hb => by
        rw [List.range_succ, List.any_append, hI]; simpa using hb
      refine wpAny_assign_Name ?_
      (with_reducible refine sL ‹_› (by kernel_rfl) (mm2 _ _ _ _) (pv2 _ _ _ _) (pt2 _ _ _ _) fun s' c9 => ?_; (try clear c'); rename Cx _ _ _ => c'; refine seqCons fun Q9 hQ9 => ?_; refine wpAny_If ?_; refine isTrue_and ?_; refine wpAny_isTrue_Compare1 ?_; refine Subscript_ ?_; refine nL ‹_› (by kernel_rfl) (mm2 _ _ _ _) (mm1 _ _ _) ?_; refine nL ‹_› (by kernel_rfl) (mm2 _ _ _ _) (mm2 _ _ _ _) ?_)
      refine oItem c' k rfl (List.getElem?_eq_getElem hk) (by wtm_at "zz_sz") rfl (fun _ => rfl) (fun t s' c' => ?_)
      (with_reducible refine Subscript_ ?_; refine nL ‹_› (by kernel_rfl) (mm2 _ _ _ _) (mm0 _ _) ?_; refine kInt ‹_› fun t' s' c9 => ?_; (try clear c'); rename Cx _ _ _ => c')
      refine oItemL (c'.old hl) (by decide) (by decide) rfl rfl ?_
      (with_reducible refine inS1 ?_; refine wpAny_truthy_bool ?_)
      by_cases hin : it0.contains nm[k] = true
      · rw [hin]
        (with_reducible refine iteT ?_; refine isTrue_and ?_; refine rTest (by with_unfolding_all rfl) ?_; refine rCallN ?_; refine nG ‹_› ‹_› (by kernel_rfl) (by rfl) ‹_› ?_; refine rFn ‹_› (by with_unfolding_all rfl) ?_; refine rMore (by with_unfolding_all rfl) ?_; refine Subscript_ ?_; refine nL ‹_› (by kernel_rfl) (mm2 _ _ _ _) (mm0 _ _) ?_; refine wpAny_Slice ?_; refine evalPart_some_step ?_; refine kInt ‹_› fun t' s' c9 => ?_; (try clear c'); rename Cx _ _ _ => c'; refine evalPart_none_step ?_; refine evalPart_none_step ?_; refine oCutL ‹_› (Cx.old ‹_› ‹_›) (by constructor) (by constructor) (by first | assumption | wtm_at "zz_sz") (by with_unfolding_all rfl) (by intro _; with_unfolding_all rfl) fun b' s' c9 => ?_; (try clear c'); rename Cx _ _ _ => c'; refine rMore (by with_unfolding_all rfl) ?_; refine Subscript_ ?_; refine nL ‹_› (by kernel_rfl) (mm3 _ _ _ _ _) (mm1 _ _ _) ?_; refine wpAny_Slice ?_; refine evalPart_some_step ?_; refine wpAny_BinOp ?_; refine nL ‹_› (by kernel_rfl) (mm3 _ _ _ _ _) (mm2 _ _ _ _) ?_; refine kInt ‹_› fun t' s' c9 => ?_; (try clear c'); rename Cx _ _ _ => c'; refine oAdd ‹_› fun t' s' c9 => ?_; (try clear c'); rename Cx _ _ _ => c'; refine evalPart_none_step ?_; refine evalPart_none_step ?_; refine oCutSN ‹_› (by first | assumption | wtm_at "zz_sz") (by with_unfolding_all rfl) (by intro _; with_unfolding_all rfl) fun t' s' c9 => ?_; (try clear c'); rename Cx _ _ _ => c'; refine spliced_none ?_; refine ⟨Cx.keep ‹_›, ?_⟩)
        rw [cut_tail] at c'
        rw [show cutL nm (some ((k : Int) + 1)) none = nm.drop (k + 1) from cut_from nm (k + 1)]
        refine ih hR (F.keeps c'.keep) (G.keeps c'.keep) (c'.lat ((mm0 _ _))) hs' (by (first | lia | omega)) (by simp; (first | lia | omega)) (fun s' hkp => ?_)
        replace c' := c'.keeps hkp
        (with_reducible refine wpAny_truthy_bool ?_)
        cases hfit : fitsF ls (nm.drop (k + 1)) with
        | true =>
          have hfin : fitsF (it0 :: ls) nm = true := by
            unfold fitsF
            exact List.any_eq_true.mpr ⟨k, List.mem_range.mpr hk, by simp only [List.getElem?_eq_getElem hk, Option.any_some, hfit, Bool.and_true]; exact hin⟩
          ((with_reducible refine iteT ?_; refine isTrue_and_nil ?_; refine iteT ?_; refine seqCons fun Q9 hQ9 => ?_; refine wpAny_Return_some ?_; refine kBool ?_; refine seqRet ‹_› ?_; refine seqRet ‹_› ?_; refine lfRet ‹_› ?_; refine seqRet ‹_› ?_; refine finRet ‹_› ?_); dsimp only)
          exact hfin ▸ hQ _ c'.done
        | false =>
          (with_reducible refine iteF ?_; refine iteF ?_; refine wpAny_execs_nil ?_; refine seqNext ‹_› ?_; refine wpAny_execs_nil ?_; refine lfNext ‹_› ?_)
          exact ⟨_, ⟨step _ (by simp [List.getElem?_eq_getElem hk, hfit]), _, rfl⟩, c'.drop (List.sublist_cons_self ..)⟩
      · rw [Bool.not_eq_true] at hin; rw [hin]
        (with_reducible refine iteF ?_; refine iteF ?_; refine wpAny_execs_nil ?_; refine seqNext ‹_› ?_; refine wpAny_execs_nil ?_; refine lfNext ‹_› ?_)
        exact ⟨_, ⟨step _ (by simp only [List.getElem?_eq_getElem hk, Option.any_some, hin, Bool.false_and]), _, rfl⟩, c'⟩
    · rintro T s₂ ⟨hI, o, rfl⟩ c
      ((with_reducible refine seqNext ‹_› ?_; refine seqCons fun Q9 hQ9 => ?_; refine wpAny_Return_some ?_; refine kBool ?_; refine seqRet ‹_› ?_; refine finRet ‹_› ?_); dsimp only)
      rw [show false = fitsF (it0 :: ls) nm from by unfold fitsF; exact hI.symm]
      exact hQ _ c.done
end
section
set_option maxRecDepth 100000
open PySem PySem.W PyProof.Rows PySem.Calls
theorem saDrop {vs : List Value} {ys : List Str} (h : StrsAre vs ys) (k : Nat) : StrsAre (vs.drop k) (ys.drop k) := by
  induction h generalizing k with
  | nil => simp; exact .nil
  | cons y t h ih => cases k with
    | zero => exact .cons y t h
    | succ k => simpa using ih k
theorem saTake {vs : List Value} {ys : List Str} (h : StrsAre vs ys) (k : Nat) : StrsAre (vs.take k) (ys.take k) := by
  induction h generalizing k with
  | nil => simp; exact .nil
  | cons y t h ih => cases k with
    | zero => simp; exact .nil
    | succ k => simpa using .cons y t (ih k)
theorem saApp {vs ws : List Value} {xs ys : List Str} (h : StrsAre vs xs) (h' : StrsAre ws ys) : StrsAre (vs ++ ws) (xs ++ ys) := by
  induction h with
  | nil => simpa
  | cons y t h ih => simpa using .cons y t ih
theorem saCut {vs : List Value} {ls : List (List Nat)} (h : StrsAre vs (ls.map S)) (lo hi : Option Int) : StrsAre (cutL vs lo hi) ((cutL ls lo hi).map S) := by
  have hl : vs.length = ls.length := by simpa using saLen h
  rw [← cut_map]
  unfold cutL
  rw [List.length_map, hl]
  exact saTake (saDrop h _) _
theorem saOne {x : List Nat} {t : Tok} : StrsAre [.str (S x) t] ([x].map S) := .cons _ _ .nil
theorem saNil : StrsAre [] (([] : List (List Nat)).map S) := .nil
theorem saApp1 {vs : List Value} {ls : List (List Nat)} {x : List Nat} {t : Tok} (h : StrsAre vs (ls.map S)) : StrsAre (vs ++ [.str (S x) t]) ((ls ++ [x]).map S) := by
  rw [List.map_append]; exact saApp h saOne
theorem mapS_inj {xs ys : List (List Nat)} : xs.map S = ys.map S ↔ xs = ys := ⟨fun h => by
  induction xs generalizing ys with
  | nil => cases ys with
    | nil => rfl
    | cons => cases h
  | cons x xs ih => cases ys with
    | nil => cases h
    | cons y ys =>
      simp only [List.map_cons, List.cons.injEq, S_inj_iff] at h
      rw [h.1, ih h.2], fun h => by rw [h]⟩
section
variable {prog : Program} {w : World} {A : Around} {E : Value → Shared → Prop} {s₀ s : Shared} {T T' : Tab} {a : Addr} {v : Value} {env : Env} {pos : Pos}
theorem oNeLL {b : Addr} {vs ws : List Value} {xs ys : List (List Nat)} {Q : Value → Shared → Prop} (hu : A.units < cLine) (hl : LstAt s.heap a vs) (hb : LstAt s.heap b ws) (hx : StrsAre vs (xs.map S)) (hy : StrsAre ws (ys.map S))
    (h : Q (.bool (!decide (xs = ys))) s) : wpAny (model prog w) A (compareOp .NotEq (.ref a) (.ref b)) Q E s :=
  oNeLS hu hl hb hx hy (by simpa only [mapS_inj] using h)
theorem oEqI {i j : Int} {t u : Tok} {Q : Value → Shared → Prop} (h : Q (.bool (decide (i = j))) s) : wpAny (model prog w) A (compareOp .Eq (.int i t) (.int j u)) Q E s :=
  eq_int (by rw [show (i == j) = decide (i = j) from by by_cases h : i = j <;> simp [h]]; exact h)
theorem oNeI {i j : Int} {t u : Tok} {Q : Value → Shared → Prop} (h : Q (.bool (!decide (i = j))) s) : wpAny (model prog w) A (compareOp .NotEq (.int i t) (.int j u)) Q E s :=
  ne_int (by rw [show (i != j) = !decide (i = j) from by by_cases h : i = j <;> simp [h]]; exact h)
theorem oEqLL {b : Addr} {vs ws : List Value} {xs ys : List (List Nat)} {Q : Value → Shared → Prop} (hu : A.units < cLine) (hl : LstAt s.heap a vs) (hb : LstAt s.heap b ws) (hx : StrsAre vs (xs.map S)) (hy : StrsAre ws (ys.map S))
    (h : Q (.bool (decide (xs = ys))) s) : wpAny (model prog w) A (compareOp .Eq (.ref a) (.ref b)) Q E s :=
  oEqLS hu hl hb hx hy (by simpa only [mapS_inj] using h)
end
theorem cut1 {M : Model} {α : Type} {A : Around} {x : Sem α} {Q : α → Shared → Prop} {E : Value → Shared → Prop} {s : Shared} (v : α) (R : Shared → Prop) (h : wpAny M A x (fun f s' => f = v ∧ R s') E s) (h2 : ∀ s', R s' → Q v s') : wpAny M A x Q E s :=
  wpAny_mono h (fun f s' h' => by obtain ⟨rfl, h'⟩ := h'; exact h2 s' h') fun _ _ e => e
theorem cutIf {M : Model} {α : Type} {A : Around} {b : Bool} {x y : Sem α} {Q : α → Shared → Prop} {E : Value → Shared → Prop} {s : Shared} (v : α) (R : Shared → Prop)
    (h : if b = true then wpAny M A x (fun f s' => f = v ∧ R s') E s else wpAny M A y (fun f s' => f = v ∧ R s') E s) (h2 : ∀ s', R s' → Q v s') : if b = true then wpAny M A x Q E s else wpAny M A y Q E s := by
  cases b
  · exact cut1 v R h h2
  · exact cut1 v R h h2
theorem cutC {M : Model} {α : Type} {A : Around} {x : Sem α} {Q : α → Shared → Prop} {E : Value → Shared → Prop} {s₀ s : Shared} {T : Tab} (v : α) (c : Cx s₀ s T) (h : wpAny M A x (fun f s' => f = v ∧ Cx s₀ s' T) E s) (h2 : ∀ s', Cx s₀ s' T → Q v s') : wpAny M A x Q E s := cut1 v _ h h2
theorem cutIfV {M : Model} {α : Type} {A : Around} {b : Bool} {x y : Sem α} {Q : α → Shared → Prop} {E : Value → Shared → Prop} {s₀ s : Shared} {T : Tab} (R : α → Prop) (c : Cx s₀ s T)
    (h : if b = true then wpAny M A x (fun v s' => R v ∧ Cx s₀ s' T) E s else wpAny M A y (fun v s' => R v ∧ Cx s₀ s' T) E s) (h2 : ∀ v s', R v → Cx s₀ s' T → Q v s') : if b = true then wpAny M A x Q E s else wpAny M A y Q E s := by
  cases b
  · exact wpAny_mono h (fun v s' h => h2 v s' h.1 h.2) fun _ _ e => e
  · exact wpAny_mono h (fun v s' h => h2 v s' h.1 h.2) fun _ _ e => e
/-- a while, by a measure and what holds behind it -/
theorem whileX {prog : Program} {w : World} {A : Around} {s₀ s : Shared} {T : Tab} {env : Env} {R : Result → Shared → Prop} {test : Expr} {body : List Stmt} (Inv : Nat → Tab → Prop) (Exit : Tab → Prop)
    (turn : ∀ n T s, Inv n T → Cx s₀ s T → ∀ Q' E', LoopFin (Nw s₀ Inv n) R Q' → E' = notedBy (model prog w) A env (fun e s' => R (.error e) s') →
      wpAny (model prog w) A (isTrue test env (eval test env)) (fun b s₂ => if b = true then wpAny (model prog w) A (execs body env) Q' E' s₂ else Xt s₀ Exit s₂) E' s)
    (fin : ∀ T s, Exit T → Cx s₀ s T → R (.ok .next) s)
    (n : Nat) (h : Inv n T) (c : Cx s₀ s T) : codeAny (model prog w) A (.whileLoop test body [] env) R s :=
  whileW Inv (fun n T s hI c Q' E' hQ' hE' => wpAny_mono (turn n T s hI c Q' E' hQ' hE') (fun b s₂ h₂ => by
    cases b
    · simp only [Bool.false_eq_true, if_false] at h₂ ⊢
      obtain ⟨T', hE, c'⟩ := h₂
      exact wpAny_execs_nil (fin T' s₂ hE c')
    · exact h₂) fun _ _ e => e) n h c
theorem iteNT {P Q : Prop} (h : P) : if (!false) = true then P else Q := h
theorem iteNF {P Q : Prop} (h : Q) : if (!true) = true then P else Q := h
end
section
set_option maxRecDepth 100000
set_option maxHeartbeats 4000000
open PySem PySem.W PyProof.Rows PySem.Calls
/-! what a plain expression gives: derivations without binders -/
inductive AtV (env : Env) (T : Tab) : Expr → Value → Prop
  | loc {x : Str} {pos : Pos} {v : Value} {l : List (Str × Option Value)} (ok : okN .local env x = true) (hT : (env.locals, Rs.ns l) ∈ T) (hv : (x, some v) ∈ l) : AtV env T (.Name x pos) v
  | cell {x : Str} {pos : Pos} {v : Value} {a : Addr} (ok : okN .cell env x = true) (hc : env.cells.lookup x = some a) (hT : (a, Rs.cell (some v)) ∈ T) : AtV env T (.Name x pos) v
inductive AtS (env : Env) (T : Tab) : Expr → List Nat → Prop
  | val {e : Expr} {y : List Nat} {t : Tok} (h : AtV env T e (.str (S y) t)) : AtS env T e y
  | const {y : Str} {l : List Nat} {k : Nat} {pos : Pos} (hy : y = S l) : AtS env T (.Constant (.str y) k pos) l
inductive AtI (env : Env) (T : Tab) : Expr → Int → Prop
  | val {e : Expr} {i : Int} {t : Tok} (h : AtV env T e (.int i t)) : AtI env T e i
  | const {i : Int} {k : Nat} {pos : Pos} : AtI env T (.Constant (.int i) k pos) i
  | add {e f : Expr} {i j : Int} {pos : Pos} (a : AtI env T e i) (b : AtI env T f j) : AtI env T (.BinOp e .Add f pos) (i + j)
  | sub {e f : Expr} {i j : Int} {pos : Pos} (a : AtI env T e i) (b : AtI env T f j) : AtI env T (.BinOp e .Sub f pos) (i - j)
  | neg {e : Expr} {i : Int} {pos : Pos} (a : AtI env T e i) : AtI env T (.UnaryOp .USub e pos) (-i)
inductive Ats (env : Env) (T : Tab) : List Expr → List Value → Prop
  | nil : Ats env T [] []
  | cons {e : Expr} {es : List Expr} {v : Value} {vs : List Value} (h : AtV env T e v) (r : Ats env T es vs) : Ats env T (e :: es) (v :: vs)
inductive OpI : CmpOp → Int → Int → Bool → Prop
  | lt {i j : Int} : OpI .Lt i j (decide (i < j))
  | le {i j : Int} : OpI .LtE i j (decide (i ≤ j))
  | gt {i j : Int} : OpI .Gt i j (decide (j < i))
  | ge {i j : Int} : OpI .GtE i j (decide (j ≤ i))
  | eq {i j : Int} : OpI .Eq i j (decide (i = j))
  | ne {i j : Int} : OpI .NotEq i j (!decide (i = j))
inductive OpS : CmpOp → List Nat → List Nat → Bool → Prop
  | eq {y z : List Nat} : OpS .Eq y z (decide (y = z))
  | ne {y z : List Nat} : OpS .NotEq y z (!decide (y = z))
  | isin {ch6 : Nat} {z : List Nat} : OpS .In [ch6] z (z.contains ch6)
  | notin {ch6 : Nat} {z : List Nat} : OpS .NotIn [ch6] z (!z.contains ch6)
/-- a name gets a value -/
inductive Sto (env : Env) (x : Str) (v : Value) (T : Tab) (P : Tab → Prop) : Prop
  | loc {l l' : List (Str × Option Value)} {T' : Tab} (ok : okN .local env x = true) (hT : (env.locals, Rs.ns l) ∈ T) (hv : PutV x v l l') (hp : Put env.locals (Rs.ns l') T T') (h : P T') : Sto env x v T P
  | cell {a : Addr} {v₀ : Option Value} {T' : Tab} (ok : okN .cell env x = true) (hc : env.cells.lookup x = some a) (hT : (a, Rs.cell v₀) ∈ T) (hp : Put a (Rs.cell (some v)) T T') (h : P T') : Sto env x v T P
section
variable {prog : Program} {w : World} {A : Around} {E : Value → Shared → Prop} {s₀ s : Shared} {T : Tab} {env : Env} {pos : Pos} {e f : Expr} {v : Value} {y z : List Nat} {i j : Int} {a : Addr}
theorem AtV.ok {Q : Value → Shared → Prop} (a : AtV env T e v) (c : Cx s₀ s T) (h : Q v s) : wpAny (model prog w) A (eval e env) Q E s := by
  cases a with
  | loc ok hT hv => exact nL c ok hT hv h
  | cell ok hc hT => exact nC c ok hc hT h
theorem AtS.ok {Q : Value → Shared → Prop} (a : AtS env T e y) (c : Cx s₀ s T) (h : ∀ t s', Cx s₀ s' T → Q (.str (S y) t) s') : wpAny (model prog w) A (eval e env) Q E s := by
  cases a with
  | val a => exact a.ok c (h _ _ c)
  | const hy => exact kStrS hy c h
theorem AtI.ok (a : AtI env T e i) : ∀ {s : Shared} {Q : Value → Shared → Prop}, Cx s₀ s T → (∀ t s', Cx s₀ s' T → Q (.int i t) s') → wpAny (model prog w) A (eval e env) Q E s := by
  induction a with
  | val a => intro s Q c h; exact a.ok c (h _ _ c)
  | const => intro s Q c h; exact kInt c h
  | add _ _ iha ihb => intro s Q c h; exact wpAny_BinOp (iha c fun t s' c' => ihb c' fun t s' c' => oAdd c' h)
  | sub _ _ iha ihb => intro s Q c h; exact wpAny_BinOp (iha c fun t s' c' => ihb c' fun t s' c' => oSub c' h)
  | neg _ iha => intro s Q c h; exact UnaryOp_ (iha c fun t s' c' => oNeg c' h)
theorem Ats.stars {es : List Expr} {vs : List Value} (a : Ats env T es vs) : noStars es = true := by
  induction a with
  | nil => rfl
  | cons h r ih => cases h <;> exact ih
theorem Ats.ok {es : List Expr} {vs : List Value} (a : Ats env T es vs) : ∀ {Q : List Value → Shared → Prop}, Cx s₀ s T → Q vs s → wpAny (model prog w) A (spliced (backTo pos (starEach es env))) Q E s := by
  induction a with
  | nil => intro Q c h; exact spliced_none h
  | cons a r ih =>
    intro Q c h
    refine rMore ?_ (a.ok c (ih c h))
    cases a <;> rfl
theorem OpI.ok {op : CmpOp} {b : Bool} {t u : Tok} {Q : Value → Shared → Prop} (o : OpI op i j b) (h : Q (.bool b) s) : wpAny (model prog w) A (compareOp op (.int i t) (.int j u)) Q E s := by
  cases o with
  | lt => exact lt_int h
  | le => exact le_int h
  | gt => exact gt_int h
  | ge => exact ge_int h
  | eq => exact oEqI h
  | ne => exact oNeI h
theorem OpS.ok {op : CmpOp} {b : Bool} {t u : Tok} {Q : Value → Shared → Prop} (o : OpS op y z b) (h : Q (.bool b) s) : wpAny (model prog w) A (compareOp op (.str (S y) t) (.str (S z) u)) Q E s := by
  cases o with
  | eq => exact oEqS h
  | ne => exact oNeS h
  | isin => exact inS1 h
  | notin => exact notInS1 h
theorem Sto.ok {x : Str} {P : Tab → Prop} {Q : Unit → Shared → Prop} (a : Sto env x v T P) (c : Cx s₀ s T) (h : ∀ T' s', P T' → Cx s₀ s' T' → Q () s') : wpAny (model prog w) A (storeName env x v) Q E s := by
  cases a with
  | loc ok hT hv hp hP => exact sL c ok hT hv hp fun s' c' => h _ s' hP c'
  | cell ok hc hT hp hP => exact sC c ok hc hT hp fun s' c' => h _ s' hP c'
theorem evI {op : CmpOp} {whole : Sem Value} {b : Bool} {Q : Bool → Shared → Prop} (c : Cx s₀ s T) (a : AtI env T e i) (d : AtI env T f j) (o : OpI op i j b) (hm : behindInMarks op f = false)
    (h : ∀ s', Cx s₀ s' T → Q b s') : wpAny (model prog w) A (PySem.isTrue (.Compare e [op] [f] pos) env whole) Q E s :=
  wpAny_isTrue_Compare1 (a.ok c fun t s' c' => d.ok c' fun t s' c' => o.ok (wpAny_truthy_bool (h s' c'))) hm
theorem evS {op : CmpOp} {whole : Sem Value} {b : Bool} {Q : Bool → Shared → Prop} (c : Cx s₀ s T) (a : AtS env T e y) (d : AtS env T f z) (o : OpS op y z b) (hm : behindInMarks op f = false)
    (h : ∀ s', Cx s₀ s' T → Q b s') : wpAny (model prog w) A (PySem.isTrue (.Compare e [op] [f] pos) env whole) Q E s :=
  wpAny_isTrue_Compare1 (a.ok c fun t s' c' => d.ok c' fun t s' c' => o.ok (wpAny_truthy_bool (h s' c'))) hm
theorem evN {Q : Value → Shared → Prop} (c : Cx s₀ s T) (a : AtI env T e i) (h : ∀ t s', Cx s₀ s' T → Q (.int i t) s') : wpAny (model prog w) A (eval e env) Q E s := a.ok c h
theorem asgV {x : Str} {rest : List Stmt} {p : Pos} {Q : Flow → Shared → Prop} (c : Cx s₀ s T) (a : AtV env T e v) (hs : swapsWith e (some (.Name x p)) pos.line env = pure false)
    (h : Sto env x v T fun T' => ∀ s', Cx s₀ s' T' → wpAny (model prog w) A (execs rest env) Q E s') : wpAny (model prog w) A (execs (.Assign [.Name x p] e pos :: rest) env) Q E s :=
  wpAny_execs_cons (wpAny_Assign_Name (a.ok c (h.ok c fun T' s' hP c' => hP s' c')) hs)
theorem asgI {x : Str} {rest : List Stmt} {p : Pos} {Q : Flow → Shared → Prop} (c : Cx s₀ s T) (a : AtI env T e i) (hs : swapsWith e (some (.Name x p)) pos.line env = pure false)
    (h : ∀ t, Sto env x (.int i t) T fun T' => ∀ s', Cx s₀ s' T' → wpAny (model prog w) A (execs rest env) Q E s') : wpAny (model prog w) A (execs (.Assign [.Name x p] e pos :: rest) env) Q E s :=
  wpAny_execs_cons (wpAny_Assign_Name (a.ok c fun t s' c' => (h t).ok c' fun T' s' hP c' => hP s' c') hs)
theorem augI {x : Str} {rest : List Stmt} {p q : Pos} {Q : Flow → Shared → Prop} (c : Cx s₀ s T) (o : AtI env T (.Name x q) i) (a : AtI env T e j)
    (h : ∀ t, Sto env x (.int (i + j) t) T fun T' => ∀ s', Cx s₀ s' T' → wpAny (model prog w) A (execs rest env) Q E s') : wpAny (model prog w) A (execs (.AugAssign (.Name x p) .Add e pos :: rest) env) Q E s := by
  refine wpAny_execs_cons (wpAny_AugAssign_Name ?_)
  have key : ∀ {v : Value} {R : Value → Shared → Prop}, AtV env T (.Name x q) v → R v s → wpAny (model prog w) A (loadName env x) R E s := fun a h => by
    cases a with
    | loc ok hT hv => exact lL c ok hT hv h
    | cell ok hc hT => exact lC c ok hc hT h
  cases o with
  | val o => exact key o (a.ok c fun t s' c' => oIadd c' fun t s' c' => (h t).ok c' fun T' s' hP c' => hP s' c')
theorem evSub {Q : Value → Shared → Prop} (c : Cx s₀ s T) (a : AtV env T e v) (d : AtI env T f i) (h : ∀ t s', Cx s₀ s' T → wpAny (model prog w) A (subscriptTail e f v (.int i t)) Q E s') : wpAny (model prog w) A (eval (.Subscript e f pos) env) Q E s :=
  Subscript_ (a.ok c (d.ok c h))
theorem evItem {y : List Nat} {t0 : Tok} {ch : Nat} {Q : Value → Shared → Prop} (c : Cx s₀ s T) (a : AtV env T e (.str (S y) t0)) (d : AtI env T f i) (k : Nat) (hi : i = k) (hc : y[k]? = some ch) (hz : y.length ≤ sizeLine)
    (hs : ∀ t, subscripted f false (.str (S y) t0) (.int i t) = operate [.str (S y) t0, .int i t] (getItem (.str (S y) t0) (.int i t))) (ht : ∀ r, letTemporaryGo e (.str (S y) t0) r = pure ())
    (h : ∀ t s', Cx s₀ s' T → Q (.str (S [ch]) t) s') : wpAny (model prog w) A (eval (.Subscript e f pos) env) Q E s :=
  Subscript_ (a.ok c (d.ok c fun t s' c' => oItem c' k hi hc hz (hs t) ht h))
theorem evSS {f g : Expr} {p : Pos} {Q : Value → Shared → Prop} (c : Cx s₀ s T) (a : AtS env T e y) (d : AtI env T f i) (d2 : AtI env T g j) (hz : y.length ≤ sizeLine)
    (hs : ∀ t n, subscripted (.Slice (some f) (some g) none p) false (.str (S y) t) (.ref n) = operate [.ref n, .str (S y) t] (getItem (.str (S y) t) (.ref n))) (ht : ∀ v r, letTemporaryGo e v r = pure ())
    (h : ∀ t s', Cx s₀ s' T → Q (.str (S (cutL y (some i) (some j))) t) s') : wpAny (model prog w) A (eval (.Subscript e (.Slice (some f) (some g) none p) pos) env) Q E s :=
  Subscript_ (a.ok c fun t s' c' => wpAny_Slice (evalPart_some_step (d.ok c' fun t s' c' => evalPart_some_step (d2.ok c' fun t s' c' => evalPart_none_step (oCutSS c' hz (hs _ _) (ht _) h)))))
theorem evSN {f : Expr} {p : Pos} {Q : Value → Shared → Prop} (c : Cx s₀ s T) (a : AtS env T e y) (d : AtI env T f i) (hz : y.length ≤ sizeLine)
    (hs : ∀ t n, subscripted (.Slice (some f) none none p) false (.str (S y) t) (.ref n) = operate [.ref n, .str (S y) t] (getItem (.str (S y) t) (.ref n))) (ht : ∀ v r, letTemporaryGo e v r = pure ())
    (h : ∀ t s', Cx s₀ s' T → Q (.str (S (cutL y (some i) none)) t) s') : wpAny (model prog w) A (eval (.Subscript e (.Slice (some f) none none p) pos) env) Q E s :=
  Subscript_ (a.ok c fun t s' c' => wpAny_Slice (evalPart_some_step (d.ok c' fun t s' c' => evalPart_none_step (evalPart_none_step (oCutSN c' hz (hs _ _) (ht _) h)))))
theorem evNS {f : Expr} {p : Pos} {Q : Value → Shared → Prop} (c : Cx s₀ s T) (a : AtS env T e y) (d : AtI env T f i) (hz : y.length ≤ sizeLine)
    (hs : ∀ t n, subscripted (.Slice none (some f) none p) false (.str (S y) t) (.ref n) = operate [.ref n, .str (S y) t] (getItem (.str (S y) t) (.ref n))) (ht : ∀ v r, letTemporaryGo e v r = pure ())
    (h : ∀ t s', Cx s₀ s' T → Q (.str (S (cutL y none (some i))) t) s') : wpAny (model prog w) A (eval (.Subscript e (.Slice none (some f) none p) pos) env) Q E s :=
  Subscript_ (a.ok c fun t s' c' => wpAny_Slice (evalPart_none_step (evalPart_some_step (d.ok c' fun t s' c' => evalPart_none_step (oCutNS c' hz (hs _ _) (ht _) h)))))
inductive AtP (env : Env) (T : Tab) : Option Expr → Option Int → Prop
  | none : AtP env T none none
  | some {e : Expr} {i : Int} (a : AtI env T e i) : AtP env T (some e) (some i)
theorem AtP.ok {p : Option Expr} {lo : Option Int} {Q : Value → Shared → Prop} (a : AtP env T p lo) (c : Cx s₀ s T) (h : ∀ v s', IsPart v lo → Cx s₀ s' T → Q v s') : wpAny (model prog w) A (evalPart p env) Q E s := by
  cases a with
  | none => exact evalPart_none_step (h _ _ .none c)
  | some a => exact evalPart_some_step (a.ok c fun t s' c' => h _ _ (.int ..) c')
theorem evCL {p q : Option Expr} {lo hi : Option Int} {ps : Pos} {vs : List Value} {Q : Value → Shared → Prop} (c : Cx s₀ s T) (a : AtV env T e (.ref v')) (d : AtP env T p lo) (d2 : AtP env T q hi) (hl : ∀ s', Cx s₀ s' T → LstAt s'.heap v' vs) (hz : vs.length ≤ sizeLine)
    (hs : ∀ n, subscripted (.Slice p q none ps) false (.ref v') (.ref n) = operate [.ref n, .ref v'] (getItem (.ref v') (.ref n))) (ht : ∀ v r, letTemporaryGo e v r = pure ())
    (h : ∀ b s', Cx s₀ s' ((b, .lst (cutL vs lo hi)) :: T) → Q (.ref b) s') : wpAny (model prog w) A (eval (.Subscript e (.Slice p q none ps) pos) env) Q E s :=
  Subscript_ (a.ok c (wpAny_Slice (d.ok c fun v s' hp c' => d2.ok c' fun v2 s' hp2 c' => evalPart_none_step (oCutL c' (hl _ c') hp hp2 hz (hs _) (ht _) h))))
theorem fnV {d : DefRec} {f : Addr} {es : List Expr} {e0 : Expr} {vs : List Value} {Q : Value → Shared → Prop} (c : Cx s₀ s T) (F : FnAt s₀.heap d f) (a : Ats env T (e0 :: es) vs) (h : wpAny (model prog w) A (call (.ref f) vs) Q E s) :
    wpAny (model prog w) A (callWith pos (.ref f) [] (backTo pos (starEach (e0 :: es) env)) []) Q E s :=
  rFn F a.stars (a.ok c ⟨c.keep, h⟩)
theorem blV {id : String} {es : List Expr} {e0 : Expr} {vs : List Value} {Q : Value → Shared → Prop} (c : Cx s₀ s T) (a : Ats env T (e0 :: es) vs) (h : wpAny (model prog w) A (call (.builtin id) vs) Q E s) :
    wpAny (model prog w) A (callWith pos (.builtin id) [] (backTo pos (starEach (e0 :: es) env)) []) Q E s :=
  rB1 a.stars (a.ok c h)
end
end
section
set_option maxRecDepth 100000
set_option maxHeartbeats 4000000
open PySem PySem.W PyProof.Rows PySem.Calls
noncomputable def greedyF : List (List Nat) → Bool → List Nat → Bool
  | [], _, _ => true
  | it :: r, loose, rest =>
    if it = [] then greedyF r true rest else
    match (if loose then rest.dropWhile (fun c => !it.contains c) else rest) with
    | [] => false
    | c :: t => it.contains c && greedyF r false t
noncomputable def takesF (row : List (List Nat)) (nm : List Nat) : Bool :=
  match h : row.getLast? with
  | none => false
  | some x => if x = [] then greedyF row false nm else
    match nm.getLast? with
    | none => false
    | some c => x.contains c && takesF row.dropLast nm.dropLast
termination_by row.length
decreasing_by
  have : row ≠ [] := fun e => by rw [e] at h; cases h
  have := List.length_pos_iff.mpr this
  simp; (first | lia | omega)
theorem cut_last {α : Type} (l : List α) : cutL l (some (-1)) none = l.drop (l.length - 1) := by
  simp only [cutL, kms_lo, kms_hi, show ((-1 : Int) < 0) = True from by simp, if_true]
  rw [List.take_of_length_le (by simp)]; rfl
theorem cut_init {α : Type} (l : List α) : cutL l none (some (-1)) = l.dropLast := by
  simp only [cutL, kms_lo, kms_hi, show ((-1 : Int) < 0) = True from by simp, if_true]
  rw [List.dropLast_eq_take]; simp
theorem drop_last_one {α : Type} (l : List α) {x : α} (h : l.getLast? = some x) : l.drop (l.length - 1) = [x] := by
  obtain ⟨ys, rfl⟩ := List.getLast?_eq_some_iff.mp h
  simp
theorem takesF_nil (nm : List Nat) : takesF [] nm = false := by unfold takesF; rfl
theorem takesF_star (row : List (List Nat)) (nm : List Nat) : takesF (row ++ [[]]) nm = greedyF (row ++ [[]]) false nm := by
  unfold takesF
  split
  · rename_i h; simp at h
  · rename_i x h; simp at h; subst h; simp
theorem takesF_snoc (row : List (List Nat)) (x : List Nat) (hx : x ≠ []) (nm : List Nat) : takesF (row ++ [x]) nm = match nm.getLast? with
    | none => false
    | some c => x.contains c && takesF row nm.dropLast := by
  rw [takesF]
  split
  · rename_i h; simp at h
  · rename_i x h; simp at h; subst h; rw [if_neg hx]; simp
theorem takes_ok {mg mb : Str → Option Value} {w : World} {f : Addr} (hf : mg "_law_takes" = some (.ref f)) (n : Nat) : ∀ {A : Around} {Q E : Value → Shared → Prop} {s : Shared} {l : Addr} {vs : List Value} {row : List (List Nat)} {nm : List Nat} {t : Tok},
    row.length = n → Room A (row.length + 4) → FnAt s.heap dTakes f → Gl dAll mg mb s.heap → LstAt s.heap l vs → StrsAre vs (row.map S) → row.length ≤ 1000 → nm.length ≤ 1000 →
    (∀ s', Keeps s s' → Q (.bool (takesF row nm)) s') → wpAny (model PW w) A (call (.ref f) [.ref l, .str (S nm) t]) Q E s := by
  induction n using Nat.strongRecOn with
  | _ n ih =>
    intro A Q E s l vs row nm t hn hA F G hl hs hz1 hz2 hQ
    refine callD (binds := [("row", .ref l), ("name", .str (S nm) t)]) [("row", .ref l), ("name", .str (S nm) t)] [] ["at", "loose", "item"] [] ["row", "name", "at", "loose", "item"] _ [] (ks2 := []) hA.d F G.lim (fun _ _ _ => by kernel_rfl) (by kernel_rfl) (by kernel_rfl) (by kernel_rfl)
      (by kernel_rfl) (by kernel_rfl) (by decide +kernel) (by decide +kernel) (by kernel_rfl) (by decide +kernel) rfl (by kernel_rfl) (by kernel_rfl) (by kernel_rfl) (by kernel_rfl) ?_
    intro L code as s₁ has c
    simp only [List.map_cons, List.map_nil, List.cons_append, List.nil_append, List.zip_nil_right, List.zip_nil_left] at c ⊢
    have hR : Room (A.deeper (envC dTakes L f code [])) (row.length + 3) := Room.deeper hA
    have hvz : vs.length = row.length := by simpa using saLen hs
    generalize hA9 : A.deeper _ = A9 at hR ⊢
    refine ent ?_
    intro Q9 E9 hQ9 hE9
    refine seqCons ?_
    intro Q7 hQ7
    (with_reducible refine wpAny_If ?_; refine wpAny_isTrue_Compare1 ?_; refine evCL ‹_› (AtV.loc (by kernel_rfl) (mm0 _ _) (mm0 _ _)) (AtP.some (AtI.neg AtI.const)) AtP.none (fun s' c9 => (Cx.old ‹_› ‹_›)) (by first | assumption | wtm_at "zz_sz") (by intro _; with_unfolding_all rfl) (by intro _ _; with_unfolding_all rfl) fun b' s' c9 => ?_; (try clear c'); rename Cx _ _ _ => c'; refine List_ ?_; refine rMore (by with_unfolding_all rfl) ?_; refine kStrS q0 ‹_› fun t' s' c9 => ?_; (try clear c'); rename Cx _ _ _ => c'; refine spliced_none ?_; refine oNewL ‹_› (by exact Nat.le_of_ble_eq_true rfl) fun b' s' c9 => ?_; (try clear c'); rename Cx _ _ _ => c'; refine oNeLL (Room.u ‹_›) (Cx.lat ‹_› (mm1 _ _ _)) (Cx.lat ‹_› (mm0 _ _)) (saCut ‹_› _ _) saOne ?_; refine wpAny_truthy_bool ?_)
    rw [cut_last]
    rcases List.eq_nil_or_concat row with rfl | ⟨row, x, rfl⟩
    · first | refine iteDF (by simp) ?_ | rw [decide_eq_false (by simp)]
      (with_reducible refine iteNT ?_; refine seqCons fun Q9 hQ9 => ?_; refine wpAny_If ?_; refine isTrue_or ?_; refine wpAny_isTrue_Compare1 ?_; refine nL ‹_› (by kernel_rfl) (mm2 _ _ _ _) (mm0 _ _) ?_; refine List_ ?_; refine spliced_none ?_; refine oNewL ‹_› (by exact Nat.le_of_ble_eq_true rfl) fun b' s' c9 => ?_; (try clear c'); rename Cx _ _ _ => c'; refine oEqLL (Room.u ‹_›) (Cx.old ‹_› ‹_›) (Cx.lat ‹_› (mm0 _ _)) ‹_› saNil ?_; refine wpAny_truthy_bool ?_)
      first | refine iteDT (by simp) ?_ | rw [decide_eq_true (by simp)]
      ((with_reducible refine iteT ?_; refine seqCons fun Q9 hQ9 => ?_; refine wpAny_Return_some ?_; refine kBool ?_; refine seqRet ‹_› ?_; refine seqRet ‹_› ?_; refine seqRet ‹_› ?_; refine finRet ‹_› ?_); dsimp only)
      exact takesF_nil nm ▸ hQ _ c'.done
    · simp only [List.concat_eq_append] at *
      rw [drop_last_one (x := x) _ (by simp)]
      by_cases hx : x = []
      · subst hx
        first | refine iteDT rfl ?_ | rw [decide_eq_true rfl]
        ((with_reducible refine iteNF ?_; refine wpAny_execs_nil ?_; refine seqNext ‹_› ?_; refine asgI ‹_› AtI.const (by first | rfl | kernel_rfl) fun t' => ?_; refine Sto.loc (by kernel_rfl) (mm2 _ _ _ _) (pv2 _ _ _ _) (pt2 _ _ _ _) ?_; intro s' c9; (try clear c'); rename Cx _ _ _ => c'; refine seqCons fun Q9 hQ9 => ?_); refine wpAny_Assign_Name ?_ (hs := by first | rfl | kernel_rfl); (with_reducible refine kBool ?_; refine sL ‹_› (by kernel_rfl) (mm2 _ _ _ _) (pv3 _ _ _ _ _) (pt2 _ _ _ _) fun s' c9 => ?_; (try clear c'); rename Cx _ _ _ => c'; refine seqNext ‹_› ?_; refine seqCons fun Q9 hQ9 => ?_); refine wpAny_For ?_ (hs := by intro _; rfl); (with_reducible refine nL ‹_› (by kernel_rfl) (mm2 _ _ _ _) (mm0 _ _) ?_))
        replace c' := c'.drop ((List.sublist_cons_self ..).trans (List.sublist_cons_self ..))
        refine iterL c' (c'.old hl) (fun it s' c' => ?_)
        rw [takesF_star] at hQ
        generalize row ++ [[]] = row at *
        refine forW (walkL (vs := vs) hR.handled) (fun k T => Ex4 fun (at' : Nat) (b : Bool) (u : Tok) (o : Option Value) => An3 (at' ≤ nm.length) (greedyF row false nm = greedyF (row.drop k) b (nm.drop at')) (T = [(L, Rs.ns [("row", some (.ref l)), ("name", some (.str (S nm) t)), ("at", some (.int at' u)), ("loose", some (.bool b)), ("item", o)])]))
          (fun _ _ _ _ c => c.old hl) ?_ ?_ ⟨0, false, _, none, Nat.zero_le _, rfl, rfl⟩ c' (fun _ => rfl)
        · intro k v T s₂ hk hv h70 c Q8 E8 hQ8 hE8
          obtain ⟨at', b, u, o, hat, hI, rfl⟩ := h70
          obtain ⟨x, hxk, hdr⟩ : ∃ x, row[k]? = some x ∧ row.drop k = x :: row.drop (k + 1) := ⟨row[k]'(by (first | lia | omega)), List.getElem?_eq_getElem _, List.drop_eq_getElem_cons _⟩
          obtain ⟨tx, hv'⟩ := saGet hs (i := k) (y := S x) (by simp [hxk])
          rw [hv] at hv'; cases hv'
          refine wpAny_assign_Name ?_
          (with_reducible refine sL ‹_› (by kernel_rfl) (mm1 _ _ _) (pv4 _ _ _ _ _ _) (pt1 _ _ _) fun s' c9 => ?_; (try clear c'); rename Cx _ _ _ => c'; refine seqCons fun Q9 hQ9 => ?_; refine wpAny_If ?_; refine evS ‹_› (AtS.val (AtV.loc (by kernel_rfl) (mm1 _ _ _) (mm4 _ _ _ _ _ _))) (AtS.const q0) (by constructor) (by with_unfolding_all rfl) fun s' c9 => ?_; (try clear c'); rename Cx _ _ _ => c')
          rw [hdr] at hI
          by_cases hx : x = []
          · first | refine iteDT hx ?_ | rw [decide_eq_true hx]
            ((with_reducible refine seqCons fun Q9 hQ9 => ?_); refine wpAny_Assign_Name ?_ (hs := by first | rfl | kernel_rfl); (with_reducible refine kBool ?_; refine sL ‹_› (by kernel_rfl) (mm1 _ _ _) (pv3 _ _ _ _ _) (pt1 _ _ _) fun s' c9 => ?_; (try clear c'); rename Cx _ _ _ => c'; refine seqNext ‹_› ?_; refine wpAny_execs_nil ?_; refine seqNext ‹_› ?_; refine wpAny_execs_nil ?_; refine lfNext ‹_› ?_))
            exact ⟨_, ⟨at', true, u, _, hat, by rw [hI, greedyF, if_pos hx], rfl⟩, c'⟩
          · first | refine iteDF hx ?_ | rw [decide_eq_false hx]
            rw [greedyF, if_neg hx] at hI
            (with_reducible refine seqCons fun Q9 hQ9 => ?_; refine wpAny_While ?_)
            generalize hX : (if b = true then (nm.drop at').dropWhile (fun c => !x.contains c) else nm.drop at') = X at hI
            refine whileX (fun n T => Ex2 fun (a2 : Nat) (u : Tok) => An4 (a2 ≤ nm.length) (n = nm.length - a2) ((if b = true then (nm.drop a2).dropWhile (fun c => !x.contains c) else nm.drop a2) = X) (T = [(it, Rs.iter l (k + 1)), (L, Rs.ns [("row", some (.ref l)), ("name", some (.str (S nm) t)), ("at", some (.int a2 u)), ("loose", some (.bool b)), ("item", some (.str (S x) tx))])]))
              (fun T => Ex2 fun (a2 : Nat) (u : Tok) => An3 (a2 ≤ nm.length) (nm.drop a2 = X) (T = [(it, Rs.iter l (k + 1)), (L, Rs.ns [("row", some (.ref l)), ("name", some (.str (S nm) t)), ("at", some (.int a2 u)), ("loose", some (.bool b)), ("item", some (.str (S x) tx))])]))
              ?_ ?_ _ ⟨at', u, hat, rfl, hX, rfl⟩ c'
            · intro m T s₃ h70 c Q8 E8 hQ8 hE8
              obtain ⟨a2, u, ha2, rfl, hX, rfl⟩ := h70
              cases b with
              | false =>
                (with_reducible refine isTrue_and ?_; refine rTest (by with_unfolding_all rfl) ?_; refine nL ‹_› (by kernel_rfl) (mm1 _ _ _) (mm3 _ _ _ _ _) ?_; refine wpAny_truthy_bool ?_; refine iteF ?_; refine iteF ?_)
                exact ⟨_, ⟨a2, u, ha2, by simpa using hX, rfl⟩, c⟩
              | true =>
                (with_reducible refine isTrue_and ?_; refine rTest (by with_unfolding_all rfl) ?_; refine nL ‹_› (by kernel_rfl) (mm1 _ _ _) (mm3 _ _ _ _ _) ?_; refine wpAny_truthy_bool ?_; refine iteT ?_; refine isTrue_and ?_; refine wpAny_isTrue_Compare1 ?_; refine nL ‹_› (by kernel_rfl) (mm1 _ _ _) (mm2 _ _ _ _) ?_; refine rCallN ?_; refine nB ‹_› ‹_› (by kernel_rfl) (by rfl) (by rfl) (mm0 _ _) ?_; refine blV ‹_› (Ats.cons (AtV.loc (by kernel_rfl) (mm1 _ _ _) (mm1 _ _ _)) Ats.nil) ?_; refine oLenSS ‹_› (by first | assumption | wtm_at "zz_sz") fun t' s' c9 => ?_; (try clear c'); rename Cx _ _ _ => c'; refine lt_int ?_; refine wpAny_truthy_bool ?_)
                by_cases hlt : a2 < nm.length
                · first | refine iteDT (by (first | lia | omega)) ?_ | rw [decide_eq_true (by (first | lia | omega))]
                  (with_reducible refine isTrue_and ?_; refine wpAny_isTrue_Compare1 ?_)
                  refine evItem ‹_› (AtV.loc (by kernel_rfl) (mm1 _ _ _) (mm1 _ _ _)) (AtI.val (AtV.loc (by kernel_rfl) (mm1 _ _ _) (mm2 _ _ _ _))) a2 rfl (List.getElem?_eq_getElem hlt) (by wtm_at "zz_sz") (fun _ => rfl) (fun _ => rfl) (fun t s' c' => ?_)
                  (with_reducible refine nL ‹_› (by kernel_rfl) (mm1 _ _ _) (mm4 _ _ _ _ _ _) ?_; refine notInS1 ?_; refine wpAny_truthy_bool ?_)
                  rw [List.drop_eq_getElem_cons hlt, List.dropWhile_cons] at hX
                  cases hin : x.contains nm[a2] with
                  | true =>
                    (with_reducible refine iteNF ?_; refine iteF ?_)
                    refine ⟨_, ⟨a2, u, ha2, ?_, rfl⟩, c'⟩
                    simp only [if_true, hin, Bool.not_true, Bool.false_eq_true, if_false] at hX
                    rw [List.drop_eq_getElem_cons hlt, hX]
                  | false =>
                    (with_reducible refine iteNT ?_; refine isTrue_and_nil ?_; refine iteT ?_; refine augI (q := ⟨0, 0, 0, 0⟩) ‹_› (AtI.val (AtV.loc (by kernel_rfl) (mm1 _ _ _) (mm2 _ _ _ _))) AtI.const fun t' => ?_; refine Sto.loc (by kernel_rfl) (mm1 _ _ _) (pv2 _ _ _ _) (pt1 _ _ _) ?_; intro s' c9; (try clear c'); rename Cx _ _ _ => c'; refine wpAny_execs_nil ?_; refine lfNext ‹_› ?_)
                    refine ⟨_, _, ?_, ⟨a2 + 1, _, hlt, rfl, ?_, rfl⟩, c'⟩
                    · (first | lia | omega)
                    · simp only [if_true, hin, Bool.not_false] at hX
                      simpa using hX
                · first | refine iteDF (by (first | lia | omega)) ?_ | rw [decide_eq_false (by (first | lia | omega))]
                  (with_reducible refine iteF ?_)
                  refine ⟨_, ⟨a2, u, ha2, ?_, rfl⟩, c'⟩
                  rw [List.drop_of_length_le (by (first | lia | omega))] at hX ⊢
                  simpa using hX
            · rintro T s₃ ⟨a2, u, ha2, rfl, rfl⟩ c
              (with_reducible refine seqNext ‹_› ?_; refine seqCons fun Q9 hQ9 => ?_; refine wpAny_If ?_; refine isTrue_or ?_; refine wpAny_isTrue_Compare1 ?_; refine nL ‹_› (by kernel_rfl) (mm1 _ _ _) (mm2 _ _ _ _) ?_; refine rCallN ?_; refine nB ‹_› ‹_› (by kernel_rfl) (by rfl) (by rfl) (mm0 _ _) ?_; refine blV ‹_› (Ats.cons (AtV.loc (by kernel_rfl) (mm1 _ _ _) (mm1 _ _ _)) Ats.nil) ?_; refine oLenSS ‹_› (by first | assumption | wtm_at "zz_sz") fun t' s' c9 => ?_; (try clear c'); rename Cx _ _ _ => c'; refine oEqI ?_; refine wpAny_truthy_bool ?_)
              by_cases hlt : a2 < nm.length
              · first | refine iteDF (by (first | lia | omega)) ?_ | rw [decide_eq_false (by (first | lia | omega))]
                rw [List.drop_eq_getElem_cons hlt] at hI
                dsimp only at hI
                (with_reducible refine isTrue_or ?_; refine wpAny_isTrue_Compare1 ?_)
                refine evItem ‹_› (AtV.loc (by kernel_rfl) (mm1 _ _ _) (mm1 _ _ _)) (AtI.val (AtV.loc (by kernel_rfl) (mm1 _ _ _) (mm2 _ _ _ _))) a2 rfl (List.getElem?_eq_getElem hlt) (by wtm_at "zz_sz") (fun _ => rfl) (fun _ => rfl) (fun t s' c' => ?_)
                (with_reducible refine nL ‹_› (by kernel_rfl) (mm1 _ _ _) (mm4 _ _ _ _ _ _) ?_; refine notInS1 ?_; refine wpAny_truthy_bool ?_)
                cases hin : x.contains nm[a2] with
                | true =>
                  rw [hin, Bool.true_and] at hI
                  ((with_reducible refine iteNF ?_; refine isTrue_or_nil ?_; refine iteF ?_; refine wpAny_execs_nil ?_; refine seqNext ‹_› ?_; refine augI (q := ⟨0, 0, 0, 0⟩) ‹_› (AtI.val (AtV.loc (by kernel_rfl) (mm1 _ _ _) (mm2 _ _ _ _))) AtI.const fun t' => ?_; refine Sto.loc (by kernel_rfl) (mm1 _ _ _) (pv2 _ _ _ _) (pt1 _ _ _) ?_; intro s' c9; (try clear c'); rename Cx _ _ _ => c'; refine seqCons fun Q9 hQ9 => ?_); refine wpAny_Assign_Name ?_ (hs := by first | rfl | kernel_rfl); (with_reducible refine kBool ?_; refine sL ‹_› (by kernel_rfl) (mm1 _ _ _) (pv3 _ _ _ _ _) (pt1 _ _ _) fun s' c9 => ?_; (try clear c'); rename Cx _ _ _ => c'; refine seqNext ‹_› ?_; refine wpAny_execs_nil ?_; refine seqNext ‹_› ?_; refine wpAny_execs_nil ?_; refine lfNext ‹_› ?_))
                  exact ⟨_, ⟨a2 + 1, false, _, _, hlt, hI, rfl⟩, c'⟩
                | false =>
                  rw [hin, Bool.false_and] at hI
                  ((with_reducible refine iteNT ?_; refine iteT ?_; refine seqCons fun Q9 hQ9 => ?_; refine wpAny_Return_some ?_; refine kBool ?_; refine seqRet ‹_› ?_; refine seqRet ‹_› ?_; refine seqRet ‹_› ?_; refine lfRet ‹_› ?_; refine seqRet ‹_› ?_; refine finRet ‹_› ?_); dsimp only)
                  exact hI ▸ hQ _ c'.done
              · first | refine iteDT (by (first | lia | omega)) ?_ | rw [decide_eq_true (by (first | lia | omega))]
                rw [List.drop_of_length_le (by (first | lia | omega))] at hI
                dsimp only at hI
                ((with_reducible refine iteT ?_; refine seqCons fun Q9 hQ9 => ?_; refine wpAny_Return_some ?_; refine kBool ?_; refine seqRet ‹_› ?_; refine seqRet ‹_› ?_; refine seqRet ‹_› ?_; refine lfRet ‹_› ?_; refine seqRet ‹_› ?_; refine finRet ‹_› ?_); dsimp only)
                exact hI ▸ hQ _ c'.done
        · rintro T s₂ ⟨at', b, u, o, hat, hI, rfl⟩ c
          ((with_reducible refine seqNext ‹_› ?_; refine seqCons fun Q9 hQ9 => ?_; refine wpAny_Return_some ?_; refine kBool ?_; refine seqRet ‹_› ?_; refine finRet ‹_› ?_); dsimp only)
          have : greedyF row false nm = true := by rw [hI, List.drop_of_length_le (by (first | lia | omega))]; rfl
          exact this ▸ hQ _ c.done
      · first | refine iteDF (by simpa using hx) ?_ | rw [decide_eq_false (by simpa using hx)]
        (with_reducible refine iteNT ?_; refine seqCons fun Q9 hQ9 => ?_; refine wpAny_If ?_; refine isTrue_or ?_; refine wpAny_isTrue_Compare1 ?_; refine nL ‹_› (by kernel_rfl) (mm2 _ _ _ _) (mm0 _ _) ?_; refine List_ ?_; refine spliced_none ?_; refine oNewL ‹_› (by exact Nat.le_of_ble_eq_true rfl) fun b' s' c9 => ?_; (try clear c'); rename Cx _ _ _ => c'; refine oEqLL (Room.u ‹_›) (Cx.old ‹_› ‹_›) (Cx.lat ‹_› (mm0 _ _)) ‹_› saNil ?_; refine wpAny_truthy_bool ?_)
        first | refine iteDF (by simp) ?_ | rw [decide_eq_false (by simp)]
        (with_reducible refine isTrue_or ?_; refine evS ‹_› (AtS.val (AtV.loc (by kernel_rfl) (mm3 _ _ _ _ _) (mm1 _ _ _))) (AtS.const q0) (by constructor) (by with_unfolding_all rfl) fun s' c9 => ?_; (try clear c'); rename Cx _ _ _ => c')
        rcases List.eq_nil_or_concat nm with rfl | ⟨nm, ch, rfl⟩
        · first | refine iteDT rfl ?_ | rw [decide_eq_true rfl]
          ((with_reducible refine iteT ?_; refine seqCons fun Q9 hQ9 => ?_; refine wpAny_Return_some ?_; refine kBool ?_; refine seqRet ‹_› ?_; refine seqRet ‹_› ?_; refine seqRet ‹_› ?_; refine finRet ‹_› ?_); dsimp only)
          have : takesF (row ++ [x]) [] = false := by rw [takesF_snoc _ _ hx]; rfl
          exact this ▸ hQ _ c'.done
        · simp only [List.concat_eq_append] at *
          first | refine iteDF (by simp) ?_ | rw [decide_eq_false (by simp)]
          have hz3 : (nm ++ [ch]).length ≤ sizeLine := by unfold sizeLine; (first | lia | omega)
          (with_reducible refine isTrue_or ?_; refine wpAny_isTrue_Compare1 ?_; refine evSub ‹_› (AtV.loc (by kernel_rfl) (mm3 _ _ _ _ _) (mm1 _ _ _)) (AtI.neg AtI.const) fun t' s' c9 => ?_; (try clear c'); rename Cx _ _ _ => c')
          refine oItemLast c' (ch := ch) (by simp) hz3 rfl (fun _ => rfl) (fun t s' c' => ?_)
          (with_reducible refine evSub ‹_› (AtV.loc (by kernel_rfl) (mm3 _ _ _ _ _) (mm0 _ _)) (AtI.neg AtI.const) fun t' s' c9 => ?_; (try clear c'); rename Cx _ _ _ => c')
          obtain ⟨t', hv'⟩ := saGet hs (i := row.length) (y := S x) (by simp)
          refine oItemLneg (c'.old hl) (by decide) (by simp at hvz ⊢; (first | lia | omega)) (by decide) (v := .str (S x) t') (by simp at hvz ⊢; rw [← hv']; congr 1; (first | lia | omega)) rfl ?_
          (with_reducible refine notInS1 ?_; refine wpAny_truthy_bool ?_)
          have hfin : takesF (row ++ [x]) (nm ++ [ch]) = (x.contains ch && takesF row nm) := by rw [takesF_snoc _ _ hx]; simp
          cases hin : x.contains ch with
          | false =>
            ((with_reducible refine iteNT ?_; refine iteT ?_; refine seqCons fun Q9 hQ9 => ?_; refine wpAny_Return_some ?_; refine kBool ?_; refine seqRet ‹_› ?_; refine seqRet ‹_› ?_; refine seqRet ‹_› ?_; refine finRet ‹_› ?_); dsimp only)
            rw [hin, Bool.false_and] at hfin
            exact hfin ▸ hQ _ c'.done
          | true =>
            rw [hin, Bool.true_and] at hfin
            (with_reducible refine iteNF ?_; refine isTrue_or_nil ?_; refine iteF ?_; refine wpAny_execs_nil ?_; refine seqNext ‹_› ?_; refine seqCons fun Q9 hQ9 => ?_; refine wpAny_Return_some ?_; refine rCallN ?_; refine nG ‹_› ‹_› (by kernel_rfl) (by rfl) ‹_› ?_; refine rFn ‹_› (by with_unfolding_all rfl) ?_; refine rMore (by with_unfolding_all rfl) ?_; refine evCL ‹_› (AtV.loc (by kernel_rfl) (mm3 _ _ _ _ _) (mm0 _ _)) AtP.none (AtP.some (AtI.neg AtI.const)) (fun s' c9 => (Cx.old ‹_› ‹_›)) (by first | assumption | wtm_at "zz_sz") (by intro _; with_unfolding_all rfl) (by intro _ _; with_unfolding_all rfl) fun b' s' c9 => ?_; (try clear c'); rename Cx _ _ _ => c'; refine rMore (by with_unfolding_all rfl) ?_; refine evNS ‹_› (AtS.val (AtV.loc (by kernel_rfl) (mm4 _ _ _ _ _ _) (mm1 _ _ _))) (AtI.neg AtI.const) (by first | assumption | wtm_at "zz_sz") (by intro _ _; with_unfolding_all rfl) (by intro _ _; with_unfolding_all rfl) fun t' s' c9 => ?_; (try clear c'); rename Cx _ _ _ => c'; refine spliced_none ?_; refine ⟨Cx.keep ‹_›, ?_⟩)
            have hs2 := saCut hs none (some (-1))
            rw [cut_init, cut_init, List.dropLast_concat] at hs2
            rw [cut_init] at c'
            rw [cut_init, List.dropLast_concat]
            have hl2 : (row ++ [x]).length = row.length + 1 := by simp
            have hl3 : (nm ++ [ch]).length = nm.length + 1 := by simp
            rw [hl2] at hR
            refine ih row.length (by (first | lia | omega)) rfl hR (F.keeps c'.keep) (G.keeps c'.keep) (c'.lat ((mm0 _ _))) hs2 (by (first | lia | omega)) (by (first | lia | omega)) (fun s' hkp => ?_)
            replace c' := c'.keeps hkp
            ((with_reducible refine seqRet ‹_› ?_; refine seqRet ‹_› ?_; refine finRet ‹_› ?_); dsimp only)
            exact hfin ▸ hQ _ c'.done
end
section
set_option maxRecDepth 100000
open PySem PySem.W PyProof.Rows PySem.Calls
open Builtin Builtin.Str
noncomputable def findL (l : List Nat) (c lo hi : Nat) : Option Nat := (List.range' lo (hi - lo)).find? fun k => l[k]? == some c
theorem sub_one (l : List Nat) (c i : Nat) : subAt (S l) (S [c]) i = true ↔ l[i]? = some c := by
  rw [StrLaws.subAt_eq]
  show (((S l).cps.toList.drop i).take 1 == [c]) = true ↔ _
  rw [StrLaws.take1_drop, S_toList]
theorem at_one {l : List Nat} {c i hi : Nat} : StrLaws.At (S l) (S [c]) hi i ↔ i + 1 ≤ hi ∧ l[i]? = some c := by
  unfold StrLaws.At
  rw [sub_one]; rfl
theorem occ_find (l : List Nat) (c lo hi : Nat) : (occurrences (S l) (S [c]) lo hi 1).head? = findL l c lo hi := by
  rw [StrLaws.occ_eq]
  unfold findL
  rcases StrLaws.occ_first (S l) (S [c]) hi 1 (Nat.le_refl 1) (List.range' lo (hi + 1 - lo)) lo (fun i hi => by have := List.mem_range'_1.mp hi; (first | lia | omega)) with ⟨h0, hn⟩ | ⟨pre, a, post, e, h0, ha, hn⟩
  · rw [h0]
    symm
    refine List.find?_eq_none.mpr fun i hi' => ?_
    have h1 := List.mem_range'_1.mp hi'
    have h2 := hn i (List.mem_range'_1.mpr (by (first | lia | omega)))
    rw [at_one] at h2
    simp; intro h3; exact h2 ⟨by (first | lia | omega), h3⟩
  · have hs := StrLaws.range'_split_from e
    rw [at_one] at ha
    have e2 : ((forIn (List.range' lo (hi + 1 - lo)) ((#[] : Array Nat), lo) (StrLaws.occBody (S l) (S [c]) hi 1)).run.fst.toList).head? = some a := by
      rw [List.head?_eq_getElem?, Array.getElem?_toList]; exact h0
    rw [e2]
    symm
    rw [List.find?_range'_eq_some]
    refine ⟨by simp [ha.2], List.mem_range'_1.mpr (by (first | lia | omega)), fun j h1 h2 => ?_⟩
    have h3 := hn j (hs.2 j h1 h2)
    rw [at_one] at h3
    simp; intro h4; exact h3 ⟨by (first | lia | omega), h4⟩
theorem find_idx (l : List Nat) (c : Nat) (h : c ∈ l) : findL l c 0 l.length = some (l.idxOf c) := by
  unfold findL
  rw [List.find?_range'_eq_some]
  have hlt := List.idxOf_lt_length_iff.mpr h
  refine ⟨?_, List.mem_range'_1.mpr ⟨Nat.zero_le _, by simpa using hlt⟩, fun j _ hj => ?_⟩
  · simp [List.getElem?_eq_getElem hlt]
  · have := List.not_of_lt_findIdx (p := (· == c)) (xs := l) (i := j) hj
    have hj2 : j < l.length := by (first | lia | omega)
    simp [List.getElem?_eq_getElem hj2]
    simpa using this
/-! pairs on the heap -/
noncomputable def PairsAt (h : Heap) (vs : List Value) (ps : List (List Nat × List Nat × Nat)) : Prop :=
  vs.length = ps.length ∧ ∀ (i : Nat) (p : List Nat × List Nat × Nat), ps[i]? = some p → ∃ (a : Addr) (t u k : Tok), vs[i]? = some (.ref a) ∧ IsTup h a #[.str (S p.1) t, .str (S p.2.1) u, .int p.2.2 k]
theorem IsTup.keeps' {h h' : Heap} {a : Addr} {xs : Array Value} (x : IsTup h a xs) (k : ∀ b o, h.get? b = some o → h'.get? b = some o) : IsTup h' a xs :=
  let ⟨o, ho, r⟩ := x; ⟨o, k _ _ ho, r⟩
section
variable {prog : Program} {w : World} {A : Around} {E : Value → Shared → Prop} {s₀ s : Shared} {T T' : Tab} {a : Addr} {v : Value} {env : Env} {pos : Pos}
theorem oIdxS {y : List Nat} {ch : Nat} {t u : Tok} {Q : Value → Shared → Prop} (c : Cx s₀ s T) (hm : ch ∈ y) (h : ∀ t s', Cx s₀ s' T → Q (.int (y.idxOf ch : Nat) t) s') : wpAny (model prog w) A (call (.builtin "str.index") [.str (S y) t, .str (S [ch]) u]) Q E s := by
  have e := occ_find y ch 0 y.length
  rw [find_idx y ch hm] at e
  obtain ⟨r, e⟩ := List.head?_eq_some_iff.mp e
  exact SC.index (by rw [S_len]; exact e) (h _ _ (c.tok _))
theorem gmIdx {y : Str} {t : Tok} {pl : Sem Bool} {Q : Value × List Value → Shared → Prop} (h : Q (.builtin "str.index", [.str y t]) s) : wpAny (model prog w) A (getMethod (.str y t) "index" pl) Q E s := by with_reducible exact GM.index h
theorem oUnTup {elts : List Expr} {k} {items : List Value} {Q : Unit → Shared → Prop} (c : Cx s₀ s T) (hh : A.handled = none) (ht : IsTup s.heap a items.toArray)
    (hn : (assignEach elts env).length = items.length) (hstar : (assignEach elts env).findIdx? (·.1) = none)
    (h : ∀ s', Cx s₀ s' T → wpAny (model prog w) A (assignInOrder ((assignEach elts env).map (·.2)) items) Q E s') : wpAny (model prog w) A (assign (.Tuple elts k pos) env (.ref a)) Q E s :=
  assign_Tuple_tuple hh ht (by simpa using hn) hstar fun h' he => by
    have := h _ (c.grow (h' := h') s.toks fun b o e => he b o (Nat.ne_of_lt (Heap.lt_size e)) e)
    exact this
theorem rMeth {o : Expr} {name : Str} {apos pos : Pos} {args : List Expr} {Q : Value → Shared → Prop}
    (he : eval (.Call (.Attribute o name apos) args [] pos) env = (do
      let ov ← eval o env
      standAt apos.atName
      let (f, first) ← holding [ov] (getMethod ov name (do return (← importBound o env).getD true))
      callWith pos f first (backTo pos (starEach args env)) []))
    (h : wpAny (model prog w) A (eval o env) (fun ov s₁ => wpAny (model prog w) A (getMethod ov name (do return (← importBound o env).getD true)) (fun fx s₂ => wpAny (model prog w) A (callWith pos fx.1 fx.2 (backTo pos (starEach args env)) []) Q E s₂) E s₁) E s) :
    wpAny (model prog w) A (eval (.Call (.Attribute o name apos) args [] pos) env) Q E s := MethodCall_ h he
theorem rUnN {x : Str} {p : Pos} {rest : List Expr} {vs : List Value} {Q : Unit → Shared → Prop} (h : wpAny (model prog w) A (storeName env x v) (fun _ s₁ => wpAny (model prog w) A (assignInOrder ((assignEach rest env).map (·.2)) vs) Q E s₁) E s) :
    wpAny (model prog w) A (assignInOrder ((assignEach (.Name x p :: rest) env).map (·.2)) (v :: vs)) Q E s :=
  assignInOrder_cons (wpAny_assign_Name h)
theorem rUn0 {Q : Unit → Shared → Prop} (h : Q () s) : wpAny (model prog w) A (assignInOrder ((assignEach [] env).map (·.2)) []) Q E s := assignInOrder_nil h
end
end
section
set_option maxRecDepth 100000
set_option maxHeartbeats 4000000
open PySem PySem.W PyProof.Rows PySem.Calls
noncomputable def dressStep (ps : List (List Nat × List Nat × Nat)) (head tail : Nat) (nm : List Nat) (st : List Nat × Nat) (j : Nat) : List Nat × Nat :=
  if st.2 = ps.length - tail ∧ j < 3 - tail then (st.1 ++ [nm[j]?.getD 0], st.2)
  else
    (fun f => (fun (p : List Nat × List Nat × Nat) => (fun spot => (st.1 ++ [p.2.1[spot]?.getD 0], if spot < p.2.2 ∨ j < head then f + 1 else f)) (p.1.idxOf (nm[j]?.getD 0))) (ps[f]?.getD ([], [], 0))) (if 3 - tail ≤ j then ps.length - 1 else st.2)
noncomputable def dressF (ps : List (List Nat × List Nat × Nat)) (head tail : Nat) (nm : List Nat) : List Nat := ((List.range 3).foldl (dressStep ps head tail nm) ([], 0)).1
theorem dress_ok {mg mb : Str → Option Value} {w : World} {f : Addr} {A : Around} {Q E : Value → Shared → Prop} {s : Shared} {l : Addr} {vs : List Value} {ps : List (List Nat × List Nat × Nat)} {nm : List Nat} {head tail : Nat} {t u v : Tok}
    (hA : Room A 3) (F : FnAt s.heap dDress f) (G : Gl dAll mg mb s.heap) (hl : LstAt s.heap l vs) (hps : PairsAt s.heap vs ps) (hz1 : ps.length ≤ 1000) (hnm : nm.length = 3) (h1 : 1 ≤ ps.length) (ht1 : tail ≤ 1) (hh1 : head ≤ 1)
    (hp : ∀ p ∈ ps, p.1.length = 3 ∧ p.2.1.length = 3 ∧ ∀ ch ∈ nm, ch ∈ p.1)
    (hQ : ∀ t s', Keeps s s' → Q (.str (S (dressF ps head tail nm)) t) s') : wpAny (model PW w) A (call (.ref f) [.str (S nm) t, .ref l, .int head u, .int tail v]) Q E s := by
    refine callD (binds := [("name", .str (S nm) t), ("pairs", .ref l), ("head", .int head u), ("tail", .int tail v)]) [("name", .str (S nm) t), ("pairs", .ref l), ("head", .int head u), ("tail", .int tail v)] [] ["told", "found", "at", "old", "new", "size", "spot"] [] ["name", "pairs", "head", "tail", "told", "found", "at", "old", "new", "size", "spot"] _ [] (ks2 := []) hA.d F G.lim (fun _ _ _ => by kernel_rfl) (by kernel_rfl) (by kernel_rfl) (by kernel_rfl)
      (by kernel_rfl) (by kernel_rfl) (by decide +kernel) (by decide +kernel) (by kernel_rfl) (by decide +kernel) rfl (by kernel_rfl) (by kernel_rfl) (by kernel_rfl) (by kernel_rfl) ?_
    intro L code as s₁ has c
    simp only [List.map_cons, List.map_nil, List.cons_append, List.nil_append, List.zip_nil_right, List.zip_nil_left] at c ⊢
    have hR : Room (A.deeper (envC dDress L f code [])) 2 := Room.deeper hA
    have hvz := hps.1
    generalize hA9 : A.deeper _ = A9 at hR ⊢
    refine ent ?_
    intro Q9 E9 hQ9 hE9
    refine seqCons ?_
    intro Q7 hQ7
    (refine wpAny_Assign_Name ?_ (hs := by first | rfl | kernel_rfl); (with_reducible refine kStrS q0 ‹_› fun t' s' c9 => ?_; (try clear c'); rename Cx _ _ _ => c'; refine sL ‹_› (by kernel_rfl) (mm0 _ _) (pv4 _ _ _ _ _ _) (pt0 _ _) fun s' c9 => ?_; (try clear c'); rename Cx _ _ _ => c'; refine seqNext ‹_› ?_; refine asgI ‹_› AtI.const (by first | rfl | kernel_rfl) fun t' => ?_; refine Sto.loc (by kernel_rfl) (mm0 _ _) (pv5 _ _ _ _ _ _ _) (pt0 _ _) ?_; intro s' c9; (try clear c'); rename Cx _ _ _ => c'; refine seqCons fun Q9 hQ9 => ?_); refine wpAny_For ?_ (hs := by intro _; rfl); (with_reducible refine rCallN ?_; refine nB ‹_› ‹_› (by kernel_rfl) (by rfl) (by rfl) (mm1 _ _ _) ?_; refine rT1 (by with_unfolding_all rfl) ?_; refine rMore (by with_unfolding_all rfl) ?_; refine kInt ‹_› fun t' s' c9 => ?_; (try clear c'); rename Cx _ _ _ => c'; refine spliced_none ?_; refine rangeIter1 ‹_› (by first | assumption | omega | wtm_at "zz_sz") (by first | assumption | omega | wtm_at "zz_sz") fun it' s' c9 => ?_; (try clear c'); rename Cx _ _ _ => c'))
    refine forW (walkR1 (n := 3) hR.handled) (fun k T => Ex8 fun (st : List Nat × Nat) (t1 t2 : Tok) (o1 o2 o3 o4 o5 : Option Value) => An4 ((List.range k).foldl (dressStep ps head tail nm) ([], 0) = st) (st.1.length = k) ((k ≤ 3 - tail → st.2 ≤ ps.length - tail)) (T = [(L, Rs.ns [("name", some (.str (S nm) t)), ("pairs", some (.ref l)), ("head", some (.int head u)), ("tail", some (.int tail v)), ("told", some (.str (S st.1) t1)), ("found", some (.int (st.2 : Nat) t2)), ("at", o1), ("old", o2), ("new", o3), ("size", o4), ("spot", o5)])]))
      (fun _ _ _ _ _ => trivial) ?_ ?_ ⟨([], 0), _, _, none, none, none, none, none, rfl, rfl, fun _ => Nat.zero_le _, rfl⟩ (by simpa using c') (fun _ => rfl)
    · intro j v T s₂ hj h70 h71 c Q8 E8 hQ8 hE8
      obtain ⟨tj, rfl⟩ := h70
      obtain ⟨st, t1, t2, o1, o2, o3, o4, o5, hst, hlen, hle, rfl⟩ := h71
      have hnext : (List.range (j + 1)).foldl (dressStep ps head tail nm) ([], 0) = dressStep ps head tail nm st j := by rw [List.range_succ, List.foldl_append, hst]; rfl
      have hjn : j < nm.length := by (first | lia | omega)
      have hch : nm[j]?.getD 0 = nm[j] := by rw [List.getElem?_eq_getElem hjn]; rfl
      have hzn : nm.length ≤ sizeLine := by unfold sizeLine; (first | lia | omega)
      obtain ⟨nx, hnx⟩ : ∃ nx, dressStep ps head tail nm st j = nx := ⟨_, rfl⟩
      rw [hnx] at hnext
      unfold dressStep at hnx
      rw [hch] at hnx
      dsimp only at hnx
      refine wpAny_assign_Name ?_
      (with_reducible refine sL ‹_› (by kernel_rfl) (mm1 _ _ _) (pv6 _ _ _ _ _ _ _ _) (pt1 _ _ _) fun s' c9 => ?_; (try clear c'); rename Cx _ _ _ => c'; refine seqCons fun Q9 hQ9 => ?_; refine wpAny_If ?_)
      rcases (by (first | lia | omega) : (st.2 = ps.length - tail ∧ j < 3 - tail) ∨ (¬ (st.2 = ps.length - tail ∧ j < 3 - tail))) with hfirst | hfirst
      · (with_reducible refine isTrue_and ?_; refine wpAny_isTrue_Compare1 ?_; refine nL ‹_› (by kernel_rfl) (mm1 _ _ _) (mm5 _ _ _ _ _ _ _) ?_; refine wpAny_BinOp ?_; refine rCallN ?_; refine nB ‹_› ‹_› (by kernel_rfl) (by rfl) (by rfl) (mm0 _ _) ?_; refine blV ‹_› (Ats.cons (AtV.loc (by kernel_rfl) (mm1 _ _ _) (mm1 _ _ _)) Ats.nil) ?_; refine oLenL ‹_› (Cx.old ‹_› ‹_›) (by first | assumption | wtm_at "zz_sz") fun t' s' c9 => ?_; (try clear c'); rename Cx _ _ _ => c'; refine nL ‹_› (by kernel_rfl) (mm1 _ _ _) (mm3 _ _ _ _ _) ?_; refine oSub ‹_› fun t' s' c9 => ?_; (try clear c'); rename Cx _ _ _ => c'; refine oEqI ?_; refine wpAny_truthy_bool ?_)
        first | refine iteDT (by (first | lia | omega)) ?_ | rw [decide_eq_true (by (first | lia | omega))]
        (with_reducible refine isTrue_and ?_; refine evI ‹_› (AtI.val (AtV.loc (by kernel_rfl) (mm1 _ _ _) (mm6 _ _ _ _ _ _ _ _))) (AtI.sub AtI.const (AtI.val (AtV.loc (by kernel_rfl) (mm1 _ _ _) (mm3 _ _ _ _ _)))) (by constructor) (by with_unfolding_all rfl) fun s' c9 => ?_; (try clear c'); rename Cx _ _ _ => c')
        first | refine iteDT (by (first | lia | omega)) ?_ | rw [decide_eq_true (by (first | lia | omega))]
        rw [if_pos hfirst] at hnx
        (with_reducible refine isTrue_and_nil ?_; refine iteT ?_; refine seqCons fun Q9 hQ9 => ?_; refine wpAny_AugAssign_Name ?_; refine lL ‹_› (by kernel_rfl) (mm1 _ _ _) (mm4 _ _ _ _ _ _) ?_)
        refine evItem ‹_› (AtV.loc (by kernel_rfl) (mm1 _ _ _) (mm0 _ _)) (AtI.val (AtV.loc (by kernel_rfl) (mm1 _ _ _) (mm6 _ _ _ _ _ _ _ _))) j rfl (List.getElem?_eq_getElem hjn) hzn (fun _ => rfl) (fun _ => rfl) (fun t s' c' => ?_)
        (with_reducible refine oIcatS ‹_› (by first | assumption | wtm_at "zz_sz") fun t' s' c9 => ?_; (try clear c'); rename Cx _ _ _ => c'; refine sL ‹_› (by kernel_rfl) (mm1 _ _ _) (pv4 _ _ _ _ _ _) (pt1 _ _ _) fun s' c9 => ?_; (try clear c'); rename Cx _ _ _ => c'; refine seqNext ‹_› ?_; refine wpAny_execs_nil ?_; refine seqNext ‹_› ?_; refine wpAny_execs_nil ?_; refine lfNext ‹_› ?_)
        refine ⟨_, ⟨_, _, _, _, _, _, _, _, hnext.trans hnx.symm, by simp [hlen], fun _ => by simpa using (by (first | lia | omega)), rfl⟩, c'⟩
      · rw [if_neg hfirst] at hnx
        obtain ⟨fi, hf⟩ : ∃ fi, fi = if 3 - tail ≤ j then ps.length - 1 else st.2 := ⟨_, rfl⟩
        have hfl : fi < ps.length := by split at hf <;> (first | lia | omega)
        have hfle : j + 1 ≤ 3 - tail → fi + 1 ≤ ps.length - tail := by split at hf <;> (first | lia | omega)
        rw [← hf] at hnx
        obtain ⟨ap, pt, pu, pk, hv1, htup⟩ := hps.2 fi ps[fi] (List.getElem?_eq_getElem hfl)
        obtain ⟨hp1, hp2, hp3⟩ := hp ps[fi] (List.getElem_mem hfl)
        rw [List.getElem?_eq_getElem hfl] at hnx
        generalize ps[fi] = p at *
        obtain ⟨p1, p2, p3⟩ := p
        dsimp only [Option.getD_some] at hnx hp1 hp2 hp3 htup
        have hm := hp3 _ (List.getElem_mem hjn)
        have hsp : p1.idxOf nm[j] < p2.length := by have := List.idxOf_lt_length_iff.mpr hm; (first | lia | omega)
        have hsp1 := List.getElem?_eq_getElem hsp
        rw [hsp1] at hnx
        have hz2 : p2.length ≤ sizeLine := by unfold sizeLine; (first | lia | omega)
        have hcas : (st.2 ≠ ps.length - tail) ∨ (st.2 = ps.length - tail ∧ ¬ j < 3 - tail) := by (first | lia | omega)
        refine' cutC false c' ?hone ?htwo
        case hone =>
          ((with_reducible refine isTrue_and ?_; refine wpAny_isTrue_Compare1 ?_; refine nL ‹_› (by kernel_rfl) (mm1 _ _ _) (mm5 _ _ _ _ _ _ _) ?_; refine wpAny_BinOp ?_; refine rCallN ?_; refine nB ‹_› ‹_› (by kernel_rfl) (by rfl) (by rfl) (mm0 _ _) ?_; refine blV ‹_› (Ats.cons (AtV.loc (by kernel_rfl) (mm1 _ _ _) (mm1 _ _ _)) Ats.nil) ?_; refine oLenL ‹_› (Cx.old ‹_› ‹_›) (by first | assumption | wtm_at "zz_sz") fun t' s' c9 => ?_; (try clear c'); rename Cx _ _ _ => c'; refine nL ‹_› (by kernel_rfl) (mm1 _ _ _) (mm3 _ _ _ _ _) ?_; refine oSub ‹_› fun t' s' c9 => ?_; (try clear c'); rename Cx _ _ _ => c'; refine oEqI ?_; refine wpAny_truthy_bool ?_); dsimp only)
          rcases hcas with hcas | hcas
          · refine iteDF (by (first | lia | omega)) ?_
            skip
            exact ⟨rfl, c'⟩
          · refine iteDT (by (first | lia | omega)) ?_
            (with_reducible refine isTrue_and ?_; refine evI ‹_› (AtI.val (AtV.loc (by kernel_rfl) (mm1 _ _ _) (mm6 _ _ _ _ _ _ _ _))) (AtI.sub AtI.const (AtI.val (AtV.loc (by kernel_rfl) (mm1 _ _ _) (mm3 _ _ _ _ _)))) (by constructor) (by with_unfolding_all rfl) fun s' c9 => ?_; (try clear c'); rename Cx _ _ _ => c')
            refine iteDF (by (first | lia | omega)) ?_
            exact ⟨rfl, c'⟩
        intro s' c'
        (with_reducible refine iteF ?_; refine seqCons fun Q9 hQ9 => ?_; refine wpAny_If ?_; refine evI ‹_› (AtI.val (AtV.loc (by kernel_rfl) (mm1 _ _ _) (mm6 _ _ _ _ _ _ _ _))) (AtI.sub AtI.const (AtI.val (AtV.loc (by kernel_rfl) (mm1 _ _ _) (mm3 _ _ _ _ _)))) (by constructor) (by with_unfolding_all rfl) fun s' c9 => ?_; (try clear c'); rename Cx _ _ _ => c')
        refine cutIf .next (fun s' => ∃ t2, Cx s s' ((it', Rs.obj (rIt ((j + 1 : Nat) : Int) (((3 : Nat) : Int) - ((j + 1 : Nat) : Int)) 1)) :: [(L, Rs.ns [("name", some (.str (S nm) t)), ("pairs", some (.ref l)), ("head", some (.int head u)), ("tail", some (.int tail v)), ("told", some (.str (S st.1) t1)), ("found", some (.int (fi : Nat) t2)), ("at", some (.int (j : Nat) tj)), ("old", o2), ("new", o3), ("size", o4), ("spot", o5)])])) ?_ ?_
        · by_cases hj3 : 3 - tail ≤ j
          · refine iteDT (by (first | lia | omega)) ?_
            ((with_reducible refine seqCons fun Q9 hQ9 => ?_); refine wpAny_Assign_Name ?_ (hs := by first | rfl | kernel_rfl); (with_reducible refine wpAny_BinOp ?_; refine rCallN ?_; refine nB ‹_› ‹_› (by kernel_rfl) (by rfl) (by rfl) (mm0 _ _) ?_; refine blV ‹_› (Ats.cons (AtV.loc (by kernel_rfl) (mm1 _ _ _) (mm1 _ _ _)) Ats.nil) ?_; refine oLenL ‹_› (Cx.old ‹_› ‹_›) (by first | assumption | wtm_at "zz_sz") fun t' s' c9 => ?_; (try clear c'); rename Cx _ _ _ => c'; refine kInt ‹_› fun t' s' c9 => ?_; (try clear c'); rename Cx _ _ _ => c'; refine oSub ‹_› fun t' s' c9 => ?_; (try clear c'); rename Cx _ _ _ => c'; refine sL ‹_› (by kernel_rfl) (mm1 _ _ _) (pv5 _ _ _ _ _ _ _) (pt1 _ _ _) fun s' c9 => ?_; (try clear c'); rename Cx _ _ _ => c'; refine seqNext ‹_› ?_; refine wpAny_execs_nil ?_))
            rw [show (vs.length : Int) - 1 = (fi : Int) by rw [hf, if_pos hj3]; (first | lia | omega)] at c'
            exact ⟨rfl, _, c'⟩
          · refine iteDF (by (first | lia | omega)) ?_
            (with_reducible refine wpAny_execs_nil ?_)
            rw [show st.2 = fi by rw [hf, if_neg hj3]] at c'
            exact ⟨rfl, _, c'⟩
        rintro s' ⟨t2', c'⟩
        (with_reducible refine seqNext ‹_› ?_; refine seqCons fun Q9 hQ9 => ?_; refine Assign_Tuple ?_ (hs := by with_unfolding_all rfl) (hw := by with_unfolding_all rfl); refine evSub ‹_› (AtV.loc (by kernel_rfl) (mm1 _ _ _) (mm1 _ _ _)) (AtI.val (AtV.loc (by kernel_rfl) (mm1 _ _ _) (mm5 _ _ _ _ _ _ _))) fun t' s' c9 => ?_; (try clear c'); rename Cx _ _ _ => c')
        refine oItemL (c'.old hl) (by (first | lia | omega)) (by (first | lia | omega)) (by simpa using hv1) rfl ?_
        have htup' := IsTup.keeps' htup c'.keep
        ((with_reducible refine oUnTup ‹_› (Room.handled ‹_›) ‹_› (by with_unfolding_all rfl) (by with_unfolding_all rfl) fun s' c9 => ?_; (try clear c'); rename Cx _ _ _ => c'; refine rUnN ?_; refine sL ‹_› (by kernel_rfl) (mm1 _ _ _) (pv7 _ _ _ _ _ _ _ _ _) (pt1 _ _ _) fun s' c9 => ?_; (try clear c'); rename Cx _ _ _ => c'; refine rUnN ?_; refine sL ‹_› (by kernel_rfl) (mm1 _ _ _) (pv8 _ _ _ _ _ _ _ _ _ _) (pt1 _ _ _) fun s' c9 => ?_; (try clear c'); rename Cx _ _ _ => c'; refine rUnN ?_; refine sL ‹_› (by kernel_rfl) (mm1 _ _ _) (pv9 _ _ _ _ _ _ _ _ _ _ _) (pt1 _ _ _) fun s' c9 => ?_; (try clear c'); rename Cx _ _ _ => c'; refine rUn0 ?_; refine seqNext ‹_› ?_; refine seqCons fun Q9 hQ9 => ?_); refine wpAny_Assign_Name ?_ (hs := by first | rfl | kernel_rfl); (with_reducible refine rMeth (by with_unfolding_all rfl) ?_; refine nL ‹_› (by kernel_rfl) (mm1 _ _ _) (mm7 _ _ _ _ _ _ _ _ _) ?_; refine gmIdx ?_; refine rM1 (by with_unfolding_all rfl) ?_; refine rMore (by with_unfolding_all rfl) ?_; refine evSub ‹_› (AtV.loc (by kernel_rfl) (mm1 _ _ _) (mm0 _ _)) (AtI.val (AtV.loc (by kernel_rfl) (mm1 _ _ _) (mm6 _ _ _ _ _ _ _ _))) fun t' s' c9 => ?_; (try clear c'); rename Cx _ _ _ => c'); dsimp only)
        refine oItem c' j rfl (List.getElem?_eq_getElem hjn) hzn rfl (fun _ => rfl) (fun t s' c' => ?_)
        (with_reducible refine spliced_none ?_)
        refine oIdxS c' hm (fun t s' c' => ?_)
        (with_reducible refine sL ‹_› (by kernel_rfl) (mm1 _ _ _) (pv10 _ _ _ _ _ _ _ _ _ _ _ _) (pt1 _ _ _) fun s' c9 => ?_; (try clear c'); rename Cx _ _ _ => c'; refine seqNext ‹_› ?_; refine seqCons fun Q9 hQ9 => ?_; refine wpAny_AugAssign_Name ?_; refine lL ‹_› (by kernel_rfl) (mm1 _ _ _) (mm4 _ _ _ _ _ _) ?_)
        refine evItem ‹_› (AtV.loc (by kernel_rfl) (mm1 _ _ _) (mm8 _ _ _ _ _ _ _ _ _ _)) (AtI.val (AtV.loc (by kernel_rfl) (mm1 _ _ _) (mm10 _ _ _ _ _ _ _ _ _ _ _ _))) _ rfl hsp1 hz2 (fun _ => rfl) (fun _ => rfl) (fun t s' c' => ?_)
        (with_reducible refine oIcatS ‹_› (by first | assumption | wtm_at "zz_sz") fun t' s' c9 => ?_; (try clear c'); rename Cx _ _ _ => c'; refine sL ‹_› (by kernel_rfl) (mm1 _ _ _) (pv4 _ _ _ _ _ _) (pt1 _ _ _) fun s' c9 => ?_; (try clear c'); rename Cx _ _ _ => c'; refine seqNext ‹_› ?_; refine seqCons fun Q9 hQ9 => ?_; refine wpAny_If ?_; refine isTrue_or ?_; refine evI ‹_› (AtI.val (AtV.loc (by kernel_rfl) (mm1 _ _ _) (mm10 _ _ _ _ _ _ _ _ _ _ _ _))) (AtI.val (AtV.loc (by kernel_rfl) (mm1 _ _ _) (mm9 _ _ _ _ _ _ _ _ _ _ _))) (by constructor) (by with_unfolding_all rfl) fun s' c9 => ?_; (try clear c'); rename Cx _ _ _ => c')
        simp only [Option.getD_some] at hnx
        by_cases hq1 : p1.idxOf nm[j] < p3
        · first | refine iteDT (by (first | lia | omega)) ?_ | rw [decide_eq_true (by (first | lia | omega))]
          rw [if_pos (.inl hq1)] at hnx
          (with_reducible refine iteT ?_; refine augI (q := ⟨0, 0, 0, 0⟩) ‹_› (AtI.val (AtV.loc (by kernel_rfl) (mm1 _ _ _) (mm5 _ _ _ _ _ _ _))) AtI.const fun t' => ?_; refine Sto.loc (by kernel_rfl) (mm1 _ _ _) (pv5 _ _ _ _ _ _ _) (pt1 _ _ _) ?_; intro s' c9; (try clear c'); rename Cx _ _ _ => c'; refine wpAny_execs_nil ?_; refine seqNext ‹_› ?_; refine wpAny_execs_nil ?_; refine seqNext ‹_› ?_; refine wpAny_execs_nil ?_; refine lfNext ‹_› ?_)
          refine ⟨_, ⟨_, _, _, _, _, _, _, _, hnext.trans hnx.symm, by simp [hlen], hfle, rfl⟩, c'⟩
        · first | refine iteDF (by (first | lia | omega)) ?_ | rw [decide_eq_false (by (first | lia | omega))]
          (with_reducible refine isTrue_or ?_; refine evI ‹_› (AtI.val (AtV.loc (by kernel_rfl) (mm1 _ _ _) (mm6 _ _ _ _ _ _ _ _))) (AtI.val (AtV.loc (by kernel_rfl) (mm1 _ _ _) (mm2 _ _ _ _))) (by constructor) (by with_unfolding_all rfl) fun s' c9 => ?_; (try clear c'); rename Cx _ _ _ => c')
          by_cases hq2 : j < head
          · first | refine iteDT (by (first | lia | omega)) ?_ | rw [decide_eq_true (by (first | lia | omega))]
            rw [if_pos (.inr hq2)] at hnx
            (with_reducible refine iteT ?_; refine augI (q := ⟨0, 0, 0, 0⟩) ‹_› (AtI.val (AtV.loc (by kernel_rfl) (mm1 _ _ _) (mm5 _ _ _ _ _ _ _))) AtI.const fun t' => ?_; refine Sto.loc (by kernel_rfl) (mm1 _ _ _) (pv5 _ _ _ _ _ _ _) (pt1 _ _ _) ?_; intro s' c9; (try clear c'); rename Cx _ _ _ => c'; refine wpAny_execs_nil ?_; refine seqNext ‹_› ?_; refine wpAny_execs_nil ?_; refine seqNext ‹_› ?_; refine wpAny_execs_nil ?_; refine lfNext ‹_› ?_)
            refine ⟨_, ⟨_, _, _, _, _, _, _, _, hnext.trans hnx.symm, by simp [hlen], hfle, rfl⟩, c'⟩
          · first | refine iteDF (by (first | lia | omega)) ?_ | rw [decide_eq_false (by (first | lia | omega))]
            rw [if_neg (by (first | lia | omega))] at hnx
            (with_reducible refine isTrue_or_nil ?_; refine iteF ?_; refine wpAny_execs_nil ?_; refine seqNext ‹_› ?_; refine wpAny_execs_nil ?_; refine seqNext ‹_› ?_; refine wpAny_execs_nil ?_; refine lfNext ‹_› ?_)
            refine ⟨_, ⟨_, _, _, _, _, _, _, _, hnext.trans hnx.symm, by simp [hlen], fun h => by have := hfle h; show fi ≤ _; (first | lia | omega), rfl⟩, c'⟩
    · rintro T s₂ ⟨st, t1, t2, o1, o2, o3, o4, o5, hst, hlen, hle, rfl⟩ c
      ((with_reducible refine seqNext ‹_› ?_; refine seqCons fun Q9 hQ9 => ?_; refine wpAny_Return_some ?_; refine nL ‹_› (by kernel_rfl) (mm0 _ _) (mm4 _ _ _ _ _ _) ?_; refine seqRet ‹_› ?_; refine finRet ‹_› ?_); dsimp only)
      have : dressF ps head tail nm = st.1 := by unfold dressF; rw [hst]
      exact this ▸ hQ _ _ c.done
end
section
open PySem
theorem mapSeq_set (its : Array Value) (n : Nat) (j : Nat) (x : Value) :
    Obj.mapSeq (·.setIfInBounds j x) { cls := .type "list", data := .seq its n } = { cls := .type "list", data := .seq (its.setIfInBounds j x) n } := by
  simp [Obj.mapSeq]
section
variable {prog : Program} {w : World} {A : Around} {E : Value → Shared → Prop} {s : Shared} {v : Value}
theorem setItem_plain {a : Addr} {items : Array Value} {n : Nat} {k : Int} {t : Tok} {Q : Unit → Shared → Prop} (ho : s.heap.get? a = some { cls := .type "list", data := .seq items n }) (h0 : 0 ≤ k) (hn : k < items.size) (hfit : k < 2 ^ 63)
    (h : ∀ h', Heap.SameBut a s.heap h' → h'.get? a = some { cls := .type "list", data := .seq (items.setIfInBounds k.toNat v) n } → Q () { s with heap := h' }) : wpAny (model prog w) A (setItem (.ref a) (.int k t) v) Q E s := by
  have hl : s.heap.IsList a items := ⟨_, ho, rfl, n, rfl⟩
  unfold setItem
  try with_reducible refine wpAny_holding ?_
  first | refine wpAny_bind (wpAny_pure ?_) | skip
  refine wpAny_bind (wpAny_sequenceKey hl.typeIs (by decide) ?_)
  refine wpAny_bind (wpAny_callSpecial?_slot (name := Str.ofString "__setitem__") hl.typeIs slot_list_setitem
    (wpAny_call_entry slot_list_setitem hl.typeIs entry_list_setitem ?_ (args_list_setitem _ _ _)))
  show wpAny _ _ (Builtin.List.listSubscript? (.int k t) >>= _) _ _ s
  refine wpAny_bind (wpAny_listSubscript_int (fitsIndex_of h0 hfit) ?_)
  clear hfit
  obtain ⟨j, rfl⟩ := Int.eq_ofNat_of_zero_le h0
  have hj : j < items.size := by (first | lia | omega)
  have hx' : items[j]? = some items[j] := Array.getElem?_eq_getElem hj
  show wpAny _ _ ((seqItemAt a j >>= fun r => pure (r.map (j, ·))) >>= _) _ _ s
  refine wpAny_bind (wpAny_bind (wpAny_seqItemAt ho rfl (wpAny_pure ?_)))
  rw [hx']
  show wpAny _ _ (setSeqItemAt a j v >>= _) _ _ s
  have hfin : (s.heap.update a (Obj.mapSeq (·.setIfInBounds j v))).get? a = some { cls := .type "list", data := .seq (items.setIfInBounds j v) n } := by
    rw [Heap.get?_update_self _ ho (by rw [mapSeq_set]; rfl), mapSeq_set]
  refine wpAny_bind (wpAny_setSeqItemAt ho rfl ?_)
  first
    | exact wpAny_bind (wpAny_pure (wpAny_pure ⟨.none, rfl, wpAny_pure (h _ (Heap.SameBut.update ..) hfin)⟩))
    | exact wpAny_pure ⟨.none, rfl, wpAny_pure (h _ (Heap.SameBut.update ..) hfin)⟩
end
open PySem PyProof.Rows
section
variable {prog : Program} {w : World} {A : Around} {E : Value → Shared → Prop} {s : Shared}
theorem mul_plain {l : Addr} {items : Array Value} {k : Nat} {x : Int} {u : Tok} {Q : Value → Shared → Prop}
    (hl : s.heap.get? l = some { cls := .type "list", dict := none, data := .seq items k, slots := #[] })
    (hlo : -(2 ^ 63 : Int) ≤ x) (hhi : x < 2 ^ 63) (hsz : items.size * x.toNat ≤ 2 ^ 24)
    (h : Q (.ref s.heap.objs.size) { s with heap := s.heap.push { cls := .type "list", data := .seq (List.foldl (fun x1 x2 => x1 ++ x2) #[] (List.replicate (if items.isEmpty = true then 0 else x.toNat) items)) } }) :
    wpAny (model prog w) A (binaryOp .Mult (.ref l) (.int x u)) Q E s :=
  wpAny_binaryOp_repeat_ref (T := "list") (U := "int") (by decide) ⟨_, hl, rfl⟩ (fun s' => typeIs_int s' x u) noFill_list_mul F.fills_int_mul F.slot_int_rmul repeat_list F.slot_int_index.lookup
    (call_meets F.slot_int_rmul (typeIs_int s x u) F.entry_int_rmul (F.args_int_rmul_2 _ _) (int___rmul___int_list x u l items k)
      ⟨hl, rfl, ⟨_, hl, rfl⟩, call_meets F.slot_list_mul ⟨_, hl, rfl⟩ F.entry_list_mul (F.args_list_mul_2 _ _)
        (AutoListH.list___mul___list_int_3 l items k x u (by simp [Builtin.List.listFitsIndex]; (first | lia | omega)) (by (first | lia | omega)) (by simp [Builtin.List.listTooLong, sizeLine]; (first | lia | omega)))
        ⟨hl, h⟩⟩)
end
end
section
set_option maxRecDepth 100000
open PySem PySem.W PyProof.Rows PySem.Calls
open Builtin.Int (intBits)
theorem iaLen {vs : List Value} {ns : List Int} (h : IntsAre vs ns) : vs.length = ns.length := IntsAre.length h
theorem iaGet {vs : List Value} {ns : List Int} (h : IntsAre vs ns) {i : Nat} {n : Int} (e : ns[i]? = some n) : ∃ t, vs[i]? = some (.int n t) := by
  induction h generalizing i with
  | nil => simp at e
  | cons m t h ih =>
    cases i with
    | zero => simp at e; exact ⟨t, by simp [e]⟩
    | succ i => simpa using ih (i := i) (by simpa using e)
theorem iaSet {vs : List Value} {ns : List Int} (h : IntsAre vs ns) (i : Nat) (n : Int) (t : Tok) : IntsAre (vs.set i (.int n t)) (ns.set i n) := by
  induction h generalizing i with
  | nil => simp; exact .nil
  | cons m u h ih =>
    cases i with
    | zero => simpa using .cons n t h
    | succ i => simpa using .cons m u (ih i)
theorem iaApp {vs ws : List Value} {xs ys : List Int} (h : IntsAre vs xs) (h' : IntsAre ws ys) : IntsAre (vs ++ ws) (xs ++ ys) := by
  induction h with
  | nil => simpa
  | cons y t h ih => simpa using .cons y t ih
theorem iaDrop {vs : List Value} {ys : List Int} (h : IntsAre vs ys) (k : Nat) : IntsAre (vs.drop k) (ys.drop k) := by
  induction h generalizing k with
  | nil => simp; exact .nil
  | cons y t h ih => cases k with
    | zero => exact .cons y t h
    | succ k => simpa using ih k
theorem iaTake {vs : List Value} {ys : List Int} (h : IntsAre vs ys) (k : Nat) : IntsAre (vs.take k) (ys.take k) := by
  induction h generalizing k with
  | nil => simp; exact .nil
  | cons y t h ih => cases k with
    | zero => simp; exact .nil
    | succ k => simpa using .cons y t (ih k)
theorem iaCut {vs : List Value} {ls : List Int} (h : IntsAre vs ls) (lo hi : Option Int) : IntsAre (cutL vs lo hi) (cutL ls lo hi) := by
  unfold cutL
  rw [iaLen h]
  exact iaTake (iaDrop h _) _
theorem iaRep (n : Int) (t : Tok) (k : Nat) : IntsAre (List.replicate k (.int n t)) (List.replicate k n) := by
  induction k with
  | zero => exact .nil
  | succ k ih => exact .cons n t ih
theorem rangeSize_down (m : Nat) : Builtin.Range.rangeSize m 0 (-1) = m := by
  unfold Builtin.Range.rangeSize
  simp only [show ¬ ((-1 : Int) > 0) by decide, if_false, Int.neg_neg, Int.ediv_one]
  split <;> (first | lia | omega)
section
variable {prog : Program} {w : World} {A : Around} {E : Value → Shared → Prop} {s₀ s : Shared} {T T' : Tab} {a : Addr} {v : Value} {env : Env} {pos : Pos}
theorem walkD {m : Nat} {it : Addr} (hh : A.handled = none) : Walk prog w A s₀ it (fun k => .obj (rIt ((m : Int) + k * -1) ((m : Int) - k) (-1))) m (fun k v => ∃ t, v = .int (((m - k : Nat) : Int)) t) (fun _ => True) := by
  have h := walkR (prog := prog) (w := w) (s₀ := s₀) (it := it) (b := m) (step := -1) (n := m) hh
  refine ⟨fun k T s Q E hk c l hq => h.item k T s Q E hk c l fun v s' hv c' => hq v s' ?_ c', h.done, h.self⟩
  obtain ⟨t, rfl⟩ := hv
  exact ⟨t, by congr 1; (first | lia | omega)⟩
theorem rangeIterD {m : Nat} {t u x : Tok} {Q : Value → Shared → Prop} (c : Cx s₀ s T) (h1 : m ≤ 16777216) (h : ∀ it s', Cx s₀ s' ((it, .obj (rIt m m (-1))) :: T) → Q (.ref it) s') :
    wpAny (model prog w) A (call (.type "range") [.int m t, .int 0 u, .int (-1) x]) (fun x s₁ => wpAny (model prog w) A (pyIter x) Q E s₁) E s := by
  refine call_range_3 (by decide) ?_ (Or.inl (PyProof.noPylong_small (by decide)))
  have hs := rangeSize_down m
  refine wpAny_pyIter_range (a := m) (b := 0) (c := -1) (t := t) (u := u) (v := x) (Heap.get?_push_size _ rfl) ?_ ?_
  · unfold Builtin.Range.small
    rw [hs]
    simp only [Builtin.Range.rangeFitsLong, Bool.and_eq_true, decide_eq_true_eq, Bool.or_eq_true]
    refine ⟨⟨⟨⟨by (first | lia | omega), by decide⟩, by decide⟩, by (first | lia | omega)⟩, .inr ?_⟩
    simp only [show ¬ ((-1 : Int) > 0) by decide, if_false]
    simp
    try (first | lia | omega)
  · rw [hs]
    have c1 := c.pushG { cls := .type "range", data := .fields #[.int m t, .int 0 u, .int (-1) x] }
    have c2 := (c1.push (r := .obj (rIt m m (-1))) (o := rIt m m (-1)) rfl rfl).tok s.toks
    exact h _ _ c2
theorem oMulI {i j : Int} {t u : Tok} {Q : Value → Shared → Prop} (m n : Nat) (c : Cx s₀ s T) (hi : intBits i ≤ m) (hj : intBits j ≤ n) (hmn : m + n ≤ 134217728) (h : ∀ t s', Cx s₀ s' T → Q (.int (i * j) t) s') : wpAny (model prog w) A (binaryOp .Mult (.int i t) (.int j u)) Q E s :=
  mul_int (h _ _ (c.tok _)) (mulOk_of_bits hi hj hmn)
theorem oImulI {i j : Int} {t u : Tok} {Q : Value → Shared → Prop} (m n : Nat) (c : Cx s₀ s T) (hi : intBits i ≤ m) (hj : intBits j ≤ n) (hmn : m + n ≤ 134217728) (h : ∀ t s', Cx s₀ s' T → Q (.int (i * j) t) s') : wpAny (model prog w) A (inplaceOp .Mult (.int i t) (.int j u)) Q E s :=
  imul_int (h _ _ (c.tok _)) (mulOk_of_bits hi hj hmn)
theorem oSetL {vs : List Value} {j : Nat} {t : Tok} {Q : Unit → Shared → Prop} (c : Cx s₀ s T) (hl : (a, Rs.lst vs) ∈ T) (hj : j < vs.length) (hz : vs.length ≤ sizeLine) (hp : Put a (.lst (vs.set j v)) T T')
    (h : ∀ s', Cx s₀ s' T' → Q () s') : wpAny (model prog w) A (setItem (.ref a) (.int j t) v) Q E s := by
  obtain ⟨n, ho⟩ := c.plain hl
  refine setItem_plain ho (by (first | lia | omega)) (by simp; (first | lia | omega)) (by unfold sizeLine at hz; (first | lia | omega)) fun h' hs ho' => h _ (c.upd s.toks hp hs.extBut ho' ⟨n, by simp⟩)
theorem oAddL {b : Addr} {vs ws : List Value} {Q : Value → Shared → Prop} (c : Cx s₀ s T) (hl : LstAt s.heap a vs) (hb : LstAt s.heap b ws) (hz : vs.length + ws.length ≤ sizeLine)
    (h : ∀ d s', Cx s₀ s' ((d, .lst (vs ++ ws)) :: T) → Q (.ref d) s') : wpAny (model prog w) A (binaryOp .Add (.ref a) (.ref b)) Q E s := by
  obtain ⟨n, ho⟩ := hl
  obtain ⟨n2, ho2⟩ := hb
  have e : vs.toArray ++ ws.toArray = (vs ++ ws).toArray := by simp
  refine concat_meets ⟨_, ho, rfl⟩ ⟨_, ho2, rfl⟩ noFill_list_add seq_list_add PySem.F.slot_list_add PySem.F.entry_list_add (PySem.F.args_list_add_2 _ _) (list_addW a b vs.toArray ws.toArray n n2 none none #[] #[] (by simpa using hz)) ⟨ho, ho2, ?_⟩
  rw [e]
  exact h _ _ (c.push rfl ⟨_, rfl⟩)
theorem flat_fold (l : List Value) (k : Nat) : List.foldl (fun x1 x2 => x1 ++ x2) (#[] : Array Value) (List.replicate k l.toArray) = (List.replicate k l).flatten.toArray := by
  have key : ∀ (k : Nat) (acc : List Value), List.foldl (fun x1 x2 => x1 ++ x2) acc.toArray (List.replicate k l.toArray) = (acc ++ (List.replicate k l).flatten).toArray := fun k => by
    induction k with
    | zero => intro acc; simp
    | succ k ih =>
      intro acc
      rw [List.replicate_succ, List.foldl_cons, show acc.toArray ++ l.toArray = (acc ++ l).toArray from by simp, ih, List.replicate_succ]
      simp
  simpa using key k []
theorem oMulL {x : Nat} {t : Tok} {Q : Value → Shared → Prop} (c : Cx s₀ s T) (hl : LstAt s.heap a [v]) (hz : x ≤ sizeLine)
    (h : ∀ d s', Cx s₀ s' ((d, .lst (List.replicate x v)) :: T) → Q (.ref d) s') : wpAny (model prog w) A (binaryOp .Mult (.ref a) (.int x t)) Q E s := by
  obtain ⟨k, ho⟩ := hl
  have hx : (x : Int) ≤ 16777216 := by unfold sizeLine at hz; (first | lia | omega)
  refine mul_plain ho (by (first | lia | omega)) (by (first | lia | omega)) (by unfold sizeLine at hz; simp; (first | lia | omega)) ?_
  have c2 := c.push (r := .lst (List.replicate x v)) (o := { cls := .type "list", data := .seq (List.foldl (fun x1 x2 => x1 ++ x2) #[] (List.replicate (if [v].toArray.isEmpty = true then 0 else (x : Int).toNat) [v].toArray)) }) rfl ⟨_, by
    rw [flat_fold]; simp; rfl⟩
  exact h _ _ c2
theorem oGetL {vs : List Value} {i : Int} {u : Tok} {Q : Value → Shared → Prop} (hl : LstAt s.heap a vs) (h0 : 0 ≤ i) (h1 : i < 2 ^ 63) (hv : vs[i.toNat]? = some v) (h : Q v s) : wpAny (model prog w) A (getItem (.ref a) (.int i u)) Q E s :=
  wpAny_getItem_list hl.list h0 h1 (by simpa using hv) h
end
end
section
set_option maxRecDepth 100000
set_option maxHeartbeats 4000000
open PySem PySem.W PyProof.Rows PySem.Calls
open Builtin.Int (intBits)
noncomputable def stayI (inner : List Int) (k : Nat) : Int := if k < inner.length then 3 - inner[k]?.getD 0 else 3
noncomputable def cIn (inner : List Int) (ws : List Int) (k : Nat) : List Int := ws.set k (ws[k]?.getD 0 * stayI inner k + ws[k - 1]?.getD 0 * inner[k - 1]?.getD 0)
noncomputable def cLoop (inner : List Int) (ws : List Int) (i : Nat) : List Int := (List.range i).foldl (fun w i => cIn inner w (inner.length - i)) ws
noncomputable def cStep (inner : List Int) (ws : List Int) : List Int := (cLoop inner ws inner.length).set 0 ((cLoop inner ws inner.length)[0]?.getD 0 * (3 - inner[0]?.getD 0))
noncomputable def cSteps (inner : List Int) (n : Nat) : List Int := (List.range n).foldl (fun w _ => cStep inner w) (1 :: List.replicate inner.length 0)
noncomputable def countF (sizes : List Int) (head tail : Nat) : Int :=
  (fun inner => (cSteps inner (3 - head - tail)).getLast?.getD 0 * (if head = 1 then sizes[0]?.getD 0 else 1) * (if tail = 1 then sizes.getLast?.getD 0 else 1)) (cutL sizes (some (head : Int)) (some ((sizes.length : Int) - tail)))
theorem count_ok {mg mb : Str → Option Value} {w : World} {f : Addr} {A : Around} {Q E : Value → Shared → Prop} {s : Shared} {l : Addr} {vs : List Value} {sizes : List Int} {head tail : Nat} {u v : Tok}
    (hA : Room A 3) (F : FnAt s.heap dCount f) (G : Gl dAll mg mb s.heap) (hl : LstAt s.heap l vs) (hs : IntsAre vs sizes) (hz1 : sizes.length ≤ 1000) (ht1 : tail ≤ 1) (hh1 : head ≤ 1) (hm : head + tail < sizes.length)
    (hb : ∀ x ∈ sizes, intBits x ≤ 64)
    (hQ : ∀ t s', Keeps s s' → Q (.int (countF sizes head tail) t) s') : wpAny (model PW w) A (call (.ref f) [.ref l, .int head u, .int tail v]) Q E s := by
    refine callD (binds := [("sizes", .ref l), ("head", .int head u), ("tail", .int tail v)]) [("sizes", .ref l), ("head", .int head u), ("tail", .int tail v)] [] ["inner", "ways", "step", "k", "stay", "total"] [] ["sizes", "head", "tail", "inner", "ways", "step", "k", "stay", "total"] _ [] (ks2 := []) hA.d F G.lim (fun _ _ _ => by kernel_rfl) (by kernel_rfl) (by kernel_rfl) (by kernel_rfl)
      (by kernel_rfl) (by kernel_rfl) (by decide +kernel) (by decide +kernel) (by kernel_rfl) (by decide +kernel) rfl (by kernel_rfl) (by kernel_rfl) (by kernel_rfl) (by kernel_rfl) ?_
    intro L code as s₁ has c
    simp only [List.map_cons, List.map_nil, List.cons_append, List.nil_append, List.zip_nil_right, List.zip_nil_left] at c ⊢
    have hR : Room (A.deeper (envC dCount L f code [])) 2 := Room.deeper hA
    have hvz := iaLen hs
    have hcl : (cutL vs (some (head : Int)) (some ((vs.length : Int) - tail))).length ≤ sizeLine := by have := cut_length_le vs (some (head : Int)) (some ((vs.length : Int) - tail)); unfold sizeLine; (first | lia | omega)
    have hcl' : (cutL vs (some (head : Int)) (some ((vs.length : Int) - tail))).length ≤ 1000 := by have := cut_length_le vs (some (head : Int)) (some ((vs.length : Int) - tail)); (first | lia | omega)
    generalize hA9 : A.deeper _ = A9 at hR ⊢
    refine ent ?_
    intro Q9 E9 hQ9 hE9
    refine seqCons ?_
    intro Q7 hQ7
    (refine wpAny_Assign_Name ?_ (hs := by first | rfl | kernel_rfl); (with_reducible refine Subscript_ ?_; refine nL ‹_› (by kernel_rfl) (mm0 _ _) (mm0 _ _) ?_; refine wpAny_Slice ?_; refine evalPart_some_step ?_; refine nL ‹_› (by kernel_rfl) (mm0 _ _) (mm1 _ _ _) ?_; refine evalPart_some_step ?_; refine wpAny_BinOp ?_; refine rCallN ?_; refine nB ‹_› ‹_› (by kernel_rfl) (by rfl) (by rfl) (mm0 _ _) ?_; refine blV ‹_› (Ats.cons (AtV.loc (by kernel_rfl) (mm0 _ _) (mm0 _ _)) Ats.nil) ?_; refine oLenL ‹_› (Cx.old ‹_› ‹_›) (by first | assumption | wtm_at "zz_sz") fun t' s' c9 => ?_; (try clear c'); rename Cx _ _ _ => c'; refine nL ‹_› (by kernel_rfl) (mm0 _ _) (mm2 _ _ _ _) ?_; refine oSub ‹_› fun t' s' c9 => ?_; (try clear c'); rename Cx _ _ _ => c'; refine evalPart_none_step ?_; refine oCutL ‹_› (Cx.old ‹_› ‹_›) (by constructor) (by constructor) (by first | assumption | wtm_at "zz_sz") (by with_unfolding_all rfl) (by intro _; with_unfolding_all rfl) fun b' s' c9 => ?_; (try clear c'); rename Cx _ _ _ => c'; refine sL ‹_› (by kernel_rfl) (mm1 _ _ _) (pv3 _ _ _ _ _) (pt1 _ _ _) fun s' c9 => ?_; (try clear c'); rename Cx _ _ _ => c'; refine seqNext ‹_› ?_; refine seqCons fun Q9 hQ9 => ?_); refine wpAny_Assign_Name ?_ (hs := by first | rfl | kernel_rfl); (with_reducible refine wpAny_BinOp ?_; refine List_ ?_; refine rMore (by with_unfolding_all rfl) ?_; refine kInt ‹_› fun t' s' c9 => ?_; (try clear c'); rename Cx _ _ _ => c'; refine spliced_none ?_; refine oNewL ‹_› (by exact Nat.le_of_ble_eq_true rfl) fun b' s' c9 => ?_; (try clear c'); rename Cx _ _ _ => c'; refine wpAny_BinOp ?_; refine List_ ?_; refine rMore (by with_unfolding_all rfl) ?_; refine kInt ‹_› fun t' s' c9 => ?_; (try clear c'); rename Cx _ _ _ => c'; refine spliced_none ?_; refine oNewL ‹_› (by exact Nat.le_of_ble_eq_true rfl) fun b' s' c9 => ?_; (try clear c'); rename Cx _ _ _ => c'; refine rCallN ?_; refine nB ‹_› ‹_› (by kernel_rfl) (by rfl) (by rfl) (mm0 _ _) ?_; refine blV ‹_› (Ats.cons (AtV.loc (by kernel_rfl) (mm3 _ _ _ _ _) (mm3 _ _ _ _ _)) Ats.nil) ?_; refine oLenL ‹_› (Cx.lat ‹_› (mm2 _ _ _ _)) (by first | assumption | wtm_at "zz_sz") fun t' s' c9 => ?_; (try clear c'); rename Cx _ _ _ => c'; refine oMulL ‹_› (Cx.lat ‹_› (mm0 _ _)) (by first | assumption | wtm_at "zz_sz") fun b' s' c9 => ?_; (try clear c'); rename Cx _ _ _ => c'; refine oAddL ‹_› (Cx.lat ‹_› (mm2 _ _ _ _)) (Cx.lat ‹_› (mm0 _ _)) (by first | assumption | (simp only [List.length_replicate]; wtm_at "zz_sz") | wtm_at "zz_sz") fun b' s' c9 => ?_; (try clear c'); rename Cx _ _ _ => c'; refine sL ‹_› (by kernel_rfl) (mm5 _ _ _ _ _ _ _) (pv4 _ _ _ _ _ _) (pt5 _ _ _ _ _ _ _) fun s' c9 => ?_; (try clear c'); rename Cx _ _ _ => c'; refine seqNext ‹_› ?_; refine seqCons fun Q9 hQ9 => ?_); refine wpAny_For ?_ (hs := by intro _; rfl); (with_reducible refine rCallN ?_; refine nB ‹_› ‹_› (by kernel_rfl) (by rfl) (by rfl) (mm1 _ _ _) ?_; refine rT1 (by with_unfolding_all rfl) ?_; refine rMore (by with_unfolding_all rfl) ?_; refine evN ‹_› (AtI.sub (AtI.sub AtI.const (AtI.val (AtV.loc (by kernel_rfl) (mm5 _ _ _ _ _ _ _) (mm1 _ _ _)))) (AtI.val (AtV.loc (by kernel_rfl) (mm5 _ _ _ _ _ _ _) (mm2 _ _ _ _)))) fun t' s' c9 => ?_; (try clear c'); rename Cx _ _ _ => c'; refine spliced_none ?_; refine rangeIter1 ‹_› (by first | assumption | omega | wtm_at "zz_sz") (by first | assumption | omega | wtm_at "zz_sz") fun it' s' c9 => ?_; (try clear c'); rename Cx _ _ _ => c'))
    have hin := iaCut hs (some (head : Int)) (some ((vs.length : Int) - tail))
    have hbin : ∀ x ∈ cutL sizes (some (head : Int)) (some ((vs.length : Int) - tail)), intBits x ≤ 64 := fun x hx => hb x (List.mem_of_mem_drop (List.mem_of_mem_take hx))
    rw [hvz] at *
    obtain ⟨inner, hinner⟩ : ∃ inner, cutL sizes (some (head : Int)) (some ((sizes.length : Int) - tail)) = inner := ⟨_, rfl⟩
    have hfin : countF sizes head tail = (cSteps inner (3 - head - tail)).getLast?.getD 0 * (if head = 1 then sizes[0]?.getD 0 else 1) * (if tail = 1 then sizes.getLast?.getD 0 else 1) := by unfold countF; rw [hinner]
    rw [hinner] at hin hbin
    have hinl : 1 ≤ inner.length := by
      rw [← hinner, show (sizes.length : Int) - tail = ((sizes.length - tail : Nat) : Int) by (first | lia | omega), cut_range, List.length_take, List.length_drop]
      (first | lia | omega)
    generalize cutL vs (some (head : Int)) (some ((sizes.length : Int) - tail)) = ivs at *
    have hil := iaLen hin
    obtain ⟨I, W, wv, ws, hws, hw0, c'⟩ : ∃ I W wv ws, IntsAre wv ws ∧ ws = 1 :: List.replicate inner.length 0 ∧ Cx s s' [(it', Rs.obj (rIt 0 (3 - head - tail) 1)), (W, Rs.lst wv), (I, Rs.lst ivs), (L, Rs.ns [("sizes", some (.ref l)), ("head", some (.int head u)), ("tail", some (.int tail v)), ("inner", some (.ref I)), ("ways", some (.ref W)), ("step", none), ("k", none), ("stay", none), ("total", none)])] :=
      ⟨_, _, _, _, iaApp (.cons _ _ .nil) (iaRep _ _ _), by rw [hil]; simp, c'.drop (.cons_cons _ (.cons_cons _ (.cons _ (.cons _ (.cons _ (.cons_cons _ (.cons_cons _ .slnil)))))))⟩
    generalize it' = it at *
    have e3 : ((3 - head - tail : Nat) : Int) = 3 - head - tail := by (first | lia | omega)
    have hb0 : ∀ x ∈ ws, intBits x ≤ 10 := fun x hx => by
      rw [hw0] at hx
      rcases List.mem_cons.mp hx with rfl | hx
      · decide
      · rw [(List.mem_replicate.mp hx).2]; decide
    refine forW (walkR1 (n := 3 - head - tail) hR.handled) (fun k T => Ex5 fun (ws : List Int) (wv : List Value) (o1 o2 o3 : Option Value) => An5 (cSteps inner k = ws) (IntsAre wv ws) (ws.length = inner.length + 1) ((∀ x ∈ ws, intBits x ≤ 300000 * k + 10)) (T = [(W, Rs.lst wv), (I, Rs.lst ivs), (L, Rs.ns [("sizes", some (.ref l)), ("head", some (.int head u)), ("tail", some (.int tail v)), ("inner", some (.ref I)), ("ways", some (.ref W)), ("step", o1), ("k", o2), ("stay", o3), ("total", none)])]))
      (fun _ _ _ _ _ => trivial) ?_ ?_ ⟨_, _, none, none, none, hw0.symm, hws, by rw [hw0]; simp, hb0, rfl⟩ (by simpa [e3] using c') (fun _ => rfl)
    · intro k v T s₂ hk h70 h71 c Q8 E8 hQ8 hE8
      obtain ⟨tk, rfl⟩ := h70
      obtain ⟨ws, wv, o1, o2, o3, hst, hws, hwl, hwb, rfl⟩ := h71
      refine wpAny_assign_Name ?_
      ((with_reducible refine sL ‹_› (by kernel_rfl) (mm3 _ _ _ _ _) (pv5 _ _ _ _ _ _ _) (pt3 _ _ _ _ _) fun s' c9 => ?_; (try clear c'); rename Cx _ _ _ => c'; refine seqCons fun Q9 hQ9 => ?_); refine wpAny_For ?_ (hs := by intro _; rfl); (with_reducible refine rCallN ?_; refine nB ‹_› ‹_› (by kernel_rfl) (by rfl) (by rfl) (mm1 _ _ _) ?_; refine rT1 (by with_unfolding_all rfl) ?_; refine rMore (by with_unfolding_all rfl) ?_; refine rCallN ?_; refine nB ‹_› ‹_› (by kernel_rfl) (by rfl) (by rfl) (mm0 _ _) ?_; refine blV ‹_› (Ats.cons (AtV.loc (by kernel_rfl) (mm3 _ _ _ _ _) (mm3 _ _ _ _ _)) Ats.nil) ?_; refine oLenL ‹_› (Cx.lat ‹_› (mm2 _ _ _ _)) (by first | assumption | wtm_at "zz_sz") fun t' s' c9 => ?_; (try clear c'); rename Cx _ _ _ => c'; refine rMore (by with_unfolding_all rfl) ?_; refine kInt ‹_› fun t' s' c9 => ?_; (try clear c'); rename Cx _ _ _ => c'; refine rMore (by with_unfolding_all rfl) ?_; refine evN ‹_› (AtI.neg AtI.const) fun t' s' c9 => ?_; (try clear c'); rename Cx _ _ _ => c'; refine spliced_none ?_; refine rangeIterD ‹_› (by first | assumption | omega | wtm_at "zz_sz") fun it' s' c9 => ?_; (try clear c'); rename Cx _ _ _ => c'))
      refine forW (walkD (m := ivs.length) hR.handled) (fun i T => Ex4 fun (ws2 : List Int) (wv : List Value) (o2 o3 : Option Value) => An5 (cLoop inner ws i = ws2) (IntsAre wv ws2) (ws2.length = inner.length + 1) ((∀ x ∈ ws2, intBits x ≤ 300000 * k + 10 + 200 * i)) (T = [(it, Rs.obj (rIt (k + 1 : Nat) ((3 - head - tail : Nat) - (k + 1 : Nat) : Int) 1)), (W, Rs.lst wv), (I, Rs.lst ivs), (L, Rs.ns [("sizes", some (.ref l)), ("head", some (.int head u)), ("tail", some (.int tail v)), ("inner", some (.ref I)), ("ways", some (.ref W)), ("step", some (.int k tk)), ("k", o2), ("stay", o3), ("total", none)])]))
        (fun _ _ _ _ _ => trivial) ?_ ?_ ⟨_, _, _, _, rfl, hws, hwl, hwb, rfl⟩ (by simpa using c') (fun _ => rfl)
      · intro i v T s₂ hi h70 h71 c Q8 E8 hQ8 hE8
        obtain ⟨ti, rfl⟩ := h70
        obtain ⟨ws2, wv, o2, o3, hst2, hws, hwl, hwb, rfl⟩ := h71
        have hnext : cLoop inner ws (i + 1) = cIn inner ws2 (ivs.length - i) := by rw [← hst2, hil]; unfold cLoop; rw [List.range_succ, List.foldl_append]; rfl
        obtain ⟨kk, hkk⟩ : ∃ kk, kk = ivs.length - i := ⟨_, rfl⟩
        rw [← hkk] at hnext
        rw [← hkk]
        have hk1 : 1 ≤ kk := by (first | lia | omega)
        have hk2 : kk ≤ inner.length := by (first | lia | omega)
        obtain ⟨wk, hwk⟩ : ∃ x, ws2[kk]? = some x := ⟨_, List.getElem?_eq_getElem (by (first | lia | omega))⟩
        obtain ⟨wj, hwj⟩ : ∃ x, ws2[kk - 1]? = some x := ⟨_, List.getElem?_eq_getElem (by (first | lia | omega))⟩
        obtain ⟨nj, hnj⟩ : ∃ x, inner[kk - 1]? = some x := ⟨_, List.getElem?_eq_getElem (by (first | lia | omega))⟩
        obtain ⟨tk1, hwk'⟩ := iaGet hws hwk
        obtain ⟨tk2, hwj'⟩ := iaGet hws hwj
        obtain ⟨tk3, hnj'⟩ := iaGet hin hnj
        have b1 := hwb _ (List.mem_of_getElem? hwk)
        have b2 := hwb _ (List.mem_of_getElem? hwj)
        have b3 := hbin _ (List.mem_of_getElem? hnj)
        unfold cIn at hnext
        rw [hwk, hwj, hnj] at hnext
        simp only [Option.getD_some] at hnext
        refine wpAny_assign_Name ?_
        ((with_reducible refine sL ‹_› (by kernel_rfl) (mm4 _ _ _ _ _ _) (pv6 _ _ _ _ _ _ _ _) (pt4 _ _ _ _ _ _) fun s' c9 => ?_; (try clear c'); rename Cx _ _ _ => c'; refine seqCons fun Q9 hQ9 => ?_); refine wpAny_Assign_Name ?_ (hs := by first | rfl | kernel_rfl); (with_reducible refine IfExp_ ?_; refine wpAny_isTrue_Compare1 ?_; refine nL ‹_› (by kernel_rfl) (mm4 _ _ _ _ _ _) (mm6 _ _ _ _ _ _ _ _) ?_; refine rCallN ?_; refine nB ‹_› ‹_› (by kernel_rfl) (by rfl) (by rfl) (mm0 _ _) ?_; refine blV ‹_› (Ats.cons (AtV.loc (by kernel_rfl) (mm4 _ _ _ _ _ _) (mm3 _ _ _ _ _)) Ats.nil) ?_; refine oLenL ‹_› (Cx.lat ‹_› (mm3 _ _ _ _ _)) (by first | assumption | wtm_at "zz_sz") fun t' s' c9 => ?_; (try clear c'); rename Cx _ _ _ => c'; refine lt_int ?_; refine wpAny_truthy_bool ?_))
        have hlo : kk < ivs.length → ∃ nk, inner[kk]? = some nk ∧ stayI inner kk = 3 - nk := fun hlt => by
          obtain ⟨nk, hnk⟩ : ∃ x, inner[kk]? = some x := ⟨_, List.getElem?_eq_getElem (by (first | lia | omega))⟩
          exact ⟨nk, hnk, by unfold stayI; rw [if_pos (by (first | lia | omega)), hnk]; rfl⟩
        have hhi : ¬ kk < ivs.length → stayI inner kk = 3 := fun hlt => by unfold stayI; rw [if_neg (by (first | lia | omega))]
        have hsb : intBits (stayI inner kk) ≤ 65 := by
          by_cases hlt : kk < ivs.length
          · obtain ⟨nk, hnk, hstay⟩ := hlo hlt
            rw [hstay]
            exact bits_sub (a := 3) (m := 2) (by decide) (hbin _ (List.mem_of_getElem? hnk))
          · rw [hhi hlt]; decide
        refine cutIfV (fun v => ∃ t, v = .int (stayI inner kk) t) c' ?_ ?_
        · by_cases hlt : kk < ivs.length
          · obtain ⟨nk, hnk, hstay⟩ := hlo hlt
            obtain ⟨tk4, hnk'⟩ := iaGet hin hnk
            refine iteDT (by (first | lia | omega)) ?_
            ((with_reducible refine wpAny_BinOp ?_; refine kInt ‹_› fun t' s' c9 => ?_; (try clear c'); rename Cx _ _ _ => c'; refine evSub ‹_› (AtV.loc (by kernel_rfl) (mm4 _ _ _ _ _ _) (mm3 _ _ _ _ _)) (AtI.val (AtV.loc (by kernel_rfl) (mm4 _ _ _ _ _ _) (mm6 _ _ _ _ _ _ _ _))) fun t' s' c9 => ?_; (try clear c'); rename Cx _ _ _ => c'); dsimp only)
            refine oItemL (c'.lat ((mm3 _ _ _ _ _))) (by (first | lia | omega)) (by (first | lia | omega)) (by simpa using hnk') rfl ?_
            (with_reducible refine oSub ‹_› fun t' s' c9 => ?_; (try clear c'); rename Cx _ _ _ => c')
            exact ⟨⟨_, by rw [hstay]⟩, c'⟩
          · refine iteDF (by (first | lia | omega)) ?_
            ((with_reducible refine kInt ‹_› fun t' s' c9 => ?_; (try clear c'); rename Cx _ _ _ => c'); dsimp only)
            exact ⟨⟨_, by rw [hhi hlt]⟩, c'⟩
        rintro v s' ⟨tst, rfl⟩ c'
        (with_reducible refine sL ‹_› (by kernel_rfl) (mm4 _ _ _ _ _ _) (pv7 _ _ _ _ _ _ _ _ _) (pt4 _ _ _ _ _ _) fun s' c9 => ?_; (try clear c'); rename Cx _ _ _ => c'; refine seqNext ‹_› ?_; refine seqCons fun Q9 hQ9 => ?_; refine wpAny_Assign_Subscript ?_ (hs := by first | with_unfolding_all rfl | kernel_rfl); refine wpAny_BinOp ?_; refine wpAny_BinOp ?_; refine evSub ‹_› (AtV.loc (by kernel_rfl) (mm4 _ _ _ _ _ _) (mm4 _ _ _ _ _ _)) (AtI.val (AtV.loc (by kernel_rfl) (mm4 _ _ _ _ _ _) (mm6 _ _ _ _ _ _ _ _))) fun t' s' c9 => ?_; (try clear c'); rename Cx _ _ _ => c')
        refine oItemL (c'.lat ((mm2 _ _ _ _))) (by (first | lia | omega)) (by (first | lia | omega)) (by simpa using hwk') rfl ?_
        (with_reducible refine nL ‹_› (by kernel_rfl) (mm4 _ _ _ _ _ _) (mm7 _ _ _ _ _ _ _ _ _) ?_)
        refine oMulI _ _ c' b1 hsb (by (first | lia | omega)) (fun t' s' c' => ?_)
        (with_reducible refine wpAny_BinOp ?_; refine evSub ‹_› (AtV.loc (by kernel_rfl) (mm4 _ _ _ _ _ _) (mm4 _ _ _ _ _ _)) (AtI.sub (AtI.val (AtV.loc (by kernel_rfl) (mm4 _ _ _ _ _ _) (mm6 _ _ _ _ _ _ _ _))) AtI.const) fun t' s' c9 => ?_; (try clear c'); rename Cx _ _ _ => c')
        refine oItemL (c'.lat ((mm2 _ _ _ _))) (by (first | lia | omega)) (by (first | lia | omega)) (by rw [show ((kk : Int) - 1).toNat = kk - 1 by (first | lia | omega)]; exact hwj') rfl ?_
        (with_reducible refine evSub ‹_› (AtV.loc (by kernel_rfl) (mm4 _ _ _ _ _ _) (mm3 _ _ _ _ _)) (AtI.sub (AtI.val (AtV.loc (by kernel_rfl) (mm4 _ _ _ _ _ _) (mm6 _ _ _ _ _ _ _ _))) AtI.const) fun t' s' c9 => ?_; (try clear c'); rename Cx _ _ _ => c')
        refine oItemL (c'.lat ((mm3 _ _ _ _ _))) (by (first | lia | omega)) (by (first | lia | omega)) (by rw [show ((kk : Int) - 1).toNat = kk - 1 by (first | lia | omega)]; exact hnj') rfl ?_
        skip
        refine oMulI _ _ c' b2 b3 (by (first | lia | omega)) (fun t' s' c' => ?_)
        (with_reducible refine oAdd ‹_› fun t' s' c9 => ?_; (try clear c'); rename Cx _ _ _ => c'; refine nL ‹_› (by kernel_rfl) (mm4 _ _ _ _ _ _) (mm4 _ _ _ _ _ _) ?_; refine nL ‹_› (by kernel_rfl) (mm4 _ _ _ _ _ _) (mm6 _ _ _ _ _ _ _ _) ?_)
        refine oSetL (j := kk) c' ((mm2 _ _ _ _)) (by rw [iaLen hws]; (first | lia | omega)) (by rw [iaLen hws]; unfold sizeLine; (first | lia | omega)) ((pt2 _ _ _ _)) (fun s' c' => ?_)
        (with_reducible refine seqNext ‹_› ?_; refine wpAny_execs_nil ?_; refine lfNext ‹_› ?_)
        refine ⟨_, ⟨_, _, _, _, hnext, iaSet hws kk _ _, by simpa using hwl, ?_, rfl⟩, c'⟩
        intro x hx
        rcases List.mem_or_eq_of_mem_set hx with hx | rfl
        · have := hwb x hx; (first | lia | omega)
        · have := bits_add (bits_mul b1 hsb) (bits_mul b2 b3); (first | lia | omega)
      · rintro T s₂ ⟨ws2, wv, o2, o3, hst2, hws, hwl, hwb, rfl⟩ c
        (with_reducible refine seqNext ‹_› ?_; refine seqCons fun Q9 hQ9 => ?_; refine wpAny_AugAssign_SubscriptAny ?_ (hi := by intros; with_unfolding_all rfl); refine nL ‹_› (by kernel_rfl) (mm3 _ _ _ _ _) (mm4 _ _ _ _ _ _) ?_; refine kInt ‹_› fun t' s' c9 => ?_; (try clear c'); rename Cx _ _ _ => c')
        obtain ⟨x0, hx0⟩ : ∃ x, ws2[0]? = some x := ⟨_, List.getElem?_eq_getElem (by (first | lia | omega))⟩
        obtain ⟨n0, hn0⟩ : ∃ x, inner[0]? = some x := ⟨_, List.getElem?_eq_getElem (by (first | lia | omega))⟩
        obtain ⟨tk1, hx0'⟩ := iaGet hws hx0
        obtain ⟨tk2, hn0'⟩ := iaGet hin hn0
        have b1 := hwb _ (List.mem_of_getElem? hx0)
        have b2 := hbin _ (List.mem_of_getElem? hn0)
        have hsb : intBits (3 - n0) ≤ 65 := by have := bits_sub (a := 3) (m := 2) (by decide) b2; exact this
        have hnext : cSteps inner (k + 1) = ws2.set 0 (x0 * (3 - n0)) := by
          have : cSteps inner (k + 1) = cStep inner ws := by rw [← hst]; unfold cSteps; rw [List.range_succ, List.foldl_append]; rfl
          rw [this]; unfold cStep; rw [← hil, hst2, hx0, hn0]; rfl
        refine oGetL (c'.lat ((mm1 _ _ _))) (by decide) (by decide) hx0' ?_
        (with_reducible refine wpAny_BinOp ?_; refine kInt ‹_› fun t' s' c9 => ?_; (try clear c'); rename Cx _ _ _ => c'; refine evSub ‹_› (AtV.loc (by kernel_rfl) (mm3 _ _ _ _ _) (mm3 _ _ _ _ _)) AtI.const fun t' s' c9 => ?_; (try clear c'); rename Cx _ _ _ => c')
        refine oItemL (c'.lat ((mm2 _ _ _ _))) (by decide) (by decide) hn0' rfl ?_
        (with_reducible refine oSub ‹_› fun t' s' c9 => ?_; (try clear c'); rename Cx _ _ _ => c')
        refine oImulI _ _ c' b1 hsb (by (first | lia | omega)) (fun t' s' c' => ?_)
        refine oSetL (j := 0) c' ((mm1 _ _ _)) (by rw [iaLen hws]; (first | lia | omega)) (by rw [iaLen hws]; unfold sizeLine; (first | lia | omega)) ((pt1 _ _ _)) (fun s' c' => ?_)
        (with_reducible refine seqNext ‹_› ?_; refine wpAny_execs_nil ?_; refine lfNext ‹_› ?_)
        refine ⟨_, ⟨_, _, _, _, _, hnext, iaSet hws 0 _ _, by simpa using hwl, ?_, rfl⟩, c'⟩
        intro x hx
        rcases List.mem_or_eq_of_mem_set hx with hx | rfl
        · have := hwb x hx; (first | lia | omega)
        · have := bits_mul b1 hsb; (first | lia | omega)
    · rintro T s₂ ⟨ws, wv, o1, o2, o3, hst, hws, hwl, hwb, rfl⟩ c
      ((with_reducible refine seqNext ‹_› ?_; refine seqCons fun Q9 hQ9 => ?_); refine wpAny_Assign_Name ?_ (hs := by first | rfl | kernel_rfl); (with_reducible refine evSub ‹_› (AtV.loc (by kernel_rfl) (mm2 _ _ _ _) (mm4 _ _ _ _ _ _)) (AtI.neg AtI.const) fun t' s' c9 => ?_; (try clear c'); rename Cx _ _ _ => c'))
      obtain ⟨xl, hxl⟩ : ∃ x, ws[ws.length - 1]? = some x := ⟨_, List.getElem?_eq_getElem (by (first | lia | omega))⟩
      obtain ⟨x0, hx0⟩ : ∃ x, sizes[0]? = some x := ⟨_, List.getElem?_eq_getElem (by (first | lia | omega))⟩
      obtain ⟨x1, hx1⟩ : ∃ x, sizes[sizes.length - 1]? = some x := ⟨_, List.getElem?_eq_getElem (by (first | lia | omega))⟩
      obtain ⟨tk1, hxl'⟩ := iaGet hws hxl
      obtain ⟨tk2, hx0'⟩ := iaGet hs hx0
      obtain ⟨tk3, hx1'⟩ := iaGet hs hx1
      have b1 := hwb _ (List.mem_of_getElem? hxl)
      have b2 := hb _ (List.mem_of_getElem? hx0)
      have b3 := hb _ (List.mem_of_getElem? hx1)
      rw [hst, List.getLast?_eq_getElem?, List.getLast?_eq_getElem?, hxl, hx0, hx1] at hfin
      simp only [Option.getD_some] at hfin
      have hwvl := iaLen hws
      have hvz2 := iaLen hs
      refine oItemLneg (c'.lat ((mm0 _ _))) (by decide) (by (first | lia | omega)) (by decide) (by rw [show ((-1 : Int) + wv.length).toNat = ws.length - 1 by (first | lia | omega)]; exact hxl') rfl ?_
      (with_reducible refine sL ‹_› (by kernel_rfl) (mm2 _ _ _ _) (pv8 _ _ _ _ _ _ _ _ _ _) (pt2 _ _ _ _) fun s' c9 => ?_; (try clear c'); rename Cx _ _ _ => c'; refine seqNext ‹_› ?_; refine seqCons fun Q9 hQ9 => ?_; refine wpAny_If ?_; refine evI ‹_› (AtI.val (AtV.loc (by kernel_rfl) (mm2 _ _ _ _) (mm1 _ _ _))) AtI.const (by constructor) (by with_unfolding_all rfl) fun s' c9 => ?_; (try clear c'); rename Cx _ _ _ => c')
      by_cases h1 : head = 1
      · first | refine iteDT (by (first | lia | omega)) ?_ | rw [decide_eq_true (by (first | lia | omega))]
        rw [if_pos h1] at hfin
        (with_reducible refine seqCons fun Q9 hQ9 => ?_; refine wpAny_AugAssign_Name ?_; refine lL ‹_› (by kernel_rfl) (mm2 _ _ _ _) (mm8 _ _ _ _ _ _ _ _ _ _) ?_; refine evSub ‹_› (AtV.loc (by kernel_rfl) (mm2 _ _ _ _) (mm0 _ _)) AtI.const fun t' s' c9 => ?_; (try clear c'); rename Cx _ _ _ => c')
        refine oItemL (c'.old hl) (by decide) (by decide) hx0' rfl ?_
        skip
        refine oImulI _ _ c' b1 b2 (by (first | lia | omega)) (fun t' s' c' => ?_)
        (with_reducible refine sL ‹_› (by kernel_rfl) (mm2 _ _ _ _) (pv8 _ _ _ _ _ _ _ _ _ _) (pt2 _ _ _ _) fun s' c9 => ?_; (try clear c'); rename Cx _ _ _ => c'; refine seqNext ‹_› ?_; refine wpAny_execs_nil ?_; refine seqNext ‹_› ?_; refine seqCons fun Q9 hQ9 => ?_; refine wpAny_If ?_; refine evI ‹_› (AtI.val (AtV.loc (by kernel_rfl) (mm2 _ _ _ _) (mm2 _ _ _ _))) AtI.const (by constructor) (by with_unfolding_all rfl) fun s' c9 => ?_; (try clear c'); rename Cx _ _ _ => c')
        by_cases h2 : tail = 1
        · first | refine iteDT (by (first | lia | omega)) ?_ | rw [decide_eq_true (by (first | lia | omega))]
          rw [if_pos h2] at hfin
          (with_reducible refine seqCons fun Q9 hQ9 => ?_; refine wpAny_AugAssign_Name ?_; refine lL ‹_› (by kernel_rfl) (mm2 _ _ _ _) (mm8 _ _ _ _ _ _ _ _ _ _) ?_; refine evSub ‹_› (AtV.loc (by kernel_rfl) (mm2 _ _ _ _) (mm0 _ _)) (AtI.neg AtI.const) fun t' s' c9 => ?_; (try clear c'); rename Cx _ _ _ => c')
          refine oItemLneg (c'.old hl) (by decide) (by (first | lia | omega)) (by decide) (by rw [show ((-1 : Int) + vs.length).toNat = sizes.length - 1 by (first | lia | omega)]; exact hx1') rfl ?_
          skip
          refine oImulI _ _ c' (bits_mul b1 b2) b3 (by (first | lia | omega)) (fun t' s' c' => ?_)
          ((with_reducible refine sL ‹_› (by kernel_rfl) (mm2 _ _ _ _) (pv8 _ _ _ _ _ _ _ _ _ _) (pt2 _ _ _ _) fun s' c9 => ?_; (try clear c'); rename Cx _ _ _ => c'; refine seqNext ‹_› ?_; refine wpAny_execs_nil ?_; refine seqNext ‹_› ?_; refine seqCons fun Q9 hQ9 => ?_; refine wpAny_Return_some ?_; refine nL ‹_› (by kernel_rfl) (mm2 _ _ _ _) (mm8 _ _ _ _ _ _ _ _ _ _) ?_; refine seqRet ‹_› ?_; refine finRet ‹_› ?_); dsimp only)
          exact hfin ▸ hQ _ _ c'.done
        · first | refine iteDF (by (first | lia | omega)) ?_ | rw [decide_eq_false (by (first | lia | omega))]
          rw [if_neg h2, Int.mul_one] at hfin
          ((with_reducible refine wpAny_execs_nil ?_; refine seqNext ‹_› ?_; refine seqCons fun Q9 hQ9 => ?_; refine wpAny_Return_some ?_; refine nL ‹_› (by kernel_rfl) (mm2 _ _ _ _) (mm8 _ _ _ _ _ _ _ _ _ _) ?_; refine seqRet ‹_› ?_; refine finRet ‹_› ?_); dsimp only)
          exact hfin ▸ hQ _ _ c'.done
      · first | refine iteDF (by (first | lia | omega)) ?_ | rw [decide_eq_false (by (first | lia | omega))]
        rw [if_neg h1, Int.mul_one] at hfin
        (with_reducible refine wpAny_execs_nil ?_; refine seqNext ‹_› ?_; refine seqCons fun Q9 hQ9 => ?_; refine wpAny_If ?_; refine evI ‹_› (AtI.val (AtV.loc (by kernel_rfl) (mm2 _ _ _ _) (mm2 _ _ _ _))) AtI.const (by constructor) (by with_unfolding_all rfl) fun s' c9 => ?_; (try clear c'); rename Cx _ _ _ => c')
        by_cases h2 : tail = 1
        · first | refine iteDT (by (first | lia | omega)) ?_ | rw [decide_eq_true (by (first | lia | omega))]
          rw [if_pos h2] at hfin
          (with_reducible refine seqCons fun Q9 hQ9 => ?_; refine wpAny_AugAssign_Name ?_; refine lL ‹_› (by kernel_rfl) (mm2 _ _ _ _) (mm8 _ _ _ _ _ _ _ _ _ _) ?_; refine evSub ‹_› (AtV.loc (by kernel_rfl) (mm2 _ _ _ _) (mm0 _ _)) (AtI.neg AtI.const) fun t' s' c9 => ?_; (try clear c'); rename Cx _ _ _ => c')
          refine oItemLneg (c'.old hl) (by decide) (by (first | lia | omega)) (by decide) (by rw [show ((-1 : Int) + vs.length).toNat = sizes.length - 1 by (first | lia | omega)]; exact hx1') rfl ?_
          skip
          refine oImulI _ _ c' b1 b3 (by (first | lia | omega)) (fun t' s' c' => ?_)
          ((with_reducible refine sL ‹_› (by kernel_rfl) (mm2 _ _ _ _) (pv8 _ _ _ _ _ _ _ _ _ _) (pt2 _ _ _ _) fun s' c9 => ?_; (try clear c'); rename Cx _ _ _ => c'; refine seqNext ‹_› ?_; refine wpAny_execs_nil ?_; refine seqNext ‹_› ?_; refine seqCons fun Q9 hQ9 => ?_; refine wpAny_Return_some ?_; refine nL ‹_› (by kernel_rfl) (mm2 _ _ _ _) (mm8 _ _ _ _ _ _ _ _ _ _) ?_; refine seqRet ‹_› ?_; refine finRet ‹_› ?_); dsimp only)
          exact hfin ▸ hQ _ _ c'.done
        · first | refine iteDF (by (first | lia | omega)) ?_ | rw [decide_eq_false (by (first | lia | omega))]
          rw [if_neg h2, Int.mul_one] at hfin
          ((with_reducible refine wpAny_execs_nil ?_; refine seqNext ‹_› ?_; refine seqCons fun Q9 hQ9 => ?_; refine wpAny_Return_some ?_; refine nL ‹_› (by kernel_rfl) (mm2 _ _ _ _) (mm8 _ _ _ _ _ _ _ _ _ _) ?_; refine seqRet ‹_› ?_; refine finRet ‹_› ?_); dsimp only)
          exact hfin ▸ hQ _ _ c'.done
end
section
set_option maxRecDepth 100000
open PySem PySem.W PyProof.Rows PySem.Calls
theorem weight_le {ls : List (List Nat)} {n b : Nat} (h1 : ls.length ≤ n) (h2 : ∀ x ∈ ls, x.length ≤ b) : ((ls.map S).map (·.length)).sum + (ls.map S).length ≤ n * (b + 1) := by
  rw [List.length_map]
  induction ls generalizing n with
  | nil => simp
  | cons x ls ih =>
    obtain ⟨m, rfl⟩ : ∃ m, n = m + 1 := ⟨n - 1, by simp at h1; (first | lia | omega)⟩
    have := ih (n := m) (by simpa using h1) fun y hy => h2 y (List.mem_cons_of_mem _ hy)
    have h3 := h2 x List.mem_cons_self
    simp only [List.map_cons, List.sum_cons, List.length_cons, S_len]
    rw [Nat.add_mul, Nat.one_mul]
    (first | lia | omega)
section
variable {prog : Program} {w : World} {A : Around} {E : Value → Shared → Prop} {s₀ s : Shared} {T T' : Tab} {a : Addr} {v : Value} {env : Env} {pos : Pos} {x : Str} {elt iter : Expr} {ifs : List Expr} {scope : Scope} {cl : List (Str × Addr)}
theorem oJoin {sep : List Nat} {vs : List Value} {ls : List (List Nat)} {t : Tok} {Q : Value → Shared → Prop} (c : Cx s₀ s T) (hl : LstAt s.heap a vs) (hs : StrsAre vs (ls.map S)) (n b : Nat) (h1 : ls.length ≤ n) (h2 : ∀ x ∈ ls, x.length ≤ b) (h3 : n * (b + 1) ≤ 1048576) (hsep : sep.length ≤ 16)
    (h : ∀ t s', Cx s₀ s' T → Q (.str (S (joinL sep ls)) t) s') : wpAny (model prog w) A (call (.builtin "str.join") [.str (S sep) t, .ref a]) Q E s :=
  join_listW hl.list (by simpa using hs) (by simpa using hsep) (Nat.le_trans (weight_le h1 h2) h3) fun t' k => by rw [join_eq]; exact h t' _ (c.tok k)
theorem gmJoin {y : Str} {t : Tok} {pl : Sem Bool} {Q : Value × List Value → Shared → Prop} (h : Q (.builtin "str.join", [.str y t]) s) : wpAny (model prog w) A (getMethod (.str y t) "join" pl) Q E s := by with_reducible exact GM.join h
theorem tests0 {Q : Bool → Shared → Prop} (h : Q true s) : wpAny (model prog w) A (testsOf [] env) Q E s := wpAny_tests_nil h
theorem tests1 {c : Expr} {Q : Bool → Shared → Prop} (h : wpAny (model prog w) A (isTrue c env (eval c env)) Q E s) : wpAny (model prog w) A (testsOf [c] env) Q E s := wpAny_tests_one h
theorem readyStrs {it : Addr} {itv : Value} {items : List (List Nat)} {r : Nat → Rs} {P : Nat → Value → Prop} {L : Heap → Prop} {K : Addr → List Value → Shared → Prop} {p : List Nat → Bool} {f : List Nat → List Nat}
    (W : Walk prog w A s₀ it r items.length P L) (hP : ∀ k v, k < items.length → P k v → ∃ xi t, items[k]? = some xi ∧ v = .str (S xi) t) (hz : items.length ≤ sizeLine) (e : itv = .ref it) (c : Cx s₀ s ((it, r 0) :: T)) (hL : ∀ s, Cx s₀ s T → L s.heap)
    (turn : ∀ C D it r' acc xi t s E, xi ∈ items → Cx s₀ s ((C, .ns [(x, some (.str (S xi) t))]) :: (D, .lst acc) :: (it, r') :: T) →
      wpAny (model prog w) A (testsOf ifs (cEnv scope cl C env)) (fun ok s₃ => ok = p xi ∧ (if ok = true then wpAny (model prog w) A (eval elt (cEnv scope cl C env)) (fun y s₄ => ∃ t', y = .str (S (f xi)) t' ∧ Cx s₀ s₄ ((C, .ns [(x, some (.str (S xi) t))]) :: (D, .lst acc) :: (it, r') :: T)) E s₃
        else Cx s₀ s₃ ((C, .ns [(x, some (.str (S xi) t))]) :: (D, .lst acc) :: (it, r') :: T))) E s)
    (hK : ∀ D vs s', StrsAre vs ((((items.filter p).map f)).map S) → Cx s₀ s' ((D, .lst vs) :: T) → K D vs s') :
    CompReady prog w A s₀ env scope cl x ifs elt itv s K := by
  refine ⟨it, r, items.length, P, L, T, fun k acc => StrsAre acc ((((items.take k).filter p).map f).map S), e, W, hz, c, hL, .nil, fun C D => ?_, fun D ys s' hG _ c' => hK D ys s' (by rwa [List.take_length] at hG) c'⟩
  refine turnAny (V := fun xi v => ∃ t, v = .str (S xi) t) p (fun pre acc => StrsAre acc ((pre.map f).map S)) (fun k v hk hv => let ⟨xi, t, h1, h2⟩ := hP k v hk hv; ⟨xi, h1, t, h2⟩) fun C D it r' acc pre xi v s E hx hV hG c => ?_
  obtain ⟨t, rfl⟩ := hV
  refine wpAny_mono (turn C D it r' acc xi t s E hx c) (fun ok s₃ h₃ => ⟨h₃.1, ?_⟩) fun _ _ e => e
  have h₃ := h₃.2
  cases ok
  · exact h₃
  · refine wpAny_mono h₃ (fun y s₄ h₄ => ?_) fun _ _ e => e
    obtain ⟨t', rfl, c'⟩ := h₄
    exact ⟨by rw [List.map_append]; exact saApp1 hG, c'⟩
noncomputable def signsL (y : List Nat) : List (List Nat) := y.map fun c => [c]
theorem readyStr {y : List Nat} {t : Tok} {K : Addr → List Value → Shared → Prop} {p : List Nat → Bool} {f : List Nat → List Nat} (c : Cx s₀ s T) (hh : A.handled = none) (hy : y.all (· < 128) = true) (hz : y.length ≤ sizeLine)
    (turn : ∀ C D it r' acc xi t s E, xi ∈ signsL y → Cx s₀ s ((C, .ns [(x, some (.str (S xi) t))]) :: (D, .lst acc) :: (it, r') :: T) →
      wpAny (model prog w) A (testsOf ifs (cEnv scope cl C env)) (fun ok s₃ => ok = p xi ∧ (if ok = true then wpAny (model prog w) A (eval elt (cEnv scope cl C env)) (fun y s₄ => ∃ t', y = .str (S (f xi)) t' ∧ Cx s₀ s₄ ((C, .ns [(x, some (.str (S xi) t))]) :: (D, .lst acc) :: (it, r') :: T)) E s₃
        else Cx s₀ s₃ ((C, .ns [(x, some (.str (S xi) t))]) :: (D, .lst acc) :: (it, r') :: T))) E s)
    (hK : ∀ D vs s', StrsAre vs (((((signsL y).filter p).map f)).map S) → Cx s₀ s' ((D, .lst vs) :: T) → K D vs s') :
    wpAny (model prog w) A (pyIter (.str (S y) t)) (fun itv s₂ => CompReady prog w A s₀ env scope cl x ifs elt itv s₂ K) E s := by
  refine iterS c (by simpa [S] using hy) fun it s' c' => ?_
  have hW := walkS (prog := prog) (w := w) (s₀ := s₀) (it := it) (y := S y) (t := t) hh
  have e : (S y).cps.size = (signsL y).length := by simp [signsL]
  rw [e] at hW
  refine readyStrs hW (fun k v hk hv => ?_) (by simpa [signsL] using hz) rfl c' (fun _ _ => trivial) turn hK
  obtain ⟨ch, t', h1, rfl⟩ := hv
  exact ⟨[ch], t', by rw [S_get] at h1; simp [signsL, h1], rfl⟩
theorem readyList {l : Addr} {vs : List Value} {items : List (List Nat)} {K : Addr → List Value → Shared → Prop} {p : List Nat → Bool} {f : List Nat → List Nat} (c : Cx s₀ s T) (hh : A.handled = none) (hl : ∀ s, Cx s₀ s T → LstAt s.heap l vs) (hs : StrsAre vs (items.map S)) (hz : items.length ≤ sizeLine)
    (turn : ∀ C D it r' acc xi t s E, xi ∈ items → Cx s₀ s ((C, .ns [(x, some (.str (S xi) t))]) :: (D, .lst acc) :: (it, r') :: T) →
      wpAny (model prog w) A (testsOf ifs (cEnv scope cl C env)) (fun ok s₃ => ok = p xi ∧ (if ok = true then wpAny (model prog w) A (eval elt (cEnv scope cl C env)) (fun y s₄ => ∃ t', y = .str (S (f xi)) t' ∧ Cx s₀ s₄ ((C, .ns [(x, some (.str (S xi) t))]) :: (D, .lst acc) :: (it, r') :: T)) E s₃
        else Cx s₀ s₃ ((C, .ns [(x, some (.str (S xi) t))]) :: (D, .lst acc) :: (it, r') :: T))) E s)
    (hK : ∀ D vs s', StrsAre vs ((((items.filter p).map f)).map S) → Cx s₀ s' ((D, .lst vs) :: T) → K D vs s') :
    wpAny (model prog w) A (pyIter (.ref l)) (fun itv s₂ => CompReady prog w A s₀ env scope cl x ifs elt itv s₂ K) E s := by
  refine iterL c (hl _ c) fun it s' c' => ?_
  have hW := walkL (prog := prog) (w := w) (s₀ := s₀) (it := it) (l := l) (vs := vs) hh
  have e : vs.length = items.length := by simpa using saLen hs
  rw [e] at hW
  refine readyStrs hW (fun k v hk hv => ?_) hz rfl c' hl turn hK
  obtain ⟨t', h1⟩ := saGet hs (i := k) (y := S items[k]) (by simp [hk])
  rw [hv] at h1
  exact ⟨_, t', List.getElem?_eq_getElem hk, Option.some.inj h1⟩
end
theorem flat1 (l : List Nat) : (l.map fun c => [c]).flatten = l := by
  induction l with
  | nil => rfl
  | cons x l ih => simp [ih]
noncomputable def onSign (p : Nat → Bool) : List Nat → Bool
  | [c] => p c
  | _ => true
theorem signs_filter (p : Nat → Bool) (y : List Nat) : (((signsL y).filter (onSign p)).map id) = (y.filter p).map fun c => [c] := by
  rw [List.map_id]; unfold signsL; rw [List.filter_map]; rfl
theorem signs_weight {y : List Nat} {x : List Nat} (h : x ∈ y.map fun c => [c]) : x.length ≤ 1 := by
  obtain ⟨ch, _, rfl⟩ := List.mem_map.mp h; exact Nat.le_refl _
end
section
set_option maxRecDepth 100000
set_option maxHeartbeats 4000000
open PySem PySem.W PyProof.Rows PySem.Calls
noncomputable def spellF (mem signs : List Nat) (way : Nat) : List Nat :=
  if way = 1 ∧ mem.length < 3 then [91, 33] ++ signs.filter (fun c => !mem.contains c) ++ [93]
  else if way = 2 ∧ mem.length = 3 then [91] ++ [signs[0]?.getD 0] ++ [45] ++ [signs[2]?.getD 0] ++ [93]
  else if mem.length = 3 then [63]
  else if way = 0 ∧ mem.length = 1 ∧ ¬ (mem = [42] ∨ mem = [63]) then mem
  else [91] ++ cutL mem (some (-1)) none ++ cutL mem none (some 1) ++ [93]
theorem spell_ok {mg mb : Str → Option Value} {w : World} {f : Addr} {A : Around} {Q E : Value → Shared → Prop} {s : Shared} {mem signs : List Nat} {way : Nat} {t u v : Tok}
    (hA : Room A 3) (F : FnAt s.heap dSpell f) (G : Gl dAll mg mb s.heap) (hm : mem.length ≤ 3) (hm1 : 1 ≤ mem.length) (hw : way ≤ 2) (hsg : signs.length = 3) (hasc : signs.all (· < 128) = true)
    (hQ : ∀ t s', Keeps s s' → Q (.str (S (spellF mem signs way)) t) s') : wpAny (model PW w) A (call (.ref f) [.str (S mem) t, .str (S signs) u, .int way v]) Q E s := by
    refine callD (binds := [("members", .str (S mem) t), ("signs", .str (S signs) u), ("way", .int way v)]) [("signs", .str (S signs) u), ("way", .int way v)] [("members", .str (S mem) t)] [] ["members"] ["signs", "way"] _ [some (.str (S mem) t)] (ks2 := ["members"]) hA.d F G.lim (fun _ _ _ => by kernel_rfl) (by kernel_rfl) (by kernel_rfl) (by kernel_rfl)
      (by kernel_rfl) (by kernel_rfl) (by decide +kernel) (by decide +kernel) (by kernel_rfl) (by decide +kernel) rfl (by kernel_rfl) (by kernel_rfl) (by kernel_rfl) (by kernel_rfl) ?_
    intro L code as s₁ has c
    simp only [List.map_cons, List.map_nil, List.cons_append, List.nil_append, List.zip_nil_right, List.zip_nil_left] at c ⊢
    match as, has with
    | [am], _ => ?_
    simp only [List.zip_cons_cons, List.zip_nil_right, List.map_cons, List.map_nil] at c ⊢
    have hR : Room (A.deeper (envC dSpell L f code [("members", am)])) 2 := Room.deeper hA
    generalize hA9 : A.deeper _ = A9 at hR ⊢
    refine ent ?_
    intro Q9 E9 hQ9 hE9
    refine seqCons ?_
    intro Q7 hQ7
    (with_reducible refine wpAny_If ?_; refine isTrue_and ?_; refine evI ‹_› (AtI.val (AtV.loc (by kernel_rfl) (mm0 _ _) (mm1 _ _ _))) AtI.const (by constructor) (by with_unfolding_all rfl) fun s' c9 => ?_; (try clear c'); rename Cx _ _ _ => c')
    have hz1 : mem.length ≤ sizeLine := by unfold sizeLine; (first | lia | omega)
    have cl1 := cut_length_le mem (some (-1)) none
    have cl2 := cut_length_le mem none (some 1)
    by_cases a1 : way = 1
    · first | refine iteDT (by (first | lia | omega)) ?_ | rw [decide_eq_true (by (first | lia | omega))]
      (with_reducible refine isTrue_and ?_; refine wpAny_isTrue_Compare1 ?_; refine rCallN ?_; refine nB ‹_› ‹_› (by kernel_rfl) (by rfl) (by rfl) (mm0 _ _) ?_; refine blV ‹_› (Ats.cons (AtV.cell (by kernel_rfl) (by with_unfolding_all rfl) (mm1 _ _ _)) Ats.nil) ?_; refine oLenSS ‹_› (by first | assumption | wtm_at "zz_sz") fun t' s' c9 => ?_; (try clear c'); rename Cx _ _ _ => c'; refine kInt ‹_› fun t' s' c9 => ?_; (try clear c'); rename Cx _ _ _ => c'; refine lt_int ?_; refine wpAny_truthy_bool ?_)
      by_cases a2 : mem.length < 3
      · first | refine iteDT (by (first | lia | omega)) ?_ | rw [decide_eq_true (by (first | lia | omega))]
        ((with_reducible refine isTrue_and_nil ?_; refine iteT ?_; refine seqCons fun Q9 hQ9 => ?_; refine wpAny_Return_some ?_; refine wpAny_BinOp ?_; refine wpAny_BinOp ?_; refine kStrS q2 ‹_› fun t' s' c9 => ?_; (try clear c'); rename Cx _ _ _ => c'; refine rMeth (by with_unfolding_all rfl) ?_; refine kStrS q0 ‹_› fun t' s' c9 => ?_; (try clear c'); rename Cx _ _ _ => c'; refine gmJoin ?_; refine rM1 (by with_unfolding_all rfl) ?_; refine rMore (by with_unfolding_all rfl) ?_); dsimp only)
        refine compW (s₀ := s) (cl := [("members", am)]) (by with_unfolding_all rfl) (by decide +kernel) rfl (by decide +kernel) (by decide +kernel) ?_
        (with_reducible refine nL ‹_› (by kernel_rfl) (mm0 _ _) (mm0 _ _) ?_)
        refine readyStr (p := onSign fun ch => !mem.contains ch) (f := id) c' hR.handled hasc (by unfold sizeLine; (first | lia | omega)) ?_ ?_
        · intro C D it r' acc xi t s E hx c'
          obtain ⟨ch, hch, rfl⟩ := List.mem_map.mp hx
          (with_reducible refine tests1 ?_; refine evS ‹_› (AtS.val (AtV.loc (by kernel_rfl) (mm0 _ _) (mm0 _ _))) (AtS.val (AtV.cell (by kernel_rfl) (by with_unfolding_all rfl) (mm4 _ _ _ _ _ _))) (by constructor) (by with_unfolding_all rfl) fun s' c9 => ?_; (try clear c'); rename Cx _ _ _ => c')
          refine ⟨rfl, ?_⟩
          cases hmc : mem.contains ch with
          | true => (with_reducible refine iteNF ?_); exact c'
          | false =>
            (with_reducible refine iteNT ?_; refine nL ‹_› (by kernel_rfl) (mm0 _ _) (mm0 _ _) ?_)
            exact ⟨_, rfl, c'⟩
        · intro D vs s' hvs c'
          (with_reducible refine spliced_none ?_)
          rw [signs_filter] at hvs
          have hfl := List.length_filter_le (fun ch => !mem.contains ch) signs
          refine oJoin c' (c'.lat ((mm0 _ _))) hvs 3 1 (by simpa [hsg] using hfl) (fun x hx => signs_weight hx) (by decide) (by decide) (fun t s' c' => ?_)
          rw [joinL_nil, flat1]
          ((with_reducible refine oCatS ‹_› (by first | assumption | wtm_at "zz_sz") fun t' s' c9 => ?_; (try clear c'); rename Cx _ _ _ => c'; refine kStrS q3 ‹_› fun t' s' c9 => ?_; (try clear c'); rename Cx _ _ _ => c'; refine oCatS ‹_› (by first | assumption | wtm_at "zz_sz") fun t' s' c9 => ?_; (try clear c'); rename Cx _ _ _ => c'; refine seqRet ‹_› ?_; refine seqRet ‹_› ?_; refine finRet ‹_› ?_); dsimp only)
          have hfin : spellF mem signs way = [91, 33] ++ signs.filter (fun c => !mem.contains c) ++ [93] := by unfold spellF; rw [if_pos ⟨a1, a2⟩]
          exact hfin ▸ hQ _ _ c'.done
      · first | refine iteDF (by (first | lia | omega)) ?_ | rw [decide_eq_false (by (first | lia | omega))]
        (with_reducible refine iteF ?_; refine wpAny_execs_nil ?_; refine seqNext ‹_› ?_; refine seqCons fun Q9 hQ9 => ?_; refine wpAny_If ?_; refine isTrue_and ?_; refine evI ‹_› (AtI.val (AtV.loc (by kernel_rfl) (mm0 _ _) (mm1 _ _ _))) AtI.const (by constructor) (by with_unfolding_all rfl) fun s' c9 => ?_; (try clear c'); rename Cx _ _ _ => c')
        first | refine iteDF (by (first | lia | omega)) ?_ | rw [decide_eq_false (by (first | lia | omega))]
        (with_reducible refine iteF ?_; refine wpAny_execs_nil ?_; refine seqNext ‹_› ?_; refine seqCons fun Q9 hQ9 => ?_; refine wpAny_If ?_; refine wpAny_isTrue_Compare1 ?_; refine rCallN ?_; refine nB ‹_› ‹_› (by kernel_rfl) (by rfl) (by rfl) (mm0 _ _) ?_; refine blV ‹_› (Ats.cons (AtV.cell (by kernel_rfl) (by with_unfolding_all rfl) (mm1 _ _ _)) Ats.nil) ?_; refine oLenSS ‹_› (by first | assumption | wtm_at "zz_sz") fun t' s' c9 => ?_; (try clear c'); rename Cx _ _ _ => c'; refine kInt ‹_› fun t' s' c9 => ?_; (try clear c'); rename Cx _ _ _ => c'; refine oEqI ?_; refine wpAny_truthy_bool ?_)
        first | refine iteDT (by (first | lia | omega)) ?_ | rw [decide_eq_true (by (first | lia | omega))]
        ((with_reducible refine seqCons fun Q9 hQ9 => ?_; refine wpAny_Return_some ?_; refine kStrS q6 ‹_› fun t' s' c9 => ?_; (try clear c'); rename Cx _ _ _ => c'; refine seqRet ‹_› ?_; refine seqRet ‹_› ?_; refine finRet ‹_› ?_); dsimp only)
        have hfin : spellF mem signs way = [63] := by unfold spellF; rw [if_neg (by (first | lia | omega)), if_neg (by (first | lia | omega)), if_pos (by (first | lia | omega))]
        exact hfin ▸ hQ _ _ c'.done
    · first | refine iteDF (by (first | lia | omega)) ?_ | rw [decide_eq_false (by (first | lia | omega))]
      (with_reducible refine iteF ?_; refine wpAny_execs_nil ?_; refine seqNext ‹_› ?_; refine seqCons fun Q9 hQ9 => ?_; refine wpAny_If ?_; refine isTrue_and ?_; refine evI ‹_› (AtI.val (AtV.loc (by kernel_rfl) (mm0 _ _) (mm1 _ _ _))) AtI.const (by constructor) (by with_unfolding_all rfl) fun s' c9 => ?_; (try clear c'); rename Cx _ _ _ => c')
      by_cases b1 : way = 2
      · first | refine iteDT (by (first | lia | omega)) ?_ | rw [decide_eq_true (by (first | lia | omega))]
        (with_reducible refine isTrue_and ?_; refine wpAny_isTrue_Compare1 ?_; refine rCallN ?_; refine nB ‹_› ‹_› (by kernel_rfl) (by rfl) (by rfl) (mm0 _ _) ?_; refine blV ‹_› (Ats.cons (AtV.cell (by kernel_rfl) (by with_unfolding_all rfl) (mm1 _ _ _)) Ats.nil) ?_; refine oLenSS ‹_› (by first | assumption | wtm_at "zz_sz") fun t' s' c9 => ?_; (try clear c'); rename Cx _ _ _ => c'; refine kInt ‹_› fun t' s' c9 => ?_; (try clear c'); rename Cx _ _ _ => c'; refine oEqI ?_; refine wpAny_truthy_bool ?_)
        by_cases b2 : mem.length = 3
        · first | refine iteDT (by (first | lia | omega)) ?_ | rw [decide_eq_true (by (first | lia | omega))]
          (with_reducible refine isTrue_and_nil ?_; refine iteT ?_; refine seqCons fun Q9 hQ9 => ?_; refine wpAny_Return_some ?_; refine wpAny_BinOp ?_; refine wpAny_BinOp ?_; refine wpAny_BinOp ?_; refine wpAny_BinOp ?_; refine kStrS q4 ‹_› fun t' s' c9 => ?_; (try clear c'); rename Cx _ _ _ => c')
          refine evItem ‹_› (AtV.loc (by kernel_rfl) (mm0 _ _) (mm0 _ _)) AtI.const 0 rfl (List.getElem?_eq_getElem (by (first | lia | omega))) (by unfold sizeLine; (first | lia | omega)) (fun _ => rfl) (fun _ => rfl) (fun t s' c' => ?_)
          (with_reducible refine oCatS ‹_› (by first | assumption | wtm_at "zz_sz") fun t' s' c9 => ?_; (try clear c'); rename Cx _ _ _ => c'; refine kStrS q5 ‹_› fun t' s' c9 => ?_; (try clear c'); rename Cx _ _ _ => c'; refine oCatS ‹_› (by first | assumption | wtm_at "zz_sz") fun t' s' c9 => ?_; (try clear c'); rename Cx _ _ _ => c')
          refine evItem ‹_› (AtV.loc (by kernel_rfl) (mm0 _ _) (mm0 _ _)) AtI.const 2 rfl (List.getElem?_eq_getElem (by (first | lia | omega))) (by unfold sizeLine; (first | lia | omega)) (fun _ => rfl) (fun _ => rfl) (fun t s' c' => ?_)
          ((with_reducible refine oCatS ‹_› (by first | assumption | wtm_at "zz_sz") fun t' s' c9 => ?_; (try clear c'); rename Cx _ _ _ => c'; refine kStrS q3 ‹_› fun t' s' c9 => ?_; (try clear c'); rename Cx _ _ _ => c'; refine oCatS ‹_› (by first | assumption | wtm_at "zz_sz") fun t' s' c9 => ?_; (try clear c'); rename Cx _ _ _ => c'; refine seqRet ‹_› ?_; refine seqRet ‹_› ?_; refine finRet ‹_› ?_); dsimp only)
          have hfin : spellF mem signs way = [91] ++ [signs[0]] ++ [45] ++ [signs[2]] ++ [93] := by unfold spellF; rw [if_neg (by (first | lia | omega)), if_pos (by (first | lia | omega)), List.getElem?_eq_getElem (by (first | lia | omega)), List.getElem?_eq_getElem (by (first | lia | omega))]; rfl
          exact hfin ▸ hQ _ _ c'.done
        · first | refine iteDF (by (first | lia | omega)) ?_ | rw [decide_eq_false (by (first | lia | omega))]
          (with_reducible refine iteF ?_; refine wpAny_execs_nil ?_; refine seqNext ‹_› ?_; refine seqCons fun Q9 hQ9 => ?_; refine wpAny_If ?_; refine wpAny_isTrue_Compare1 ?_; refine rCallN ?_; refine nB ‹_› ‹_› (by kernel_rfl) (by rfl) (by rfl) (mm0 _ _) ?_; refine blV ‹_› (Ats.cons (AtV.cell (by kernel_rfl) (by with_unfolding_all rfl) (mm1 _ _ _)) Ats.nil) ?_; refine oLenSS ‹_› (by first | assumption | wtm_at "zz_sz") fun t' s' c9 => ?_; (try clear c'); rename Cx _ _ _ => c'; refine kInt ‹_› fun t' s' c9 => ?_; (try clear c'); rename Cx _ _ _ => c'; refine oEqI ?_; refine wpAny_truthy_bool ?_)
          first | refine iteDF (by (first | lia | omega)) ?_ | rw [decide_eq_false (by (first | lia | omega))]
          (with_reducible refine wpAny_execs_nil ?_; refine seqNext ‹_› ?_; refine seqCons fun Q9 hQ9 => ?_; refine wpAny_If ?_; refine isTrue_and ?_; refine evI ‹_› (AtI.val (AtV.loc (by kernel_rfl) (mm0 _ _) (mm1 _ _ _))) AtI.const (by constructor) (by with_unfolding_all rfl) fun s' c9 => ?_; (try clear c'); rename Cx _ _ _ => c')
          first | refine iteDF (by (first | lia | omega)) ?_ | rw [decide_eq_false (by (first | lia | omega))]
          ((with_reducible refine iteF ?_; refine wpAny_execs_nil ?_; refine seqNext ‹_› ?_; refine seqCons fun Q9 hQ9 => ?_; refine wpAny_Return_some ?_; refine wpAny_BinOp ?_; refine wpAny_BinOp ?_; refine wpAny_BinOp ?_; refine kStrS q4 ‹_› fun t' s' c9 => ?_; (try clear c'); rename Cx _ _ _ => c'; refine evSN ‹_› (AtS.val (AtV.cell (by kernel_rfl) (by with_unfolding_all rfl) (mm1 _ _ _))) (AtI.neg AtI.const) (by first | assumption | wtm_at "zz_sz") (by intro _ _; with_unfolding_all rfl) (by intro _ _; with_unfolding_all rfl) fun t' s' c9 => ?_; (try clear c'); rename Cx _ _ _ => c'; refine oCatS ‹_› (by first | assumption | wtm_at "zz_sz") fun t' s' c9 => ?_; (try clear c'); rename Cx _ _ _ => c'; refine evNS ‹_› (AtS.val (AtV.cell (by kernel_rfl) (by with_unfolding_all rfl) (mm1 _ _ _))) AtI.const (by first | assumption | wtm_at "zz_sz") (by intro _ _; with_unfolding_all rfl) (by intro _ _; with_unfolding_all rfl) fun t' s' c9 => ?_; (try clear c'); rename Cx _ _ _ => c'; refine oCatS ‹_› (by first | assumption | wtm_at "zz_sz") fun t' s' c9 => ?_; (try clear c'); rename Cx _ _ _ => c'; refine kStrS q3 ‹_› fun t' s' c9 => ?_; (try clear c'); rename Cx _ _ _ => c'; refine oCatS ‹_› (by first | assumption | wtm_at "zz_sz") fun t' s' c9 => ?_; (try clear c'); rename Cx _ _ _ => c'; refine seqRet ‹_› ?_; refine finRet ‹_› ?_); dsimp only)
          have hfin : spellF mem signs way = [91] ++ cutL mem (some (-1)) none ++ cutL mem none (some 1) ++ [93] := by unfold spellF; rw [if_neg (by (first | lia | omega)), if_neg (by (first | lia | omega)), if_neg (by (first | lia | omega)), if_neg (by (first | lia | omega))]
          exact hfin ▸ hQ _ _ c'.done
      · first | refine iteDF (by (first | lia | omega)) ?_ | rw [decide_eq_false (by (first | lia | omega))]
        (with_reducible refine iteF ?_; refine wpAny_execs_nil ?_; refine seqNext ‹_› ?_; refine seqCons fun Q9 hQ9 => ?_; refine wpAny_If ?_; refine wpAny_isTrue_Compare1 ?_; refine rCallN ?_; refine nB ‹_› ‹_› (by kernel_rfl) (by rfl) (by rfl) (mm0 _ _) ?_; refine blV ‹_› (Ats.cons (AtV.cell (by kernel_rfl) (by with_unfolding_all rfl) (mm1 _ _ _)) Ats.nil) ?_; refine oLenSS ‹_› (by first | assumption | wtm_at "zz_sz") fun t' s' c9 => ?_; (try clear c'); rename Cx _ _ _ => c'; refine kInt ‹_› fun t' s' c9 => ?_; (try clear c'); rename Cx _ _ _ => c'; refine oEqI ?_; refine wpAny_truthy_bool ?_)
        by_cases b2 : mem.length = 3
        · first | refine iteDT (by (first | lia | omega)) ?_ | rw [decide_eq_true (by (first | lia | omega))]
          ((with_reducible refine seqCons fun Q9 hQ9 => ?_; refine wpAny_Return_some ?_; refine kStrS q6 ‹_› fun t' s' c9 => ?_; (try clear c'); rename Cx _ _ _ => c'; refine seqRet ‹_› ?_; refine seqRet ‹_› ?_; refine finRet ‹_› ?_); dsimp only)
          have hfin : spellF mem signs way = [63] := by unfold spellF; rw [if_neg (by (first | lia | omega)), if_neg (by (first | lia | omega)), if_pos (by (first | lia | omega))]
          exact hfin ▸ hQ _ _ c'.done
        · first | refine iteDF (by (first | lia | omega)) ?_ | rw [decide_eq_false (by (first | lia | omega))]
          (with_reducible refine wpAny_execs_nil ?_; refine seqNext ‹_› ?_; refine seqCons fun Q9 hQ9 => ?_; refine wpAny_If ?_; refine isTrue_and ?_; refine evI ‹_› (AtI.val (AtV.loc (by kernel_rfl) (mm0 _ _) (mm1 _ _ _))) AtI.const (by constructor) (by with_unfolding_all rfl) fun s' c9 => ?_; (try clear c'); rename Cx _ _ _ => c')
          first | refine iteDT (by (first | lia | omega)) ?_ | rw [decide_eq_true (by (first | lia | omega))]
          (with_reducible refine isTrue_and ?_; refine wpAny_isTrue_Compare1 ?_; refine rCallN ?_; refine nB ‹_› ‹_› (by kernel_rfl) (by rfl) (by rfl) (mm0 _ _) ?_; refine blV ‹_› (Ats.cons (AtV.cell (by kernel_rfl) (by with_unfolding_all rfl) (mm1 _ _ _)) Ats.nil) ?_; refine oLenSS ‹_› (by first | assumption | wtm_at "zz_sz") fun t' s' c9 => ?_; (try clear c'); rename Cx _ _ _ => c'; refine kInt ‹_› fun t' s' c9 => ?_; (try clear c'); rename Cx _ _ _ => c'; refine oEqI ?_; refine wpAny_truthy_bool ?_)
          by_cases b3 : mem.length = 1
          · first | refine iteDT (by (first | lia | omega)) ?_ | rw [decide_eq_true (by (first | lia | omega))]
            (with_reducible refine isTrue_and ?_; refine wpAny_isTrue_Compare1 ?_; refine nC ‹_› (by kernel_rfl) (by with_unfolding_all rfl) (mm1 _ _ _) ?_; refine kStrS q1 ‹_› fun t' s' c9 => ?_; (try clear c'); rename Cx _ _ _ => c')
            obtain ⟨ch, rfl⟩ := List.length_eq_one_iff.mp b3
            refine notInS1 ?_
            by_cases b4 : [ch] = [42] ∨ [ch] = [63]
            · rw [show [42, 63].contains ch = true by simpa using b4]
              ((with_reducible refine wpAny_truthy_bool ?_; refine iteNF ?_; refine iteF ?_; refine wpAny_execs_nil ?_; refine seqNext ‹_› ?_; refine seqCons fun Q9 hQ9 => ?_; refine wpAny_Return_some ?_; refine wpAny_BinOp ?_; refine wpAny_BinOp ?_; refine wpAny_BinOp ?_; refine kStrS q4 ‹_› fun t' s' c9 => ?_; (try clear c'); rename Cx _ _ _ => c'; refine evSN ‹_› (AtS.val (AtV.cell (by kernel_rfl) (by with_unfolding_all rfl) (mm1 _ _ _))) (AtI.neg AtI.const) (by first | assumption | wtm_at "zz_sz") (by intro _ _; with_unfolding_all rfl) (by intro _ _; with_unfolding_all rfl) fun t' s' c9 => ?_; (try clear c'); rename Cx _ _ _ => c'; refine oCatS ‹_› (by first | assumption | wtm_at "zz_sz") fun t' s' c9 => ?_; (try clear c'); rename Cx _ _ _ => c'; refine evNS ‹_› (AtS.val (AtV.cell (by kernel_rfl) (by with_unfolding_all rfl) (mm1 _ _ _))) AtI.const (by first | assumption | wtm_at "zz_sz") (by intro _ _; with_unfolding_all rfl) (by intro _ _; with_unfolding_all rfl) fun t' s' c9 => ?_; (try clear c'); rename Cx _ _ _ => c'; refine oCatS ‹_› (by first | assumption | wtm_at "zz_sz") fun t' s' c9 => ?_; (try clear c'); rename Cx _ _ _ => c'; refine kStrS q3 ‹_› fun t' s' c9 => ?_; (try clear c'); rename Cx _ _ _ => c'; refine oCatS ‹_› (by first | assumption | wtm_at "zz_sz") fun t' s' c9 => ?_; (try clear c'); rename Cx _ _ _ => c'; refine seqRet ‹_› ?_; refine finRet ‹_› ?_); dsimp only)
              have hfin : spellF [ch] signs way = [91] ++ cutL [ch] (some (-1)) none ++ cutL [ch] none (some 1) ++ [93] := by unfold spellF; rw [if_neg (by (first | lia | omega)), if_neg (by (first | lia | omega)), if_neg (by (first | lia | omega)), if_neg (by intro h; exact h.2.2 b4)]
              exact hfin ▸ hQ _ _ c'.done
            · rw [show [42, 63].contains ch = false by simpa using b4]
              ((with_reducible refine wpAny_truthy_bool ?_; refine iteNT ?_; refine isTrue_and_nil ?_; refine iteT ?_; refine seqCons fun Q9 hQ9 => ?_; refine wpAny_Return_some ?_; refine nC ‹_› (by kernel_rfl) (by with_unfolding_all rfl) (mm1 _ _ _) ?_; refine seqRet ‹_› ?_; refine seqRet ‹_› ?_; refine finRet ‹_› ?_); dsimp only)
              have hfin : spellF [ch] signs way = [ch] := by unfold spellF; rw [if_neg (by (first | lia | omega)), if_neg (by (first | lia | omega)), if_neg (by (first | lia | omega)), if_pos ⟨by (first | lia | omega), rfl, b4⟩]
              exact hfin ▸ hQ _ _ c'.done
          · first | refine iteDF (by (first | lia | omega)) ?_ | rw [decide_eq_false (by (first | lia | omega))]
            ((with_reducible refine iteF ?_; refine wpAny_execs_nil ?_; refine seqNext ‹_› ?_; refine seqCons fun Q9 hQ9 => ?_; refine wpAny_Return_some ?_; refine wpAny_BinOp ?_; refine wpAny_BinOp ?_; refine wpAny_BinOp ?_; refine kStrS q4 ‹_› fun t' s' c9 => ?_; (try clear c'); rename Cx _ _ _ => c'; refine evSN ‹_› (AtS.val (AtV.cell (by kernel_rfl) (by with_unfolding_all rfl) (mm1 _ _ _))) (AtI.neg AtI.const) (by first | assumption | wtm_at "zz_sz") (by intro _ _; with_unfolding_all rfl) (by intro _ _; with_unfolding_all rfl) fun t' s' c9 => ?_; (try clear c'); rename Cx _ _ _ => c'; refine oCatS ‹_› (by first | assumption | wtm_at "zz_sz") fun t' s' c9 => ?_; (try clear c'); rename Cx _ _ _ => c'; refine evNS ‹_› (AtS.val (AtV.cell (by kernel_rfl) (by with_unfolding_all rfl) (mm1 _ _ _))) AtI.const (by first | assumption | wtm_at "zz_sz") (by intro _ _; with_unfolding_all rfl) (by intro _ _; with_unfolding_all rfl) fun t' s' c9 => ?_; (try clear c'); rename Cx _ _ _ => c'; refine oCatS ‹_› (by first | assumption | wtm_at "zz_sz") fun t' s' c9 => ?_; (try clear c'); rename Cx _ _ _ => c'; refine kStrS q3 ‹_› fun t' s' c9 => ?_; (try clear c'); rename Cx _ _ _ => c'; refine oCatS ‹_› (by first | assumption | wtm_at "zz_sz") fun t' s' c9 => ?_; (try clear c'); rename Cx _ _ _ => c'; refine seqRet ‹_› ?_; refine finRet ‹_› ?_); dsimp only)
            have hfin : spellF mem signs way = [91] ++ cutL mem (some (-1)) none ++ cutL mem none (some 1) ++ [93] := by unfold spellF; rw [if_neg (by (first | lia | omega)), if_neg (by (first | lia | omega)), if_neg (by (first | lia | omega)), if_neg (by (first | lia | omega))]
            exact hfin ▸ hQ _ _ c'.done
end
section
set_option maxRecDepth 100000
open PySem PySem.W PyProof.Rows PySem.Calls
theorem cut_head {α : Type} (l : List α) (k : Nat) : cutL l none (some (k : Int)) = l.take k := by
  have e1 : ¬ ((k : Int) < 0) := by (first | lia | omega)
  simp only [cutL, kms_lo, kms_hi, e1, if_false, Int.toNat_natCast, List.drop_zero, Nat.sub_zero]
  rcases Nat.le_total k l.length with h | h
  · rw [Nat.min_eq_left h]
  · rw [Nat.min_eq_right h, List.take_of_length_le (Nat.le_refl _), List.take_of_length_le h]
theorem cut_neg {α : Type} (l : List α) (k : Nat) (hk : 1 ≤ k) : cutL l (some (-(k : Int))) none = l.drop (l.length - k) := by
  have e1 : (-(k : Int)) < 0 := by (first | lia | omega)
  simp only [cutL, kms_lo, kms_hi, e1, if_true, Int.neg_neg, Int.toNat_natCast]
  rw [List.take_of_length_le (by simp)]
theorem findL_drop (l : List Nat) (c a : Nat) : findL l c a l.length = if c ∈ l.drop a then some (a + (l.drop a).idxOf c) else none := by
  unfold findL
  split
  · rename_i h
    rw [List.find?_range'_eq_some]
    have hlt := List.idxOf_lt_length_iff.mpr h
    have hlt' : a + (l.drop a).idxOf c < l.length := by rw [List.length_drop] at hlt; (first | lia | omega)
    have hget : l[a + (l.drop a).idxOf c]? = some c := by
      rw [← List.getElem?_drop, List.getElem?_eq_getElem hlt]; simp
    refine ⟨by simp [hget], List.mem_range'_1.mpr ⟨by (first | lia | omega), by (first | lia | omega)⟩, fun j h1 h2 => ?_⟩
    have := List.not_of_lt_findIdx (p := (· == c)) (xs := l.drop a) (i := j - a) (by show _ < (l.drop a).idxOf c; (first | lia | omega))
    have hj : j - a < (l.drop a).length := by (first | lia | omega)
    have e : l[j]? = (l.drop a)[j - a]? := by rw [List.getElem?_drop]; congr 1; (first | lia | omega)
    rw [e, List.getElem?_eq_getElem hj]
    simpa using this
  · rename_i h
    rw [List.find?_eq_none]
    intro j hj he
    have h1 := List.mem_range'_1.mp hj
    apply h
    rw [List.mem_iff_getElem?]
    refine ⟨j - a, ?_⟩
    rw [List.getElem?_drop, show a + (j - a) = j by (first | lia | omega)]
    simpa using he
section
variable {prog : Program} {w : World} {A : Around} {E : Value → Shared → Prop} {s₀ s : Shared} {T T' : Tab} {a : Addr} {v : Value} {env : Env} {pos : Pos}
theorem chain_lastE {a : Value} {op : CmpOp} {r : Sem Value} {Q : Value → Shared → Prop} (h : wpAny (model prog w) A r (fun b s₁ => wpAny (model prog w) A (compareOp op a b) Q E s₁) E s) : wpAny (model prog w) A (compareChain pos a [op] (r :: evalEach [] env)) Q E s := chain_last h
theorem rM1s {id : String} {o : Value} {e : Expr} {rest : List Expr} {Q : Value → Shared → Prop} (hs : noStars (e :: rest) = true)
    (h : wpAny (model prog w) A (spliced (backTo pos (starEach (e :: rest) env))) (fun vs s₁ => wpAny (model prog w) A (call (.builtin id) (o :: vs)) Q E s₁) E s) :
    wpAny (model prog w) A (callWith pos (.builtin id) [o] (backTo pos (starEach (e :: rest) env)) []) Q E s := rM1 hs h
theorem gmFind {y : Str} {t : Tok} {pl : Sem Bool} {Q : Value × List Value → Shared → Prop} (h : Q (.builtin "str.find", [.str y t]) s) : wpAny (model prog w) A (getMethod (.str y t) "find" pl) Q E s := by with_reducible exact GM.find h
theorem oFind3 {y : List Nat} {ch p : Nat} {t u x : Tok} {Q : Value → Shared → Prop} (c : Cx s₀ s T)
    (h : ∀ t s', Cx s₀ s' T → Q (.int (if ch ∈ y.drop p then ((p + (y.drop p).idxOf ch : Nat) : Int) else -1) t) s') : wpAny (model prog w) A (call (.builtin "str.find") [.str (S y) t, .str (S [ch]) u, .int p x]) Q E s := by
  refine SC.find3 ?_
  have e : Txt.find3 (S y) (S [ch]) (p : Int) = if ch ∈ y.drop p then ((p + (y.drop p).idxOf ch : Nat) : Int) else -1 := by
    unfold Txt.find3
    have e1 : fromIndex (S y).length (p : Int) = p := by unfold fromIndex; rw [if_neg (by (first | lia | omega))]; (first | lia | omega)
    rw [e1, S_len]
    have e2 := occ_find y ch p y.length
    rw [findL_drop] at e2
    cases hO : Builtin.Str.occurrences (S y) (S [ch]) p y.length 1 with
    | nil =>
      rw [hO] at e2
      split at e2
      · cases e2
      · rename_i h; rw [if_neg h]
    | cons k r =>
      rw [hO] at e2
      split at e2
      · rename_i h; rw [if_pos h]; simp only [List.head?_cons, Option.some.injEq] at e2; rw [e2]
      · cases e2
  rw [e]
  exact h _ _ (c.tok _)
theorem oMax {i j : Int} {t u : Tok} {Q : Value → Shared → Prop} (c : Cx s₀ s T) (hh : A.handled = none) (h : ∀ t s', Cx s₀ s' T → Q (.int (if j > i then j else i) t) s') : wpAny (model prog w) A (call (.builtin "max") [.int i t, .int j u]) Q E s :=
  max_two_ints hh fun h' tk hk => by
    split
    · rename_i hc; have := h u _ (c.grow (h' := h') tk hk); rw [if_pos hc] at this; exact this
    · rename_i hc; have := h t _ (c.grow (h' := h') tk hk); rw [if_neg hc] at this; exact this
theorem oLeS {y z : List Nat} {t u : Tok} {Q : Value → Shared → Prop} (h : Q (.bool (!decide (z < y))) s) : wpAny (model prog w) A (compareOp .LtE (.str (S y) t) (.str (S z) u)) Q E s :=
  PySem.P.le_str (by simpa only [S_toList] using h)
theorem oLtS {y z : List Nat} {t u : Tok} {Q : Value → Shared → Prop} (h : Q (.bool (decide (y < z))) s) : wpAny (model prog w) A (compareOp .Lt (.str (S y) t) (.str (S z) u)) Q E s :=
  PySem.P.lt_str (by simpa only [S_toList] using h)
theorem oGtS {y z : List Nat} {t u : Tok} {Q : Value → Shared → Prop} (h : Q (.bool (decide (z < y))) s) : wpAny (model prog w) A (compareOp .Gt (.str (S y) t) (.str (S z) u)) Q E s :=
  PySem.P.gt_str (by simpa only [S_toList] using h)
theorem oNeB {b d : Bool} {Q : Value → Shared → Prop} (h : Q (.bool (b != d)) s) : wpAny (model prog w) A (compareOp .NotEq (.bool b) (.bool d)) Q E s := ne_bool h
end
end
section
set_option maxRecDepth 100000
set_option maxHeartbeats 4000000
open PySem PySem.W PyProof.Rows PySem.Calls
noncomputable def inBody (body : List Nat) (ch : Nat) : Bool :=
  (body.contains ch || (decide ((body.drop 1).take 1 = [45]) && (!decide ([ch] < body.take 1) && !decide (body.drop 2 < [ch])))) != decide (body.take 1 = [94])
noncomputable def setOf (signs body : List Nat) : List Nat := signs.filter (inBody body)
noncomputable def closeAt (rest : List Nat) : Nat := if 93 ∈ rest then rest.idxOf 93 else 0
noncomputable def readStep (signs rest : List Nat) : Option (List Nat) × List Nat :=
  if rest.take 6 = [40, 63, 62, 46, 42, 63] then (some [], rest.drop 6)
  else if rest.take 2 = [46, 42] then (some [], rest.drop 2)
  else if rest.head? = some 41 then (none, rest.drop 1)
  else if rest.head? = some 46 then (some signs, rest.drop 1)
  else if rest.head? = some 92 then (some [rest[1]?.getD 0], rest.drop 2)
  else if rest.head? = some 91 then (some (setOf signs ((rest.drop 1).take (closeAt rest - 1))), rest.drop (closeAt rest + 1))
  else (some [rest.head?.getD 0], rest.drop 1)
noncomputable def readGo (signs : List Nat) : Nat → List Nat → List (List Nat)
  | 0, _ => []
  | n + 1, rest => if rest.length ≤ 3 then [] else (readStep signs rest).1.toList ++ readGo signs n (readStep signs rest).2
theorem readGo_succ (signs rest : List Nat) (n : Nat) : readGo signs (n + 1) rest = if rest.length ≤ 3 then [] else (readStep signs rest).1.toList ++ readGo signs n (readStep signs rest).2 := rfl
theorem read_ok {mg mb : Str → Option Value} {w : World} {f : Addr} {A : Around} {Q E : Value → Shared → Prop} {s : Shared} {text rest signs : List Nat} {t u : Tok}
    (hA : Room A 3) (F : FnAt s.heap dRead f) (G : Gl dAll mg mb s.heap) (ht1 : text = [40, 63, 115, 58] ++ rest) (ht2 : ∃ mid, rest = mid ++ [41, 92, 90]) (hz : text.length ≤ 1000) (hsg : signs.length = 3) (hasc : signs.all (· < 128) = true)
    (hQ : ∀ b vs s', StrsAre vs ((readGo signs rest.length rest).map S) → Cx s s' [(b, .lst vs)] → Q (.ref b) s') : wpAny (model PW w) A (call (.ref f) [.str (S text) t, .str (S signs) u]) Q E s := by
    refine callD (binds := [("text", .str (S text) t), ("signs", .str (S signs) u)]) [("text", .str (S text) t), ("signs", .str (S signs) u)] [] ["row", "at", "close"] ["barred", "body"] ["text", "signs", "row", "at", "close"] _ [none, none] (ks2 := []) hA.d F G.lim (fun _ _ _ => by kernel_rfl) (by kernel_rfl) (by kernel_rfl) (by kernel_rfl)
      (by kernel_rfl) (by kernel_rfl) (by decide +kernel) (by decide +kernel) (by kernel_rfl) (by decide +kernel) rfl (by kernel_rfl) (by kernel_rfl) (by kernel_rfl) (by kernel_rfl) ?_
    intro L code as s₁ has c
    simp only [List.map_cons, List.map_nil, List.cons_append, List.nil_append, List.zip_nil_right, List.zip_nil_left] at c ⊢
    match as, has with
    | [ar, ab], _ => ?_
    simp only [List.zip_cons_cons, List.zip_nil_right, List.map_cons, List.map_nil] at c ⊢
    have hR : Room (A.deeper (envC dRead L f code [("barred", ar), ("body", ab)])) 2 := Room.deeper hA
    have hzs : text.length ≤ sizeLine := by unfold sizeLine; (first | lia | omega)
    obtain ⟨mid, hmid⟩ := ht2
    have hc1 : cutL text none (some 4) = [40, 63, 115, 58] := by rw [show (4 : Int) = ((4 : Nat) : Int) from rfl, cut_head, ht1]; rfl
    have hc2 : cutL text (some (-3)) none = [41, 92, 90] := by
      rw [show (-3 : Int) = -((3 : Nat) : Int) from rfl, cut_neg _ _ (by decide), ht1, hmid, ← List.append_assoc]
      exact List.drop_left' (by simp)
    generalize hA9 : A.deeper _ = A9 at hR ⊢
    refine ent ?_
    intro Q9 E9 hQ9 hE9
    refine seqCons ?_
    intro Q7 hQ7
    (refine wpAny_Assign_Name ?_ (hs := by first | rfl | kernel_rfl); (with_reducible refine List_ ?_; refine spliced_none ?_; refine oNewL ‹_› (by exact Nat.le_of_ble_eq_true rfl) fun b' s' c9 => ?_; (try clear c'); rename Cx _ _ _ => c'; refine sL ‹_› (by kernel_rfl) (mm1 _ _ _) (pv2 _ _ _ _) (pt1 _ _ _) fun s' c9 => ?_; (try clear c'); rename Cx _ _ _ => c'; refine seqNext ‹_› ?_; refine seqCons fun Q9 hQ9 => ?_; refine wpAny_If ?_; refine isTrue_or ?_; refine wpAny_isTrue_Compare1 ?_; refine evNS ‹_› (AtS.val (AtV.loc (by kernel_rfl) (mm1 _ _ _) (mm0 _ _))) AtI.const (by first | assumption | wtm_at "zz_sz") (by intro _ _; with_unfolding_all rfl) (by intro _ _; with_unfolding_all rfl) fun t' s' c9 => ?_; (try clear c'); rename Cx _ _ _ => c'; refine kStrS q7 ‹_› fun t' s' c9 => ?_; (try clear c'); rename Cx _ _ _ => c'; refine oNeS ?_; refine wpAny_truthy_bool ?_))
    rw [hc1, decide_eq_true rfl]
    (with_reducible refine iteNF ?_; refine isTrue_or ?_; refine wpAny_isTrue_Compare1 ?_; refine evSN ‹_› (AtS.val (AtV.loc (by kernel_rfl) (mm1 _ _ _) (mm0 _ _))) (AtI.neg AtI.const) (by first | assumption | wtm_at "zz_sz") (by intro _ _; with_unfolding_all rfl) (by intro _ _; with_unfolding_all rfl) fun t' s' c9 => ?_; (try clear c'); rename Cx _ _ _ => c'; refine kStrS q8 ‹_› fun t' s' c9 => ?_; (try clear c'); rename Cx _ _ _ => c'; refine oNeS ?_; refine wpAny_truthy_bool ?_)
    rw [hc2, decide_eq_true rfl]
    (with_reducible refine iteNF ?_; refine isTrue_or_nil ?_; refine iteF ?_; refine wpAny_execs_nil ?_; refine seqNext ‹_› ?_; refine asgI ‹_› AtI.const (by first | rfl | kernel_rfl) fun t' => ?_; refine Sto.loc (by kernel_rfl) (mm1 _ _ _) (pv3 _ _ _ _ _) (pt1 _ _ _) ?_; intro s' c9; (try clear c'); rename Cx _ _ _ => c'; refine seqCons fun Q9 hQ9 => ?_; refine wpAny_While ?_)
    generalize b' = R at *
    refine whileX (fun n T => Ex8 fun (rs : List Nat) (p : Nat) (row : List (List Nat)) (vs : List Value) (tp : Tok) (o1 o2 o3 : Option Value) => An7 (rs = text.drop p) (p ≤ text.length) (rs.length ≤ n) (row ++ readGo signs n rs = readGo signs rest.length rest) (StrsAre vs (row.map S)) (row.length ≤ p) (T = [(R, Rs.lst vs), (L, Rs.ns [("text", some (.str (S text) t)), ("signs", some (.str (S signs) u)), ("row", some (.ref R)), ("at", some (.int p tp)), ("close", o1)]), (ar, Rs.cell o2), (ab, Rs.cell o3)]))
      (fun T => Ex6 fun (vs : List Value) (p : Nat) (tp : Tok) (o1 o2 o3 : Option Value) => StrsAre vs ((readGo signs rest.length rest).map S) ∧ T = [(R, Rs.lst vs), (L, Rs.ns [("text", some (.str (S text) t)), ("signs", some (.str (S signs) u)), ("row", some (.ref R)), ("at", some (.int p tp)), ("close", o1)]), (ar, Rs.cell o2), (ab, Rs.cell o3)])
      ?_ ?_ rest.length ⟨rest, 4, [], [], _, _, _, _, by rw [ht1]; rfl, by rw [ht1]; simp, Nat.le_refl _, by simp, .nil, Nat.zero_le _, rfl⟩ c'
    · intro n T s₃ h70 c Q8 E8 hQ8 hE8
      obtain ⟨rs, p, row, vs, tp, o1, o2, o3, hrs, hp, hn, hgo, hvs, hrp, rfl⟩ := h70
      have hrl : rs.length = text.length - p := by rw [hrs, List.length_drop]
      have hvl : vs.length = row.length := by simpa using saLen hvs
      (with_reducible refine wpAny_isTrue_Compare1 ?_; refine nL ‹_› (by kernel_rfl) (mm1 _ _ _) (mm3 _ _ _ _ _) ?_; refine wpAny_BinOp ?_; refine rCallN ?_; refine nB ‹_› ‹_› (by kernel_rfl) (by rfl) (by rfl) (mm0 _ _) ?_; refine blV ‹_› (Ats.cons (AtV.loc (by kernel_rfl) (mm1 _ _ _) (mm0 _ _)) Ats.nil) ?_; refine oLenSS ‹_› (by first | assumption | wtm_at "zz_sz") fun t' s' c9 => ?_; (try clear c'); rename Cx _ _ _ => c'; refine kInt ‹_› fun t' s' c9 => ?_; (try clear c'); rename Cx _ _ _ => c'; refine oSub ‹_› fun t' s' c9 => ?_; (try clear c'); rename Cx _ _ _ => c'; refine lt_int ?_; refine wpAny_truthy_bool ?_)
      by_cases hend : rs.length ≤ 3
      · first | refine iteDF (by (first | lia | omega)) ?_ | rw [decide_eq_false (by (first | lia | omega))]
        skip
        refine ⟨_, ⟨vs, p, tp, o1, o2, o3, ?_, rfl⟩, c'⟩
        have : readGo signs n rs = [] := by cases n with
          | zero => rfl
          | succ n => rw [readGo_succ, if_pos hend]
        rw [this, List.append_nil] at hgo
        rw [← hgo]; exact hvs
      · first | refine iteDT (by (first | lia | omega)) ?_ | rw [decide_eq_true (by (first | lia | omega))]
        obtain ⟨n, rfl⟩ : ∃ k, n = k + 1 := ⟨n - 1, by (first | lia | omega)⟩
        rw [readGo_succ, if_neg hend] at hgo
        have hq6 : cutL text (some (p : Int)) (some ((p : Int) + 6)) = rs.take 6 := by rw [hrs]; exact cut_at text p 6
        have hq2 : cutL text (some (p : Int)) (some ((p : Int) + 2)) = rs.take 2 := by rw [hrs]; exact cut_at text p 2
        refine lfC hQ8 (fun C8 hC8 hQ8' => ?_)
        clear hQ8
        have done : ∀ (k : Nat) (x : Option (List Nat)) (vs' : List Value), readStep signs rs = (x, rs.drop k) → 1 ≤ k → k ≤ rs.length → StrsAre vs' ((row ++ x.toList).map S) → ∀ (tp : Tok) (o1 o2 o3 : Option Value) (z : Int), z = p + k →
            ∀ s', Cx s s' [(R, Rs.lst vs'), (L, Rs.ns [("text", some (.str (S text) t)), ("signs", some (.str (S signs) u)), ("row", some (.ref R)), ("at", some (.int z tp)), ("close", o1)]), (ar, Rs.cell o2), (ab, Rs.cell o3)] →
            C8 s' := by
          intro k x vs' hst hk1 hk2 hvs' tp o1 o2 o3 z hz s' c'
          rw [hst] at hgo
          refine hC8 _ ⟨n, _, Nat.lt_succ_self n, ⟨rs.drop k, p + k, row ++ x.toList, vs', tp, o1, o2, o3, by rw [hrs, List.drop_drop], by (first | lia | omega), by rw [List.length_drop]; (first | lia | omega), by rw [List.append_assoc]; exact hgo, hvs', ?_, rfl⟩, ?_⟩
          · have : x.toList.length ≤ 1 := by cases x <;> simp
            rw [List.length_append]; (first | lia | omega)
          · rw [hz] at c'; exact c'
        obtain ⟨ch, tl, hct⟩ : ∃ ch tl, rs = ch :: tl := by cases rs with
          | nil => simp at hend
          | cons a b => exact ⟨a, b, rfl⟩
        have hch : text[p]? = some ch := by
          have : rs[0]? = some ch := by rw [hct]; rfl
          rw [hrs, List.getElem?_drop] at this; simpa using this
        have hhd : rs.head? = some ch := by rw [hct]; rfl
        (with_reducible refine seqCons fun Q9 hQ9 => ?_; refine wpAny_If ?_; refine wpAny_isTrue_Compare1 ?_; refine evSS ‹_› (AtS.val (AtV.loc (by kernel_rfl) (mm1 _ _ _) (mm0 _ _))) (AtI.val (AtV.loc (by kernel_rfl) (mm1 _ _ _) (mm3 _ _ _ _ _))) (AtI.add (AtI.val (AtV.loc (by kernel_rfl) (mm1 _ _ _) (mm3 _ _ _ _ _))) AtI.const) (by first | assumption | wtm_at "zz_sz") (by intro _ _; with_unfolding_all rfl) (by intro _ _; with_unfolding_all rfl) fun t' s' c9 => ?_; (try clear c'); rename Cx _ _ _ => c'; refine kStrS q9 ‹_› fun t' s' c9 => ?_; (try clear c'); rename Cx _ _ _ => c'; refine oEqS ?_; refine wpAny_truthy_bool ?_)
        rw [hq6]
        by_cases h6 : rs.take 6 = [40, 63, 62, 46, 42, 63]
        · first | refine iteDT h6 ?_ | rw [decide_eq_true h6]
          have hst : readStep signs rs = (some [], rs.drop 6) := by unfold readStep; rw [if_pos h6]
          have h6l := congrArg List.length h6
          rw [List.length_take] at h6l
          simp only [List.length_cons, List.length_nil] at h6l
          ((with_reducible refine seqCons fun Q9 hQ9 => ?_); refine wpAny_Expr_any ?_ (hi := by first | rfl | kernel_rfl) (hs := by first | rfl | kernel_rfl); (with_reducible refine rMeth (by with_unfolding_all rfl) ?_; refine nL ‹_› (by kernel_rfl) (mm1 _ _ _) (mm2 _ _ _ _) ?_; refine gmApp (Cx.lat ‹_› (mm0 _ _)) ?_; refine rM1s (by with_unfolding_all rfl) ?_; refine rMore (by with_unfolding_all rfl) ?_; refine kStrS q0 ‹_› fun t' s' c9 => ?_; (try clear c'); rename Cx _ _ _ => c'; refine spliced_none ?_; refine oApp ‹_› (mm0 _ _) (pt0 _ _) (by first | assumption | wtm_at "zz_sz") fun s' c9 => ?_; (try clear c'); rename Cx _ _ _ => c'; refine seqNext ‹_› ?_; refine augI (q := ⟨0, 0, 0, 0⟩) ‹_› (AtI.val (AtV.loc (by kernel_rfl) (mm1 _ _ _) (mm3 _ _ _ _ _))) AtI.const fun t' => ?_; refine Sto.loc (by kernel_rfl) (mm1 _ _ _) (pv3 _ _ _ _ _) (pt1 _ _ _) ?_; intro s' c9; (try clear c'); rename Cx _ _ _ => c'; refine wpAny_execs_nil ?_; refine seqNext ‹_› ?_; refine wpAny_execs_nil ?_; refine lfNext ‹_› ?_))
          exact done 6 _ _ hst (by decide) (by (first | lia | omega)) (saApp1 hvs) _ _ _ _ _ rfl _ c'
        first | refine iteDF h6 ?_ | rw [decide_eq_false h6]
        (with_reducible refine seqCons fun Q9 hQ9 => ?_; refine wpAny_If ?_; refine wpAny_isTrue_Compare1 ?_; refine evSS ‹_› (AtS.val (AtV.loc (by kernel_rfl) (mm1 _ _ _) (mm0 _ _))) (AtI.val (AtV.loc (by kernel_rfl) (mm1 _ _ _) (mm3 _ _ _ _ _))) (AtI.add (AtI.val (AtV.loc (by kernel_rfl) (mm1 _ _ _) (mm3 _ _ _ _ _))) AtI.const) (by first | assumption | wtm_at "zz_sz") (by intro _ _; with_unfolding_all rfl) (by intro _ _; with_unfolding_all rfl) fun t' s' c9 => ?_; (try clear c'); rename Cx _ _ _ => c'; refine kStrS q10 ‹_› fun t' s' c9 => ?_; (try clear c'); rename Cx _ _ _ => c'; refine oEqS ?_; refine wpAny_truthy_bool ?_)
        rw [hq2]
        by_cases h2 : rs.take 2 = [46, 42]
        · first | refine iteDT h2 ?_ | rw [decide_eq_true h2]
          have hst : readStep signs rs = (some [], rs.drop 2) := by unfold readStep; rw [if_neg h6, if_pos h2]
          ((with_reducible refine seqCons fun Q9 hQ9 => ?_); refine wpAny_Expr_any ?_ (hi := by first | rfl | kernel_rfl) (hs := by first | rfl | kernel_rfl); (with_reducible refine rMeth (by with_unfolding_all rfl) ?_; refine nL ‹_› (by kernel_rfl) (mm1 _ _ _) (mm2 _ _ _ _) ?_; refine gmApp (Cx.lat ‹_› (mm0 _ _)) ?_; refine rM1s (by with_unfolding_all rfl) ?_; refine rMore (by with_unfolding_all rfl) ?_; refine kStrS q0 ‹_› fun t' s' c9 => ?_; (try clear c'); rename Cx _ _ _ => c'; refine spliced_none ?_; refine oApp ‹_› (mm0 _ _) (pt0 _ _) (by first | assumption | wtm_at "zz_sz") fun s' c9 => ?_; (try clear c'); rename Cx _ _ _ => c'; refine seqNext ‹_› ?_; refine augI (q := ⟨0, 0, 0, 0⟩) ‹_› (AtI.val (AtV.loc (by kernel_rfl) (mm1 _ _ _) (mm3 _ _ _ _ _))) AtI.const fun t' => ?_; refine Sto.loc (by kernel_rfl) (mm1 _ _ _) (pv3 _ _ _ _ _) (pt1 _ _ _) ?_; intro s' c9; (try clear c'); rename Cx _ _ _ => c'; refine wpAny_execs_nil ?_; refine seqNext ‹_› ?_; refine wpAny_execs_nil ?_; refine seqNext ‹_› ?_; refine wpAny_execs_nil ?_; refine lfNext ‹_› ?_))
          exact done 2 _ _ hst (by decide) (by (first | lia | omega)) (saApp1 hvs) _ _ _ _ _ rfl _ c'
        first | refine iteDF h2 ?_ | rw [decide_eq_false h2]
        (with_reducible refine seqCons fun Q9 hQ9 => ?_; refine wpAny_If ?_; refine wpAny_isTrue_Compare1 ?_)
        refine evItem ‹_› (AtV.loc (by kernel_rfl) (mm1 _ _ _) (mm0 _ _)) (AtI.val (AtV.loc (by kernel_rfl) (mm1 _ _ _) (mm3 _ _ _ _ _))) p rfl hch hzs (fun _ => rfl) (fun _ => rfl) (fun t s' c' => ?_)
        (with_reducible refine kStrS q11 ‹_› fun t' s' c9 => ?_; (try clear c'); rename Cx _ _ _ => c'; refine oEqS ?_; refine wpAny_truthy_bool ?_)
        have stepEq : readStep signs rs = if ch = 41 then (none, rs.drop 1) else if ch = 46 then (some signs, rs.drop 1) else if ch = 92 then (some [rs[1]?.getD 0], rs.drop 2)
            else if ch = 91 then (some (setOf signs ((rs.drop 1).take (closeAt rs - 1))), rs.drop (closeAt rs + 1)) else (some [ch], rs.drop 1) := by
          unfold readStep; rw [if_neg h6, if_neg h2, hhd]; simp only [Option.some.injEq, Option.getD_some]
        by_cases e1 : ch = 41
        · first | refine iteDT (by rw [e1]) ?_ | rw [decide_eq_true (by rw [e1])]
          rw [if_pos e1] at stepEq
          (with_reducible refine augI (q := ⟨0, 0, 0, 0⟩) ‹_› (AtI.val (AtV.loc (by kernel_rfl) (mm1 _ _ _) (mm3 _ _ _ _ _))) AtI.const fun t' => ?_; refine Sto.loc (by kernel_rfl) (mm1 _ _ _) (pv3 _ _ _ _ _) (pt1 _ _ _) ?_; intro s' c9; (try clear c'); rename Cx _ _ _ => c'; refine wpAny_execs_nil ?_; refine seqNext ‹_› ?_; refine wpAny_execs_nil ?_; refine seqNext ‹_› ?_; refine wpAny_execs_nil ?_; refine seqNext ‹_› ?_; refine wpAny_execs_nil ?_; refine lfNext ‹_› ?_)
          exact done 1 _ _ stepEq (by decide) (by (first | lia | omega)) (by simpa using hvs) _ _ _ _ _ rfl _ c'
        first | refine iteDF (by simpa using e1) ?_ | rw [decide_eq_false (by simpa using e1)]
        rw [if_neg e1] at stepEq
        (with_reducible refine seqCons fun Q9 hQ9 => ?_; refine wpAny_If ?_; refine wpAny_isTrue_Compare1 ?_)
        refine evItem ‹_› (AtV.loc (by kernel_rfl) (mm1 _ _ _) (mm0 _ _)) (AtI.val (AtV.loc (by kernel_rfl) (mm1 _ _ _) (mm3 _ _ _ _ _))) p rfl hch hzs (fun _ => rfl) (fun _ => rfl) (fun t s' c' => ?_)
        (with_reducible refine kStrS q12 ‹_› fun t' s' c9 => ?_; (try clear c'); rename Cx _ _ _ => c'; refine oEqS ?_; refine wpAny_truthy_bool ?_)
        by_cases e2 : ch = 46
        · first | refine iteDT (by rw [e2]) ?_ | rw [decide_eq_true (by rw [e2])]
          rw [if_pos e2] at stepEq
          ((with_reducible refine seqCons fun Q9 hQ9 => ?_); refine wpAny_Expr_any ?_ (hi := by first | rfl | kernel_rfl) (hs := by first | rfl | kernel_rfl); (with_reducible refine rMeth (by with_unfolding_all rfl) ?_; refine nL ‹_› (by kernel_rfl) (mm1 _ _ _) (mm2 _ _ _ _) ?_; refine gmApp (Cx.lat ‹_› (mm0 _ _)) ?_; refine rM1s (by with_unfolding_all rfl) ?_; refine rMore (by with_unfolding_all rfl) ?_; refine nL ‹_› (by kernel_rfl) (mm1 _ _ _) (mm1 _ _ _) ?_; refine spliced_none ?_; refine oApp ‹_› (mm0 _ _) (pt0 _ _) (by first | assumption | wtm_at "zz_sz") fun s' c9 => ?_; (try clear c'); rename Cx _ _ _ => c'; refine seqNext ‹_› ?_; refine augI (q := ⟨0, 0, 0, 0⟩) ‹_› (AtI.val (AtV.loc (by kernel_rfl) (mm1 _ _ _) (mm3 _ _ _ _ _))) AtI.const fun t' => ?_; refine Sto.loc (by kernel_rfl) (mm1 _ _ _) (pv3 _ _ _ _ _) (pt1 _ _ _) ?_; intro s' c9; (try clear c'); rename Cx _ _ _ => c'; refine wpAny_execs_nil ?_; refine seqNext ‹_› ?_; refine wpAny_execs_nil ?_; refine seqNext ‹_› ?_; refine wpAny_execs_nil ?_; refine seqNext ‹_› ?_; refine wpAny_execs_nil ?_; refine seqNext ‹_› ?_; refine wpAny_execs_nil ?_; refine lfNext ‹_› ?_))
          exact done 1 _ _ stepEq (by decide) (by (first | lia | omega)) (saApp1 hvs) _ _ _ _ _ rfl _ c'
        first | refine iteDF (by simpa using e2) ?_ | rw [decide_eq_false (by simpa using e2)]
        rw [if_neg e2] at stepEq
        (with_reducible refine seqCons fun Q9 hQ9 => ?_; refine wpAny_If ?_; refine wpAny_isTrue_Compare1 ?_)
        refine evItem ‹_› (AtV.loc (by kernel_rfl) (mm1 _ _ _) (mm0 _ _)) (AtI.val (AtV.loc (by kernel_rfl) (mm1 _ _ _) (mm3 _ _ _ _ _))) p rfl hch hzs (fun _ => rfl) (fun _ => rfl) (fun t s' c' => ?_)
        (with_reducible refine kStrS q13 ‹_› fun t' s' c9 => ?_; (try clear c'); rename Cx _ _ _ => c'; refine oEqS ?_; refine wpAny_truthy_bool ?_)
        by_cases e3 : ch = 92
        · first | refine iteDT (by rw [e3]) ?_ | rw [decide_eq_true (by rw [e3])]
          rw [if_pos e3] at stepEq
          ((with_reducible refine seqCons fun Q9 hQ9 => ?_); refine wpAny_Expr_any ?_ (hi := by first | rfl | kernel_rfl) (hs := by first | rfl | kernel_rfl); (with_reducible refine rMeth (by with_unfolding_all rfl) ?_; refine nL ‹_› (by kernel_rfl) (mm1 _ _ _) (mm2 _ _ _ _) ?_; refine gmApp (Cx.lat ‹_› (mm0 _ _)) ?_; refine rM1s (by with_unfolding_all rfl) ?_; refine rMore (by with_unfolding_all rfl) ?_))
          refine evItem ‹_› (AtV.loc (by kernel_rfl) (mm1 _ _ _) (mm0 _ _)) (AtI.add (AtI.val (AtV.loc (by kernel_rfl) (mm1 _ _ _) (mm3 _ _ _ _ _))) AtI.const) (p + 1) (by (first | lia | omega)) (List.getElem?_eq_getElem (by (first | lia | omega))) hzs (fun _ => rfl) (fun _ => rfl) (fun t s' c' => ?_)
          (with_reducible refine spliced_none ?_; refine oApp ‹_› (mm0 _ _) (pt0 _ _) (by first | assumption | wtm_at "zz_sz") fun s' c9 => ?_; (try clear c'); rename Cx _ _ _ => c'; refine seqNext ‹_› ?_; refine augI (q := ⟨0, 0, 0, 0⟩) ‹_› (AtI.val (AtV.loc (by kernel_rfl) (mm1 _ _ _) (mm3 _ _ _ _ _))) AtI.const fun t' => ?_; refine Sto.loc (by kernel_rfl) (mm1 _ _ _) (pv3 _ _ _ _ _) (pt1 _ _ _) ?_; intro s' c9; (try clear c'); rename Cx _ _ _ => c'; refine wpAny_execs_nil ?_; refine seqNext ‹_› ?_; refine wpAny_execs_nil ?_; refine seqNext ‹_› ?_; refine wpAny_execs_nil ?_; refine seqNext ‹_› ?_; refine wpAny_execs_nil ?_; refine seqNext ‹_› ?_; refine wpAny_execs_nil ?_; refine seqNext ‹_› ?_; refine wpAny_execs_nil ?_; refine lfNext ‹_› ?_)
          have hg1 : rs[1]?.getD 0 = text[p + 1]'(by (first | lia | omega)) := by
            have e : rs[1]? = text[p + 1]? := by rw [hrs, List.getElem?_drop]
            rw [e, List.getElem?_eq_getElem (by (first | lia | omega))]; rfl
          rw [hg1] at stepEq
          exact done 2 _ _ stepEq (by decide) (by (first | lia | omega)) (saApp1 hvs) _ _ _ _ _ rfl _ c'
        first | refine iteDF (by simpa using e3) ?_ | rw [decide_eq_false (by simpa using e3)]
        rw [if_neg e3] at stepEq
        (with_reducible refine seqCons fun Q9 hQ9 => ?_; refine wpAny_If ?_; refine wpAny_isTrue_Compare1 ?_)
        refine evItem ‹_› (AtV.loc (by kernel_rfl) (mm1 _ _ _) (mm0 _ _)) (AtI.val (AtV.loc (by kernel_rfl) (mm1 _ _ _) (mm3 _ _ _ _ _))) p rfl hch hzs (fun _ => rfl) (fun _ => rfl) (fun t s' c' => ?_)
        (with_reducible refine kStrS q4 ‹_› fun t' s' c9 => ?_; (try clear c'); rename Cx _ _ _ => c'; refine oEqS ?_; refine wpAny_truthy_bool ?_)
        by_cases e4 : ch = 91
        · first | refine iteDT (by rw [e4]) ?_ | rw [decide_eq_true (by rw [e4])]
          rw [if_pos e4] at stepEq
          ((with_reducible refine seqCons fun Q9 hQ9 => ?_); refine wpAny_Assign_Name ?_ (hs := by first | rfl | kernel_rfl); (with_reducible refine rCallN ?_; refine nB ‹_› ‹_› (by kernel_rfl) (by rfl) (by rfl) (mm6 _ _ _ _ _ _ _ _) ?_; refine rB1 (by with_unfolding_all rfl) ?_; refine rMore (by with_unfolding_all rfl) ?_; refine nL ‹_› (by kernel_rfl) (mm1 _ _ _) (mm3 _ _ _ _ _) ?_; refine rMore (by with_unfolding_all rfl) ?_; refine rMeth (by with_unfolding_all rfl) ?_; refine nL ‹_› (by kernel_rfl) (mm1 _ _ _) (mm0 _ _) ?_; refine gmFind ?_; refine rM1s (by with_unfolding_all rfl) ?_; refine rMore (by with_unfolding_all rfl) ?_; refine kStrS q3 ‹_› fun t' s' c9 => ?_; (try clear c'); rename Cx _ _ _ => c'; refine rMore (by with_unfolding_all rfl) ?_; refine nL ‹_› (by kernel_rfl) (mm1 _ _ _) (mm3 _ _ _ _ _) ?_; refine spliced_none ?_; refine oFind3 ‹_› fun t' s' c9 => ?_; (try clear c'); rename Cx _ _ _ => c'; refine spliced_none ?_; refine oMax ‹_› (Room.handled ‹_›) fun t' s' c9 => ?_; (try clear c'); rename Cx _ _ _ => c'; refine sL ‹_› (by kernel_rfl) (mm1 _ _ _) (pv4 _ _ _ _ _ _) (pt1 _ _ _) fun s' c9 => ?_; (try clear c'); rename Cx _ _ _ => c'; refine seqNext ‹_› ?_; refine seqCons fun Q9 hQ9 => ?_); refine wpAny_Assign_Name ?_ (hs := by first | rfl | kernel_rfl); (with_reducible refine evSS ‹_› (AtS.val (AtV.loc (by kernel_rfl) (mm1 _ _ _) (mm0 _ _))) (AtI.add (AtI.val (AtV.loc (by kernel_rfl) (mm1 _ _ _) (mm3 _ _ _ _ _))) AtI.const) (AtI.val (AtV.loc (by kernel_rfl) (mm1 _ _ _) (mm4 _ _ _ _ _ _))) (by first | assumption | wtm_at "zz_sz") (by intro _ _; with_unfolding_all rfl) (by intro _ _; with_unfolding_all rfl) fun t' s' c9 => ?_; (try clear c'); rename Cx _ _ _ => c'; refine sC ‹_› (by kernel_rfl) (by with_unfolding_all rfl) (mm3 _ _ _ _ _) (pt3 _ _ _ _ _) fun s' c9 => ?_; (try clear c'); rename Cx _ _ _ => c'; refine seqNext ‹_› ?_; refine seqCons fun Q9 hQ9 => ?_); refine wpAny_Assign_Name ?_ (hs := by first | rfl | kernel_rfl); (with_reducible refine wpAny_Compare1 ?_; refine Subscript_ ?_; refine nC ‹_› (by kernel_rfl) (by with_unfolding_all rfl) (mm3 _ _ _ _ _) ?_; refine wpAny_Slice ?_; refine evalPart_none_step ?_; refine evalPart_some_step ?_; refine kInt ‹_› fun t' s' c9 => ?_; (try clear c'); rename Cx _ _ _ => c'; refine evalPart_none_step ?_))
          have hclose : (if (if 93 ∈ List.drop p text then ((p + List.idxOf 93 (List.drop p text) : Nat) : Int) else -1) > (p : Int) then (if 93 ∈ List.drop p text then ((p + List.idxOf 93 (List.drop p text) : Nat) : Int) else -1) else (p : Int)) = ((p + closeAt rs : Nat) : Int) := by
            rw [← hrs]; unfold closeAt
            by_cases hm : 93 ∈ rs
            · simp only [hm, if_true]; split <;> (first | lia | omega)
            · simp only [hm, if_false]; split <;> (first | lia | omega)
          rw [hclose] at c' ⊢
          have hbody : cutL text (some ((p : Int) + 1)) (some ((p + closeAt rs : Nat) : Int)) = (rs.drop 1).take (closeAt rs - 1) := by
            have := cut_range text (p + 1) (p + closeAt rs)
            rw [hrs, List.drop_drop, show closeAt (text.drop p) - 1 = p + closeAt (text.drop p) - (p + 1) by (first | lia | omega), ← hrs]
            exact this
          rw [hbody] at c' ⊢
          have hclt : closeAt rs < rs.length := by
            unfold closeAt
            split
            · exact List.idxOf_lt_length_iff.mpr (by assumption)
            · (first | lia | omega)
          have hbl : ((rs.drop 1).take (closeAt rs - 1)).length ≤ 1000 := by rw [List.length_take, List.length_drop]; (first | lia | omega)
          generalize hB : (rs.drop 1).take (closeAt rs - 1) = B at *
          have hbz : B.length ≤ sizeLine := by unfold sizeLine; (first | lia | omega)
          ((with_reducible refine oCutNS ‹_› (by first | assumption | wtm_at "zz_sz") (by with_unfolding_all rfl) (by intro _; with_unfolding_all rfl) fun t' s' c9 => ?_; (try clear c'); rename Cx _ _ _ => c'; refine kStrS q14 ‹_› fun t' s' c9 => ?_; (try clear c'); rename Cx _ _ _ => c'; refine oEqS ?_; refine sC ‹_› (by kernel_rfl) (by with_unfolding_all rfl) (mm2 _ _ _ _) (pt2 _ _ _ _) fun s' c9 => ?_; (try clear c'); rename Cx _ _ _ => c'; refine seqNext ‹_› ?_; refine seqCons fun Q9 hQ9 => ?_); refine wpAny_Expr_any ?_ (hi := by first | rfl | kernel_rfl) (hs := by first | rfl | kernel_rfl); (with_reducible refine rMeth (by with_unfolding_all rfl) ?_; refine nL ‹_› (by kernel_rfl) (mm1 _ _ _) (mm2 _ _ _ _) ?_; refine gmApp (Cx.lat ‹_› (mm0 _ _)) ?_; refine rM1s (by with_unfolding_all rfl) ?_; refine rMore (by with_unfolding_all rfl) ?_; refine rMeth (by with_unfolding_all rfl) ?_; refine kStrS q0 ‹_› fun t' s' c9 => ?_; (try clear c'); rename Cx _ _ _ => c'; refine gmJoin ?_; refine rM1s (by with_unfolding_all rfl) ?_; refine rMore (by with_unfolding_all rfl) ?_))
          refine compW (s₀ := s) (cl := [("body", ab), ("barred", ar)]) (by kernel_rfl) (by decide +kernel) rfl (by decide +kernel) (by decide +kernel) ?_
          (with_reducible refine nL ‹_› (by kernel_rfl) (mm1 _ _ _) (mm1 _ _ _) ?_)
          have hb1 : cutL B none (some 1) = B.take 1 := cut_head B 1
          rw [hb1] at c'
          refine readyStr (p := onSign (inBody B)) (f := id) c' hR.handled hasc (by unfold sizeLine; (first | lia | omega)) ?_ ?_
          · intro C D it r' acc xi t s E hx c
            obtain ⟨cs, hcs, rfl⟩ := List.mem_map.mp hx
            ((with_reducible refine tests1 ?_; refine wpAny_isTrue_Compare1 ?_; refine BoolOp_or ?_; refine wpAny_Compare1 ?_; refine nL ‹_› (by kernel_rfl) (mm0 _ _) (mm0 _ _) ?_; refine nC ‹_› (by kernel_rfl) (by with_unfolding_all rfl) (mm6 _ _ _ _ _ _ _ _) ?_; refine inS1 ?_; refine wpAny_truthy_bool ?_); dsimp only)
            have hb2 : cutL B (some 1) (some 2) = (B.drop 1).take 1 := cut_range B 1 2
            have hb3 : cutL B (some 2) none = B.drop 2 := cut_from B 2
            have fin : ∀ b : Bool, b = (B.contains cs || (decide ((B.drop 1).take 1 = [45]) && (!decide ([cs] < B.take 1) && !decide (B.drop 2 < [cs])))) → (b != decide (B.take 1 = [94])) = onSign (inBody B) [cs] := fun b hb => by rw [hb]; rfl
            cases h1 : B.contains cs with
            | true =>
              (with_reducible refine iteT ?_; refine nC ‹_› (by kernel_rfl) (by with_unfolding_all rfl) (mm5 _ _ _ _ _ _ _) ?_; refine oNeB ?_; refine wpAny_truthy_bool ?_)
              refine ⟨fin true (by rw [h1]; rfl), ?_⟩
              cases (true != decide (B.take 1 = [94])) with
              | true => (with_reducible refine iteT ?_; refine nL ‹_› (by kernel_rfl) (mm0 _ _) (mm0 _ _) ?_); exact ⟨_, rfl, c⟩
              | false => (with_reducible refine iteF ?_); exact c
            | false =>
              (with_reducible refine iteF ?_; refine BoolOp_one ?_; refine BoolOp_and ?_; refine wpAny_Compare1 ?_; refine evSS ‹_› (AtS.val (AtV.cell (by kernel_rfl) (by with_unfolding_all rfl) (mm6 _ _ _ _ _ _ _ _))) AtI.const AtI.const (by first | assumption | wtm_at "zz_sz") (by intro _ _; with_unfolding_all rfl) (by intro _ _; with_unfolding_all rfl) fun t' s' c9 => ?_; (try clear c'); rename Cx _ _ _ => c'; refine kStrS q5 ‹_› fun t' s' c9 => ?_; (try clear c'); rename Cx _ _ _ => c'; refine oEqS ?_; refine wpAny_truthy_bool ?_)
              rw [hb2]
              cases h2 : decide ((B.drop 1).take 1 = [45]) with
              | false =>
                (with_reducible refine iteF ?_; refine nC ‹_› (by kernel_rfl) (by with_unfolding_all rfl) (mm5 _ _ _ _ _ _ _) ?_; refine oNeB ?_; refine wpAny_truthy_bool ?_)
                refine ⟨fin false (by rw [h1, h2]; rfl), ?_⟩
                cases (false != decide (B.take 1 = [94])) with
                | true => (with_reducible refine iteT ?_; refine nL ‹_› (by kernel_rfl) (mm0 _ _) (mm0 _ _) ?_); exact ⟨_, rfl, c'⟩
                | false => (with_reducible refine iteF ?_); exact c'
              | true =>
                (with_reducible refine iteT ?_; refine BoolOp_one ?_; refine Compare_chain ?_ (hm := by with_unfolding_all rfl); refine evNS ‹_› (AtS.val (AtV.cell (by kernel_rfl) (by with_unfolding_all rfl) (mm6 _ _ _ _ _ _ _ _))) AtI.const (by first | assumption | wtm_at "zz_sz") (by intro _ _; with_unfolding_all rfl) (by intro _ _; with_unfolding_all rfl) fun t' s' c9 => ?_; (try clear c'); rename Cx _ _ _ => c'; refine chain_link ?_; refine nL ‹_› (by kernel_rfl) (mm0 _ _) (mm0 _ _) ?_; refine oLeS ?_; refine wpAny_truthy_bool ?_)
                rw [hb1]
                cases h3 : decide ([cs] < B.take 1) with
                | true =>
                  (with_reducible refine iteNF ?_; refine nC ‹_› (by kernel_rfl) (by with_unfolding_all rfl) (mm5 _ _ _ _ _ _ _) ?_; refine oNeB ?_; refine wpAny_truthy_bool ?_)
                  refine ⟨fin false (by rw [h1, h2, h3]; rfl), ?_⟩
                  split
                  · (with_reducible refine nL ‹_› (by kernel_rfl) (mm0 _ _) (mm0 _ _) ?_)
                    exact ⟨_, rfl, c'⟩
                  · exact c'
                | false =>
                  (with_reducible refine iteNT ?_; refine chain_lastE ?_; refine evSN ‹_› (AtS.val (AtV.cell (by kernel_rfl) (by with_unfolding_all rfl) (mm6 _ _ _ _ _ _ _ _))) AtI.const (by first | assumption | wtm_at "zz_sz") (by intro _ _; with_unfolding_all rfl) (by intro _ _; with_unfolding_all rfl) fun t' s' c9 => ?_; (try clear c'); rename Cx _ _ _ => c'; refine oLeS ?_; refine nC ‹_› (by kernel_rfl) (by with_unfolding_all rfl) (mm5 _ _ _ _ _ _ _) ?_; refine oNeB ?_; refine wpAny_truthy_bool ?_)
                  rw [hb3]
                  have e3 : (!decide (B.drop 2 < [cs])) = (B.contains cs || (decide ((B.drop 1).take 1 = [45]) && (!decide ([cs] < B.take 1) && !decide (B.drop 2 < [cs])))) := by rw [h1, h2, h3]; rfl
                  refine ⟨fin _ e3, ?_⟩
                  split
                  · (with_reducible refine nL ‹_› (by kernel_rfl) (mm0 _ _) (mm0 _ _) ?_)
                    exact ⟨_, rfl, c'⟩
                  · exact c'
          · intro D vs' s' hvs' c'
            rw [signs_filter] at hvs'
            (with_reducible refine spliced_none ?_)
            have hfl := List.length_filter_le (inBody B) signs
            refine oJoin c' (c'.lat ((mm0 _ _))) hvs' 3 1 (by simpa [hsg] using hfl) (fun x hx => signs_weight hx) (by decide) (by decide) (fun t s' c' => ?_)
            rw [joinL_nil, flat1]
            (with_reducible refine spliced_none ?_; refine oApp ‹_› (mm1 _ _ _) (pt1 _ _ _) (by first | assumption | wtm_at "zz_sz") fun s' c9 => ?_; (try clear c'); rename Cx _ _ _ => c'; refine seqNext ‹_› ?_; refine asgI ‹_› (AtI.add (AtI.val (AtV.loc (by kernel_rfl) (mm2 _ _ _ _) (mm4 _ _ _ _ _ _))) AtI.const) (by first | rfl | kernel_rfl) fun t' => ?_; refine Sto.loc (by kernel_rfl) (mm2 _ _ _ _) (pv3 _ _ _ _ _) (pt2 _ _ _ _) ?_; intro s' c9; (try clear c'); rename Cx _ _ _ => c'; refine wpAny_execs_nil ?_; refine seqNext ‹_› ?_; refine wpAny_execs_nil ?_; refine seqNext ‹_› ?_; refine wpAny_execs_nil ?_; refine seqNext ‹_› ?_; refine wpAny_execs_nil ?_; refine seqNext ‹_› ?_; refine wpAny_execs_nil ?_; refine seqNext ‹_› ?_; refine wpAny_execs_nil ?_; refine seqNext ‹_› ?_; refine wpAny_execs_nil ?_; refine lfNext ‹_› ?_)
            have hst : readStep signs rs = (some (signs.filter (inBody B)), rs.drop (closeAt rs + 1)) := by rw [stepEq]; rfl
            exact done (closeAt rs + 1) _ _ hst (by (first | lia | omega)) (by (first | lia | omega)) (saApp1 hvs) _ _ _ _ _ (by (first | lia | omega)) _ (c'.drop (List.sublist_cons_self ..))
        first | refine iteDF (by simpa using e4) ?_ | rw [decide_eq_false (by simpa using e4)]
        rw [if_neg e4] at stepEq
        ((with_reducible refine seqCons fun Q9 hQ9 => ?_); refine wpAny_Expr_any ?_ (hi := by first | rfl | kernel_rfl) (hs := by first | rfl | kernel_rfl); (with_reducible refine rMeth (by with_unfolding_all rfl) ?_; refine nL ‹_› (by kernel_rfl) (mm1 _ _ _) (mm2 _ _ _ _) ?_; refine gmApp (Cx.lat ‹_› (mm0 _ _)) ?_; refine rM1s (by with_unfolding_all rfl) ?_; refine rMore (by with_unfolding_all rfl) ?_))
        refine evItem ‹_› (AtV.loc (by kernel_rfl) (mm1 _ _ _) (mm0 _ _)) (AtI.val (AtV.loc (by kernel_rfl) (mm1 _ _ _) (mm3 _ _ _ _ _))) p rfl hch hzs (fun _ => rfl) (fun _ => rfl) (fun t s' c' => ?_)
        (with_reducible refine spliced_none ?_; refine oApp ‹_› (mm0 _ _) (pt0 _ _) (by first | assumption | wtm_at "zz_sz") fun s' c9 => ?_; (try clear c'); rename Cx _ _ _ => c'; refine seqNext ‹_› ?_; refine augI (q := ⟨0, 0, 0, 0⟩) ‹_› (AtI.val (AtV.loc (by kernel_rfl) (mm1 _ _ _) (mm3 _ _ _ _ _))) AtI.const fun t' => ?_; refine Sto.loc (by kernel_rfl) (mm1 _ _ _) (pv3 _ _ _ _ _) (pt1 _ _ _) ?_; intro s' c9; (try clear c'); rename Cx _ _ _ => c'; refine wpAny_execs_nil ?_; refine seqNext ‹_› ?_; refine wpAny_execs_nil ?_; refine seqNext ‹_› ?_; refine wpAny_execs_nil ?_; refine seqNext ‹_› ?_; refine wpAny_execs_nil ?_; refine seqNext ‹_› ?_; refine wpAny_execs_nil ?_; refine seqNext ‹_› ?_; refine wpAny_execs_nil ?_; refine seqNext ‹_› ?_; refine wpAny_execs_nil ?_; refine lfNext ‹_› ?_)
        exact done 1 _ _ stepEq (by decide) (by (first | lia | omega)) (saApp1 hvs) _ _ _ _ _ rfl _ c'
    · rintro T s₃ ⟨vs, p, tp, o1, o2, o3, hvs, rfl⟩ c
      ((with_reducible refine seqNext ‹_› ?_; refine seqCons fun Q9 hQ9 => ?_; refine wpAny_Return_some ?_; refine nL ‹_› (by kernel_rfl) (mm1 _ _ _) (mm2 _ _ _ _) ?_; refine seqRet ‹_› ?_; refine finRet ‹_› ?_); dsimp only)
      exact hQ _ _ _ hvs (c.drop (.cons_cons _ (List.nil_sublist _)))
end
section
set_option maxRecDepth 100000
open PySem PySem.W PyProof.Rows PySem.Calls
@[reducible] noncomputable def exN (x : Value) (cls : String) : Rs := .sat fun o => o.cls = .type cls ∧ ∃ t, o.data = .fields #[t, .none, x, .none, .bool false, .none]
@[reducible] noncomputable def exT (x : Value) (cls : String) (tb : Addr) : Rs := .sat fun o => o.cls = .type cls ∧ ∃ vs, o.data = .fields vs ∧ vs[1]? = some (.ref tb) ∧ vs[2]? = some x
@[reducible] noncomputable def exNew (cls : String) : Rs := exN .none cls
@[reducible] noncomputable def tbAt (L : Addr) : Rs := .sat fun o => ∃ tvs, o.data = .fields tvs ∧ tvs[3]? = some (rawInt L)
@[reducible] noncomputable def tbAny : Rs := .sat fun o => ∃ tvs, o.data = .fields tvs ∧ 3 < tvs.size
structure FrOk (T : Tab) (l : List Env) : Prop where
  ok : ∀ e ∈ l, e.scope.kind ≠ .module ∧ ∃ L ns, e.frame = some L ∧ (L, Rs.ns ns) ∈ T
theorem FrOk.cons {T : Tab} {l : List Env} {e : Env} {L : Addr} {ns : List (Str × Option Value)} (h : FrOk T l) (h1 : e.scope.kind ≠ .module) (h2 : e.frame = some L) (h3 : (L, Rs.ns ns) ∈ T) : FrOk T (e :: l) :=
  ⟨fun x hx => by
    rcases List.mem_cons.mp hx with rfl | hx
    · exact ⟨h1, _, _, h2, h3⟩
    · exact h.ok x hx⟩
theorem FrOk.mono {T T' : Tab} {l : List Env} (h : FrOk T l) (hm : ∀ p ∈ T, ∃ r, (p.1, r) ∈ T' ∧ (∀ ns, p.2 = Rs.ns ns → ∃ ns', r = Rs.ns ns')) : FrOk T' l :=
  ⟨fun e he => let ⟨a, L, ns, b, d⟩ := h.ok e he; let ⟨r, m, q⟩ := hm _ d; let ⟨ns', q'⟩ := q ns rfl; ⟨a, L, ns', b, q' ▸ m⟩⟩
theorem FrOk.sub {T T' : Tab} {l : List Env} (h : FrOk T l) (hm : ∀ p ∈ T, p ∈ T') : FrOk T' l := h.mono fun p hp => ⟨p.2, hm p hp, fun ns e => ⟨ns, e⟩⟩
section
variable {M : Model} {prog : Program} {w : World} {A : Around} {E : Value → Shared → Prop} {s₀ s : Shared} {T T' : Tab} {a e tb L : Addr} {v x : Value} {env : Env} {pos : Pos} {cls : String}
theorem Put.same {r : Rs} (h : (a, r) ∈ T) : Put a r T T := by
  induction T with
  | nil => cases h
  | cons p T ih =>
    rcases List.mem_cons.mp h with rfl | h
    · exact .head _ _
    · exact .tail _ (ih h)
theorem readyAll {Q : Unit → Shared → Prop} : ∀ {l : List Env} {s : Shared}, FrOk T l → Cx s₀ s T → (∀ s', Cx s₀ s' T → Q () s') → wpAny M A (readyFrames l) Q E s
  | [], s, _, c, h => wpAny_pure (h _ c)
  | e :: l, s, F, c, h => by
    obtain ⟨hk, L, ns, hf, hT⟩ := F.ok e List.mem_cons_self
    obtain ⟨o, ho, hnd, es, ep, hd, hsk, hfi⟩ := c.get hT
    simp only [readyFrames, hf]
    refine wpAny_bind (wpAny_load ho ?_)
    by_cases hr : ((o.slots.getD 3 none).isSome) = true
    · rw [if_pos hr]; exact wpAny_pure (h _ c)
    rw [if_neg hr]
    refine wpAny_bind (wpAny_of_eq (a := false) (by simp [behindIsImport, hk]) ?_)
    have key : ∀ back : Value, wpAny M A (do
        update L fun o => { o with slots := #[some e.code, some (.ref e.globals), o.slots.getD 2 none, some back, o.slots.getD 4 none, e.func.map Value.ref, some (.ref e.builtins)] ++ (e.cells.map fun c => some (.ref c.2)).toArray }
        readyFrames l) Q E s := fun back => by
      refine wpAny_bind (wpAny_update ho (readyAll ⟨fun x hx => F.ok x (List.mem_cons_of_mem _ hx)⟩ ?_ h))
      have c2 := c.upd (T' := T) s.toks (r := .ns ns) (Put.same hT) (Heap.SameBut.update (a := L) (f := fun o => { o with slots := #[some e.code, some (.ref e.globals), o.slots.getD 2 none, some back, o.slots.getD 4 none, e.func.map Value.ref, some (.ref e.builtins)] ++ (e.cells.map fun c => some (.ref c.2)).toArray }) (h := s.heap)).extBut
        (Heap.get?_update_self _ ho ?_) ⟨hnd, es, ep, hd, hsk, hfi⟩
      · exact c2
      · obtain ⟨cl, dd, dt, sl⟩ := o
        simp only at hd
        subst hd
        rfl
    cases l with
    | nil => exact wpAny_bind (wpAny_keptBack_nil fun v => key v)
    | cons x l => exact wpAny_bind (wpAny_pure (key _))
theorem noteNew {l : List Env} {Q : Unit → Shared → Prop} (c : Cx s₀ s ((e, exN x cls) :: T)) (hfr : A.frames = some (env :: l)) (F : FrOk T (env :: l)) (hf : env.frame = some L)
    (h : ∀ tb s', Cx s₀ s' ((tb, tbAt L) :: (e, exT x cls tb) :: T) → Q () s') : wpAny M A (noteFrame (.ref e) env) Q E s := by
  obtain ⟨oe, he, hcls, t0, hd⟩ := c.sat List.mem_cons_self
  unfold noteFrame
  simp only [hf]
  refine wpAny_bind (wpAny_field he hd (x := .none) rfl ?_)
  rw [if_neg (by decide)]
  unfold PySem.frameOf
  refine wpAny_bind (wpAny_bind (wpAny_frameEnvs hfr ?_))
  have hdw : ((env :: l).dropWhile fun x => x.frame != env.frame) = env :: l := by simp [List.dropWhile]
  rw [hdw]
  unfold frameObject
  refine wpAny_bind (wpAny_bind (readyAll (F.sub fun p hp => List.mem_cons_of_mem _ hp) c fun s₁ c₁ => wpAny_pure ?_))
  rw [hf]
  refine wpAny_pure ?_
  refine wpAny_bind (wpAny_entryPlaceOf fun pl hpl => ?_)
  unfold EntryCells.newEntry newFields
  refine wpAny_bind (wpAny_newObj_type ?_ (hpl.sizeOk5 _ _ _ _ _))
  obtain ⟨oe₁, he₁, hcls₁, t1, hd₁⟩ := c₁.sat List.mem_cons_self
  have he₂ := Heap.get?_push_of_some (h := s₁.heap) { cls := .type "traceback", dict := none, data := .fields ([Value.none, .ref L, .none, rawInt L, .none] ++ (if pl.isEmpty then List.replicate 6 Value.none else pl)).toArray } he₁
  refine wpAny_setField he₂ hd₁ (by simp) ?_
  have c₂ := c₁.push (r := tbAt L) (o := { cls := .type "traceback", dict := none, data := .fields ([Value.none, .ref L, .none, rawInt L, .none] ++ (if pl.isEmpty then List.replicate 6 Value.none else pl)).toArray }) rfl ⟨_, rfl, by simp⟩
  have hd₃ := Obj.data_mapFields hd₁ (·.setIfInBounds 1 (Value.ref s₁.heap.objs.size))
  have c₃ := c₂.upd s₁.toks (r := exT x cls s₁.heap.objs.size) (.tail _ (.head _ _)) (Heap.SameBut.update (a := e) (f := Obj.mapFields (·.setIfInBounds 1 (.ref s₁.heap.objs.size))) (h := s₁.heap.push { cls := .type "traceback", dict := none, data := .fields ([Value.none, .ref L, .none, rawInt L, .none] ++ (if pl.isEmpty then List.replicate 6 Value.none else pl)).toArray })).extBut
    (Heap.get?_update_self _ he₂ (Obj.isFreed_of_fields hd₃)) ⟨by rw [Obj.cls_mapFields]; exact hcls₁, _, hd₃, by simp, by simp⟩
  exact h _ _ c₃
theorem noteFlight {Q : Unit → Shared → Prop} (c : Cx s₀ s ((tb, tbAt L) :: (e, exT x cls tb) :: T)) (hf : env.frame = some L) (h : Q () s) : wpAny M A (noteFrame (.ref e) env) Q E s := by
  obtain ⟨oe, he, _, vs, hd, h1, h2⟩ := c.sat (List.mem_cons_of_mem _ List.mem_cons_self)
  obtain ⟨ot, ht, tvs, hdt, h3⟩ := c.sat List.mem_cons_self
  exact wpAny_noteFrame_inFlight hf he hd h1 ht hdt h3 h
theorem flightOff {Q : Unit → Shared → Prop} (c : Cx s₀ s ((tb, tbAny) :: (e, exT x cls tb) :: T)) (h : ∀ s', Cx s₀ s' ((tb, tbAny) :: (e, exT x cls tb) :: T) → Q () s') : wpAny M A (setFlight (.ref e) none) Q E s := by
  obtain ⟨oe, he, _, vs, hd, h1, h2⟩ := c.sat (List.mem_cons_of_mem _ List.mem_cons_self)
  obtain ⟨ot, ht, tvs, hdt, h3⟩ := c.sat List.mem_cons_self
  refine wpAny_setFlight_none he hd h1 ht hdt h3 ?_
  have hd₃ := Obj.data_mapFields hdt (·.setIfInBounds 3 Value.none)
  exact h _ (c.upd s.toks (.head _ _) (Heap.SameBut.update ..).extBut (Heap.get?_update_self _ ht (Obj.isFreed_of_fields hd₃)) ⟨_, hd₃, by simpa using h3⟩)
theorem flightOn {Q : Unit → Shared → Prop} (c : Cx s₀ s ((tb, tbAny) :: (e, exT x cls tb) :: T)) (h : ∀ s', Cx s₀ s' ((tb, tbAt L) :: (e, exT x cls tb) :: T) → Q () s') : wpAny M A (setFlight (.ref e) (some L)) Q E s := by
  obtain ⟨oe, he, _, vs, hd, h1, h2⟩ := c.sat (List.mem_cons_of_mem _ List.mem_cons_self)
  obtain ⟨ot, ht, tvs, hdt, h3⟩ := c.sat List.mem_cons_self
  unfold setFlight
  refine wpAny_bind (wpAny_field he hd h1 ?_)
  rw [if_pos (show (Value.ref tb != Value.none) = true from by simp)]
  refine wpAny_setField ht hdt h3 ?_
  have hd₃ := Obj.data_mapFields hdt (·.setIfInBounds 3 (rawInt L))
  exact h _ (c.upd s.toks (.head _ _) (Heap.SameBut.update ..).extBut (Heap.get?_update_self _ ht (Obj.isFreed_of_fields hd₃)) ⟨_, hd₃, by simp [h3]⟩)
theorem Cx.anyTb (c : Cx s₀ s ((tb, tbAt L) :: T)) : Cx s₀ s ((tb, tbAny) :: T) :=
  ⟨c.same, c.keep, fun p hp => by
    rcases List.mem_cons.mp hp with rfl | hp
    · obtain ⟨a, o, b, tvs, d, g⟩ := c.own _ List.mem_cons_self
      exact ⟨a, o, b, tvs, d, (Array.getElem?_eq_some_iff.mp g).1⟩
    · exact c.own p (List.mem_cons_of_mem _ hp), c.nd⟩
theorem cameBack (c : Cx s₀ s ((tb, tbAny) :: (e, exT x cls tb) :: T)) (hf : env.frame = some L) (h : ∀ s', Cx s₀ s' ((tb, tbAt L) :: (e, exT x cls tb) :: T) → E (.ref e) s') : cameBackBy M A env E (.ref e) s := by
  obtain ⟨oe, he, _, vs, hd, h1, h2⟩ := c.sat (List.mem_cons_of_mem _ List.mem_cons_self)
  unfold cameBackBy
  refine wpAny_bind (wpAny_field he hd h1 ?_)
  rw [if_neg (by simp)]
  rw [hf]
  exact flightOn c h
theorem Cx.exc (c : Cx s₀ s T) {h' : Heap} {tk : Nat} (x : Heap.NewExc s.heap h' e cls) : Cx s₀ { s with heap := h', toks := tk } ((e, exNew cls) :: T) := by
  obtain ⟨ob, t, ho, hc, hd⟩ := x.there
  exact c.new tk x.new x.keeps ho ⟨hc, t, hd⟩
theorem Cx.trans {s₁ : Shared} {T₁ : Tab} (c : Cx s₀ s T) (d : Cx s s₁ T₁) : Cx s₀ s₁ (T₁ ++ T) := by
  obtain ⟨h, tk, g, e, b⟩ := c.same
  obtain ⟨h2, tk2, g2, e2, b2⟩ := d.same
  refine ⟨⟨h2, tk2, g2, by rw [e2, e], fun x => b2 (by rw [e]; exact b x)⟩, fun b o hb => d.keep b o (c.keep b o hb), fun p hp => ?_, ?_⟩
  · rcases List.mem_append.mp hp with hp | hp
    · obtain ⟨n, r⟩ := d.own p hp
      refine ⟨?_, r⟩
      cases g : s₀.heap.get? p.1 with
      | none => rfl
      | some o => rw [c.keep _ _ g] at n; cases n
    · obtain ⟨n, o, ho, hr⟩ := c.own p hp
      exact ⟨n, o, d.keep _ _ ho, hr⟩
  · rw [List.map_append]
    refine List.nodup_append.mpr ⟨d.nd, c.nd, fun x hx y hy => ?_⟩
    obtain ⟨p, hp, rfl⟩ := List.mem_map.mp hx
    obtain ⟨q, hq, rfl⟩ := List.mem_map.mp hy
    intro heq
    obtain ⟨_, o, ho, _⟩ := c.own q hq
    have := (d.own p hp).1
    rw [heq, ho] at this; cases this
end
end
section
set_option maxRecDepth 100000
open PySem PySem.W PyProof.Rows PySem.Calls
theorem saMem {vs : List Value} {ys : List Str} (h : StrsAre vs ys) {v : Value} (hv : v ∈ vs) : ∃ y t, v = .str y t := by
  induction h with
  | nil => cases hv
  | cons y t h ih =>
    rcases List.mem_cons.mp hv with rfl | hv
    · exact ⟨y, t, rfl⟩
    · exact ih hv
theorem saErase {vs : List Value} {ys : List Str} (h : StrsAre vs ys) (k : Nat) : StrsAre (vs.eraseIdx k) (ys.eraseIdx k) := by
  induction h generalizing k with
  | nil => simp; exact .nil
  | cons y t h ih => cases k with
    | zero => exact h
    | succ k => exact .cons y t (ih k)
theorem eraseMap {α β : Type} (f : α → β) (l : List α) (k : Nat) : (l.map f).eraseIdx k = (l.eraseIdx k).map f := by
  induction l generalizing k with
  | nil => rfl
  | cons x l ih => cases k with
    | zero => rfl
    | succ k => simp [ih]
theorem any_S (ys : List (List Nat)) (x : List Nat) : (ys.map S).any (· == S x) = ys.contains x := by
  rw [Bool.eq_iff_iff]; simp
noncomputable def isX (x : Str) : Value → Bool
  | .str z _ => z == x
  | _ => false
theorem mapSeq_erase (its : Array Value) (n j : Nat) (hj : j < its.size) : Obj.mapSeq (fun xs => xs.eraseIdxIfInBounds j) { cls := .type "list", data := .seq its n } = { cls := .type "list", data := .seq (its.eraseIdxIfInBounds j) (n + 1) } := by
  have : ¬ (its.eraseIdxIfInBounds j).size = its.size := by
    simp only [Array.eraseIdxIfInBounds, hj, dif_pos, Array.size_eraseIdx]; (first | lia | omega)
  simp [Obj.mapSeq, this]
section
variable {prog : Program} {w : World} {A : Around} {E : Value → Shared → Prop} {s₀ s : Shared} {T T' : Tab} {a e tb L : Addr} {v : Value} {env : Env} {pos : Pos} {cls : String}
theorem oInLS {vs : List Value} {ls : List (List Nat)} {x : List Nat} {t : Tok} {Q : Value → Shared → Prop} (hl : LstAt s.heap a vs) (hs : StrsAre vs (ls.map S)) (h : Q (.bool (ls.contains x)) s) : wpAny (model prog w) A (compareOp .In (.str (S x) t) (.ref a)) Q E s :=
  in_list_strs hl.list hs (by rw [any_S]; exact h)
theorem oNotInLS {vs : List Value} {ls : List (List Nat)} {x : List Nat} {t : Tok} {Q : Value → Shared → Prop} (hl : LstAt s.heap a vs) (hs : StrsAre vs (ls.map S)) (h : Q (.bool (!ls.contains x)) s) : wpAny (model prog w) A (compareOp .NotIn (.str (S x) t) (.ref a)) Q E s :=
  notin_list_strs hl.list hs (by rw [any_S]; exact h)
theorem oCopyL {vs : List Value} {Q : Value → Shared → Prop} (c : Cx s₀ s T) (hl : LstAt s.heap a vs) (hz : vs.length ≤ sizeLine) (h : ∀ b s', Cx s₀ s' ((b, .lst vs) :: T) → Q (.ref b) s') : wpAny (model prog w) A (call (.type "list") [.ref a]) Q E s := by
  obtain ⟨n, ho⟩ := hl
  refine call_list_seq (hsz := by simpa using hz) a (.inl rfl) ho rfl rfl fun h' c' hk hD => h _ _ (c.new s.toks ?_ hk hD ⟨c', rfl⟩)
  cases e : s.heap.get? s.heap.objs.size with
  | none => rfl
  | some x => exact absurd (Heap.lt_size e) (Nat.lt_irrefl _)
theorem isX_gives {vs : List Value} {ys : List Str} (h : StrsAre vs ys) (x : Str) (t : Tok) : ∀ y, y ∈ vs.toArray → MeetsSeq.EqGives y (.str x t) (isX x y) := fun y hy => by
  obtain ⟨z, u, rfl⟩ := saMem h (by simpa using hy)
  exact eqGives_str z x u t
theorem isX_at {vs : List Value} {ls : List (List Nat)} (h : StrsAre vs (ls.map S)) (x : List Nat) (m : Nat) (hm : m < vs.toArray.size) : isX (S x) vs.toArray[m] = decide (ls[m]? = some x) := by
  have hl : vs.length = ls.length := by simpa using saLen h
  have hm' : m < ls.length := by simpa [hl] using hm
  obtain ⟨t, e⟩ := saGet h (i := m) (y := S ls[m]) (by simp [hm'])
  have f : vs.toArray[m] = .str (S ls[m]) t := by
    have := Array.getElem?_eq_getElem hm
    simp only [List.getElem?_toArray, e] at this
    exact (Option.some.inj this).symm
  rw [f, List.getElem?_eq_getElem hm']
  show (S ls[m] == S x) = _
  rw [S_eq]; simp
theorem oRemL {vs : List Value} {ls : List (List Nat)} {x : List Nat} {t : Tok} {Tf : Rs → Tab} {Q : Value → Shared → Prop} (c : Cx s₀ s T) (hl : (a, Rs.lst vs) ∈ T) (hs : StrsAre vs (ls.map S)) (hm : x ∈ ls) (hz : vs.length ≤ sizeLine) (hp : ∀ r, Put a r T (Tf r))
    (h : ∀ vs' s', StrsAre vs' ((ls.erase x).map S) → Cx s₀ s' (Tf (.lst vs')) → Q .none s') : wpAny (model prog w) A (call (.builtin "list.remove") [.ref a, .str (S x) t]) Q E s := by
  obtain ⟨n, ho⟩ := c.plain hl
  have hlen : vs.length = ls.length := by simpa using saLen hs
  have hj := List.idxOf_lt_length_iff.mpr hm
  have hjs : ls.idxOf x < vs.toArray.size := by simpa [hlen] using hj
  refine call_meets F.slot_list_remove ⟨_, ho, rfl⟩ F.entry_list_remove (F.args_list_remove_2 _ _) (MeetsSeq.list_remove a vs.toArray n (.str (S x) t) (isX (S x)) (isX_gives hs (S x) t) (ls.idxOf x) hjs ?_ (fun m hm h1 => ?_) (by simpa using hz)) ⟨ho, ?_⟩
  · rw [isX_at hs]; simp [List.getElem?_eq_getElem hj]
  · rw [isX_at hs]
    have hm' : m < ls.length := by (first | lia | omega)
    have := List.not_of_lt_findIdx (p := (· == x)) (xs := ls) (i := m) h1
    simp [List.getElem?_eq_getElem hm']
    simpa using this
  · have e1 : (s.heap.update a (Obj.mapSeq fun xs => xs.eraseIdxIfInBounds (ls.idxOf x))).get? a = some { cls := .type "list", data := .seq (vs.eraseIdx (ls.idxOf x)).toArray (n + 1) } := by
      rw [Heap.get?_update_self _ ho (by rw [mapSeq_erase _ _ _ hjs]; rfl), mapSeq_erase _ _ _ hjs]
      have : vs.toArray.eraseIdxIfInBounds (ls.idxOf x) = (vs.eraseIdx (ls.idxOf x)).toArray := by
        apply Array.toList_inj.mp; simp
      rw [this]
    have c2 := c.upd s.toks (hp (.lst (vs.eraseIdx (ls.idxOf x)))) (Heap.SameBut.update (a := a) (f := Obj.mapSeq fun xs => xs.eraseIdxIfInBounds (ls.idxOf x)) (h := s.heap)).extBut e1 ⟨n + 1, rfl⟩
    refine h _ _ ?_ c2
    have := saErase hs (ls.idxOf x)
    rwa [eraseMap, ← List.erase_eq_eraseIdx_of_idxOf rfl] at this
theorem oRemNone {vs : List Value} {ls : List (List Nat)} {x : List Nat} {t : Tok} {Q : Value → Shared → Prop} (c : Cx s₀ s T) (hh : A.handled = none) (hl : (a, Rs.lst vs) ∈ T) (hs : StrsAre vs (ls.map S)) (hm : x ∉ ls)
    (h : ∀ e s', Cx s₀ s' ((e, exNew "ValueError") :: T) → E (.ref e) s') : wpAny (model prog w) A (call (.builtin "list.remove") [.ref a, .str (S x) t]) Q E s := by
  obtain ⟨n, ho⟩ := c.plain hl
  refine call_meets F.slot_list_remove ⟨_, ho, rfl⟩ F.entry_list_remove (F.args_list_remove_2 _ _) (MeetsSeq.list_remove_none a vs.toArray n (.str (S x) t) (isX (S x)) (isX_gives hs (S x) t) (fun m hm' => ?_)) ⟨ho, hh, fun h' tk e hx => h _ _ (c.exc hx)⟩
  rw [isX_at hs]
  refine decide_eq_false fun he => hm (List.mem_of_getElem? he)
theorem noDict {vs : List Value} (hl : LstAt s.heap a vs) : s.heap.NoDictAt (.ref a) := by
  obtain ⟨n, ho⟩ := hl
  exact ⟨_, ho, rfl⟩
theorem gmRem {vs : List Value} {pl : Sem Bool} {Q : Value × List Value → Shared → Prop} (hl : LstAt s.heap a vs) (h : Q (.builtin "list.remove", [.ref a]) s) : wpAny (model prog w) A (getMethod (.ref a) "remove" pl) Q E s :=
  getMethod_list_of F.slot_list_remove F.type_list_remove hl.list (noDict hl) h
theorem gmPop {vs : List Value} {pl : Sem Bool} {Q : Value × List Value → Shared → Prop} (hl : LstAt s.heap a vs) (h : Q (.builtin "list.pop", [.ref a]) s) : wpAny (model prog w) A (getMethod (.ref a) "pop" pl) Q E s :=
  getMethod_list_of F.slot_list_pop F.type_list_pop hl.list (noDict hl) h
theorem gmExt {vs : List Value} {pl : Sem Bool} {Q : Value × List Value → Shared → Prop} (hl : LstAt s.heap a vs) (h : Q (.builtin "list.extend", [.ref a]) s) : wpAny (model prog w) A (getMethod (.ref a) "extend" pl) Q E s :=
  getMethod_list_of F.slot_list_extend F.type_list_extend hl.list (noDict hl) h
theorem oNot {Q : Value → Shared → Prop} (h : wpAny (model prog w) A (truthy v) (fun c s' => Q (.bool (!c)) s') E s) : wpAny (model prog w) A (unaryOp .Not v) Q E s := PyProof.Rows.not_of h
theorem notedNew {x : Value} {l : List Env} {K : Value → Shared → Prop} {M : Model} (c : Cx s₀ s ((e, exN x cls) :: T)) (hfr : A.frames = some (env :: l)) (F : FrOk T (env :: l)) (hf : env.frame = some L)
    (h : ∀ tb s', Cx s₀ s' ((tb, tbAt L) :: (e, exT x cls tb) :: T) → K (.ref e) s') : notedBy M A env K (.ref e) s :=
  noteNew c hfr F hf h
theorem notedFl {x : Value} {K : Value → Shared → Prop} {M : Model} (c : Cx s₀ s ((tb, tbAt L) :: (e, exT x cls tb) :: T)) (hf : env.frame = some L) (h : K (.ref e) s) : notedBy M A env K (.ref e) s :=
  noteFlight c hf h
theorem caught {x : Value} {n : Str} {p : Pos} {b₀ : Stmt} {suite : List Stmt} {rest : List ExceptHandler} {Q : Flow → Shared → Prop}
    (hexc : isSubtype (.type cls) (.type "BaseException") = pure true) (hnt : isSubtype (.type ((Manifest.find? cls).elim "type" fun x => x.metatype)) (.type "tuple") = pure false) (hsub : isSubtype (.type cls) (.type cls) = pure true)
    (c : Cx s₀ s ((tb, tbAny) :: (e, exT x cls tb) :: T)) (hn : ∀ A' E' (Q' : Value → Shared → Prop), Q' (.type cls) s → wpAny (model prog w) A' (eval (.Name n p) env) Q' E' s)
    (h : ∀ s', Cx s₀ s' ((tb, tbAny) :: (e, exT x cls tb) :: T) → wpAny (model prog w) (A.mark (some (.ref e))) (execs (b₀ :: suite) env) Q (notedBy (model prog w) (A.mark (some (.ref e))) env (cameBackBy (model prog w) A env E)) s') :
    wpAny (model prog w) A (handleBy (.ref e) env (.ExceptHandler (some (.Name n p)) none (b₀ :: suite) pos :: rest)) Q E s := by
  refine wpAny_handleBy_builtin hexc hnt hsub (hn _ _ _ ⟨rfl, ?_, ?_⟩)
  · obtain ⟨o, ho, hc, _⟩ := c.sat (List.mem_cons_of_mem _ List.mem_cons_self)
    exact ⟨o, ho, hc⟩
  · simp only [if_true]
    exact flightOff c fun s' c' => h s' c'
end
theorem tryX {prog : Program} {w : World} {A : Around} {E : Value → Shared → Prop} {s : Shared} {env : Env} {body orelse : List Stmt} {h₀ : ExceptHandler} {hs : List ExceptHandler} {pos : Pos} {Q : Flow → Shared → Prop}
    (h : ∀ (H E' : Value → Shared → Prop), (∀ e s, wpAny (model prog w) A (handleBy e env (h₀ :: hs)) Q E s → H e s) →
      E' = (fun e s₁ => wpAny (model prog w) A (noteFrame e env) (fun _ s₂ => wpAny (model prog w) A (setFlight e none) (fun _ s₃ => H e s₃) E s₂) E s₁) →
      ∀ Q', FinQ (fun f s₁ => match f with | .next => wpAny (model prog w) A (execs orelse env) Q E s₁ | f => Q f s₁) Q' → wpAny (model prog w) A (execs body env) Q' E' s) :
    wpAny (model prog w) A (exec (.Try body (h₀ :: hs) orelse [] pos) env) Q E s :=
  wpAny_Try_except (h _ _ (fun _ _ x => x) rfl _ (fun _ _ x => x))
end
section
set_option maxRecDepth 100000
set_option maxHeartbeats 4000000
open PySem PySem.W PyProof.Rows PySem.Calls
noncomputable def dedupStep (acc : List (List Nat)) (x : List Nat) : List (List Nat) := if acc.contains x then acc else acc ++ [x]
noncomputable def dedupF (ls : List (List Nat)) : List (List Nat) := ls.foldl dedupStep []
theorem dedup_len (ls : List (List Nat)) (acc : List (List Nat)) : (ls.foldl dedupStep acc).length ≤ acc.length + ls.length := by
  induction ls generalizing acc with
  | nil => simp
  | cons x ls ih =>
    have := ih (dedupStep acc x)
    have h2 : (dedupStep acc x).length ≤ acc.length + 1 := by unfold dedupStep; split <;> simp
    simp only [List.foldl_cons, List.length_cons]; (first | lia | omega)
theorem dedup_ok {mg mb : Str → Option Value} {w : World} {f : Addr} {A : Around} {Q E : Value → Shared → Prop} {s : Shared} {l : Addr} {vs : List Value} {ls : List (List Nat)}
    (hA : Room A 3) (F : FnAt s.heap dDedup f) (G : Gl dAll mg mb s.heap) (hl : LstAt s.heap l vs) (hs : StrsAre vs (ls.map S)) (hz1 : ls.length ≤ 1000)
    (hQ : ∀ b vs' s', StrsAre vs' ((dedupF ls).map S) → Cx s s' [(b, .lst vs')] → Q (.ref b) s') : wpAny (model PW w) A (call (.ref f) [.ref l]) Q E s := by
    refine callD (binds := [("unhashable_params", .ref l)]) [("unhashable_params", .ref l)] [] ["new_unhashable", "t"] [] ["unhashable_params", "new_unhashable", "t"] _ [] (ks2 := []) hA.d F G.lim (fun _ _ _ => by kernel_rfl) (by kernel_rfl) (by kernel_rfl) (by kernel_rfl)
      (by kernel_rfl) (by kernel_rfl) (by decide +kernel) (by decide +kernel) (by kernel_rfl) (by decide +kernel) rfl (by kernel_rfl) (by kernel_rfl) (by kernel_rfl) (by kernel_rfl) ?_
    intro L code as s₁ has c
    simp only [List.map_cons, List.map_nil, List.cons_append, List.nil_append, List.zip_nil_right, List.zip_nil_left] at c ⊢
    have hR : Room (A.deeper (envC dDedup L f code [])) 2 := Room.deeper hA
    have hvz : vs.length = ls.length := by simpa using saLen hs
    generalize hA9 : A.deeper _ = A9 at hR ⊢
    refine ent ?_
    intro Q9 E9 hQ9 hE9
    refine seqCons ?_
    intro Q7 hQ7
    (refine wpAny_Assign_Name ?_ (hs := by first | rfl | kernel_rfl); (with_reducible refine List_ ?_; refine spliced_none ?_; refine oNewL ‹_› (by exact Nat.le_of_ble_eq_true rfl) fun b' s' c9 => ?_; (try clear c'); rename Cx _ _ _ => c'; refine sL ‹_› (by kernel_rfl) (mm1 _ _ _) (pv1 _ _ _) (pt1 _ _ _) fun s' c9 => ?_; (try clear c'); rename Cx _ _ _ => c'; refine seqNext ‹_› ?_; refine seqCons fun Q9 hQ9 => ?_); refine wpAny_For ?_ (hs := by intro _; rfl); (with_reducible refine nL ‹_› (by kernel_rfl) (mm1 _ _ _) (mm0 _ _) ?_))
    generalize b' = R at *
    refine iterL c' (c'.old hl) (fun it s' c' => ?_)
    refine forW (walkL (vs := vs) hR.handled) (fun k T => Ex3 fun (acc : List (List Nat)) (av : List Value) (o : Option Value) => An3 ((ls.take k).foldl dedupStep [] = acc) (StrsAre av (acc.map S)) (T = [(R, Rs.lst av), (L, Rs.ns [("unhashable_params", some (.ref l)), ("new_unhashable", some (.ref R)), ("t", o)])]))
      (fun _ _ _ _ c => c.old hl) ?_ ?_ ⟨[], [], none, rfl, .nil, rfl⟩ c' (fun _ => rfl)
    · intro k v T s₂ hk hv h70 c Q8 E8 hQ8 hE8
      obtain ⟨acc, av, o, hacc, hav, rfl⟩ := h70
      obtain ⟨x, hxk⟩ : ∃ x, ls[k]? = some x := ⟨ls[k]'(by (first | lia | omega)), List.getElem?_eq_getElem _⟩
      obtain ⟨tx, hv'⟩ := saGet hs (i := k) (y := S x) (by simp [hxk])
      rw [hv] at hv'; cases hv'
      have hnext : (ls.take (k + 1)).foldl dedupStep [] = dedupStep acc x := by rw [List.take_add_one, hxk, List.foldl_append, hacc]; rfl
      have hal := dedup_len (ls.take k) []
      rw [hacc, List.length_take] at hal
      have havl : av.length = acc.length := by simpa using saLen hav
      simp only [List.length_nil] at hal
      refine wpAny_assign_Name ?_
      (with_reducible refine sL ‹_› (by kernel_rfl) (mm2 _ _ _ _) (pv2 _ _ _ _) (pt2 _ _ _ _) fun s' c9 => ?_; (try clear c'); rename Cx _ _ _ => c'; refine seqCons fun Q9 hQ9 => ?_; refine wpAny_If ?_; refine wpAny_isTrue_Compare1 ?_; refine nL ‹_› (by kernel_rfl) (mm2 _ _ _ _) (mm2 _ _ _ _) ?_; refine nL ‹_› (by kernel_rfl) (mm2 _ _ _ _) (mm1 _ _ _) ?_; refine oNotInLS (Cx.lat ‹_› (mm1 _ _ _)) ‹_› ?_; refine wpAny_truthy_bool ?_)
      unfold dedupStep at hnext
      cases hin : acc.contains x with
      | true =>
        rw [hin] at hnext
        (with_reducible refine iteNF ?_; refine wpAny_execs_nil ?_; refine seqNext ‹_› ?_; refine wpAny_execs_nil ?_; refine lfNext ‹_› ?_)
        exact ⟨_, ⟨acc, av, _, hnext, hav, rfl⟩, c'⟩
      | false =>
        rw [hin] at hnext
        ((with_reducible refine iteNT ?_; refine seqCons fun Q9 hQ9 => ?_); refine wpAny_Expr_any ?_ (hi := by first | rfl | kernel_rfl) (hs := by first | rfl | kernel_rfl); (with_reducible refine rMeth (by with_unfolding_all rfl) ?_; refine nL ‹_› (by kernel_rfl) (mm2 _ _ _ _) (mm1 _ _ _) ?_; refine gmApp (Cx.lat ‹_› (mm1 _ _ _)) ?_; refine rM1s (by with_unfolding_all rfl) ?_; refine rMore (by with_unfolding_all rfl) ?_; refine nL ‹_› (by kernel_rfl) (mm2 _ _ _ _) (mm2 _ _ _ _) ?_; refine spliced_none ?_; refine oApp ‹_› (mm1 _ _ _) (pt1 _ _ _) (by first | assumption | wtm_at "zz_sz") fun s' c9 => ?_; (try clear c'); rename Cx _ _ _ => c'; refine seqNext ‹_› ?_; refine wpAny_execs_nil ?_; refine seqNext ‹_› ?_; refine wpAny_execs_nil ?_; refine lfNext ‹_› ?_))
        exact ⟨_, ⟨acc ++ [x], _, _, hnext, saApp1 hav, rfl⟩, c'⟩
    · rintro T s₂ ⟨acc, av, o, hacc, hav, rfl⟩ c
      ((with_reducible refine seqNext ‹_› ?_; refine seqCons fun Q9 hQ9 => ?_; refine wpAny_Return_some ?_; refine nL ‹_› (by kernel_rfl) (mm1 _ _ _) (mm1 _ _ _) ?_; refine seqRet ‹_› ?_; refine finRet ‹_› ?_); dsimp only)
      have : dedupF ls = acc := by unfold dedupF; rw [← hacc, List.take_of_length_le (by (first | lia | omega))]
      exact hQ _ _ _ (this ▸ hav) (c.drop (.cons_cons _ (List.nil_sublist _)))
end
section
set_option maxRecDepth 100000
set_option maxHeartbeats 4000000
open PySem PySem.W PyProof.Rows PySem.Calls
noncomputable def removeAll : List (List Nat) → List (List Nat) → Option (List (List Nat))
  | [], t => some t
  | x :: r, t => if x ∈ t then removeAll r (t.erase x) else none
noncomputable def cmpF (a b : List (List Nat)) : Bool := match removeAll (dedupF a) (dedupF b) with
  | none => false
  | some t => t.isEmpty
theorem vErr1 : isSubtype (.type "ValueError") (.type "BaseException") = pure true := by kernel_rfl
theorem vErr2 : isSubtype (.type ((Manifest.find? "ValueError").elim "type" fun x => x.metatype)) (.type "tuple") = pure false := by kernel_rfl
theorem vErr3 : isSubtype (.type "ValueError") (.type "ValueError") = pure true := by kernel_rfl
theorem cmp_ok {mg mb : Str → Option Value} {w : World} {f fd : Addr} (hfd : mg "_deduplicate_unhashable" = some (.ref fd)) {A : Around} {Q E : Value → Shared → Prop} {s₀ s : Shared} {T : Tab} {fr : List Env} {l1 l2 : Addr} {vs1 vs2 : List Value} {ls1 ls2 : List (List Nat)}
    (hA : Room A 6) (F : FnAt s₀.heap dCmp f) (Fd : FnAt s₀.heap dDedup fd) (G : Gl dAll mg mb s₀.heap) (c0 : Cx s₀ s T) (hfr : A.frames = some fr) (hF : FrOk T fr)
    (hl1 : ∀ s, Cx s₀ s T → LstAt s.heap l1 vs1) (hs1 : StrsAre vs1 (ls1.map S)) (hz1 : ls1.length ≤ 1000) (hl2 : ∀ s, Cx s₀ s T → LstAt s.heap l2 vs2) (hs2 : StrsAre vs2 (ls2.map S)) (hz2 : ls2.length ≤ 1000)
    (hQ : ∀ s', Cx s₀ s' T → Q (.bool (cmpF ls1 ls2)) s') : wpAny (model PW w) A (call (.ref f) [.ref l1, .ref l2]) Q E s := by
    refine callD (binds := [("first_args", .ref l1), ("second_args", .ref l2)]) [("first_args", .ref l1), ("second_args", .ref l2)] [] ["first_unhashable", "second_unhashable", "t", "elem"] [] ["first_args", "second_args", "first_unhashable", "second_unhashable", "t", "elem"] _ [] (ks2 := []) hA.d (F.keeps c0.keep) (G.keeps c0.keep).lim (fun _ _ _ => by kernel_rfl) (by kernel_rfl) (by kernel_rfl) (by kernel_rfl)
      (by kernel_rfl) (by kernel_rfl) (by decide +kernel) (by decide +kernel) (by kernel_rfl) (by decide +kernel) rfl (by kernel_rfl) (by kernel_rfl) (by kernel_rfl) (by kernel_rfl) ?_
    intro L code as s₁ has c
    simp only [List.map_cons, List.map_nil, List.cons_append, List.nil_append, List.zip_nil_right, List.zip_nil_left] at c ⊢
    have hR : Room (A.deeper (envC dCmp L f code [])) 5 := Room.deeper hA
    have hfr' : (A.deeper (envC dCmp L f code [])).frames = some (envC dCmp L f code [] :: fr) := by show A.frames.map _ = _; rw [hfr]; rfl
    replace c := c0.trans c
    simp only [List.cons_append, List.nil_append] at c
    generalize hA9 : A.deeper _ = A9 at hR hfr' ⊢
    refine ent ?_
    intro Q9 E9 hQ9 hE9
    refine seqCons ?_
    intro Q7 hQ7
    (refine wpAny_Assign_Name ?_ (hs := by first | rfl | kernel_rfl); (with_reducible refine rCallN ?_; refine nG ‹_› ‹_› (by kernel_rfl) (by rfl) ‹_› ?_; refine fnV ‹_› ‹_› (Ats.cons (AtV.loc (by kernel_rfl) (mm0 _ _) (mm0 _ _)) Ats.nil) ?_))
    refine dedup_ok (hR.le (by decide)) (Fd.keeps c.keep) (G.keeps c.keep) (hl1 _ (c.drop ((List.Sublist.cons _ (List.Sublist.refl _))))) hs1 hz1 (fun b1 us1 s' hu1 d => ?_)
    replace c' := c.trans d
    simp only [List.cons_append, List.nil_append] at c'
    ((with_reducible refine sL ‹_› (by kernel_rfl) (mm1 _ _ _) (pv2 _ _ _ _) (pt1 _ _ _) fun s' c9 => ?_; (try clear c'); rename Cx _ _ _ => c'; refine seqNext ‹_› ?_; refine seqCons fun Q9 hQ9 => ?_); refine wpAny_Assign_Name ?_ (hs := by first | rfl | kernel_rfl); (with_reducible refine rCallN ?_; refine nG ‹_› ‹_› (by kernel_rfl) (by rfl) ‹_› ?_; refine fnV ‹_› ‹_› (Ats.cons (AtV.loc (by kernel_rfl) (mm1 _ _ _) (mm1 _ _ _)) Ats.nil) ?_))
    refine dedup_ok (hR.le (by decide)) (Fd.keeps c'.keep) (G.keeps c'.keep) (hl2 _ (c'.drop ((List.Sublist.cons _ (List.Sublist.cons _ (List.Sublist.refl _)))))) hs2 hz2 (fun b2 us2 s' hu2 d => ?_)
    replace c' := c'.trans d
    simp only [List.cons_append, List.nil_append] at c'
    have hd1 := dedup_len ls1 []
    have hd2 := dedup_len ls2 []
    have hk1 : us1.length = (dedupF ls1).length := by simpa using saLen hu1
    have hk2 : us2.length = (dedupF ls2).length := by simpa using saLen hu2
    change (dedupF ls1).length ≤ _ at hd1
    change (dedupF ls2).length ≤ _ at hd2
    simp only [List.length_nil] at hd1 hd2
    ((with_reducible refine sL ‹_› (by kernel_rfl) (mm2 _ _ _ _) (pv3 _ _ _ _ _) (pt2 _ _ _ _) fun s' c9 => ?_; (try clear c'); rename Cx _ _ _ => c'; refine seqNext ‹_› ?_; refine seqCons fun Q9 hQ9 => ?_); refine wpAny_Assign_Name ?_ (hs := by first | rfl | kernel_rfl); (with_reducible refine rCallN ?_; refine nB ‹_› ‹_› (by kernel_rfl) (by rfl) (by rfl) (mm2 _ _ _ _) ?_; refine rT1 (by with_unfolding_all rfl) ?_; refine rMore (by with_unfolding_all rfl) ?_; refine nL ‹_› (by kernel_rfl) (mm2 _ _ _ _) (mm3 _ _ _ _ _) ?_; refine spliced_none ?_; refine oCopyL ‹_› (Cx.lat ‹_› (mm0 _ _)) (by first | assumption | wtm_at "zz_sz") fun b' s' c9 => ?_; (try clear c'); rename Cx _ _ _ => c'; refine sL ‹_› (by kernel_rfl) (mm3 _ _ _ _ _) (pv4 _ _ _ _ _ _) (pt3 _ _ _ _ _) fun s' c9 => ?_; (try clear c'); rename Cx _ _ _ => c'; refine seqNext ‹_› ?_; refine seqCons fun Q9 hQ9 => ?_))
    generalize b' = B at *
    refine wpAny_Try_except ?_
    ((with_reducible refine seqCons fun Q9 hQ9 => ?_); refine wpAny_For ?_ (hs := by intro _; rfl); (with_reducible refine nL ‹_› (by kernel_rfl) (mm3 _ _ _ _ _) (mm2 _ _ _ _) ?_))
    refine iterL c' (c'.lat ((mm2 _ _ _ _))) (fun it s' c' => ?_)
    refine forW (walkL (vs := us1) hR.handled) (fun k T' => Ex3 fun (t : List (List Nat)) (tv : List Value) (o : Option Value) => An4 (removeAll (dedupF ls1) (dedupF ls2) = removeAll ((dedupF ls1).drop k) t) (StrsAre tv (t.map S)) (t.length ≤ 1000) (T' = (B, Rs.lst tv) :: (b2, Rs.lst us2) :: (b1, Rs.lst us1) :: (L, Rs.ns [("first_args", some (.ref l1)), ("second_args", some (.ref l2)), ("first_unhashable", some (.ref b1)), ("second_unhashable", some (.ref b2)), ("t", some (.ref B)), ("elem", o)]) :: T))
      (fun k T' s hI c => ?_) ?_ ?_ ⟨_, us2, none, rfl, hu2, by (first | lia | omega), ?_⟩ c' (fun _ => rfl)
    · obtain ⟨t, tv, o, _, _, _, rfl⟩ := hI
      exact c.lat ((mm3 _ _ _ _ _))
    · intro k v T' s₂ hk hv h70 c Q8 E8 hQ8 hE8
      obtain ⟨t, tv, o, hrem, htv, htl, rfl⟩ := h70
      obtain ⟨x, hxk, hdr⟩ : ∃ x, (dedupF ls1)[k]? = some x ∧ (dedupF ls1).drop k = x :: (dedupF ls1).drop (k + 1) := ⟨(dedupF ls1)[k]'(by (first | lia | omega)), List.getElem?_eq_getElem _, List.drop_eq_getElem_cons _⟩
      obtain ⟨tx, hv'⟩ := saGet hu1 (i := k) (y := S x) (by simp [hxk])
      rw [hv] at hv'; cases hv'
      rw [hdr, removeAll] at hrem
      have htvl : tv.length = t.length := by simpa using saLen htv
      refine wpAny_assign_Name ?_
      ((with_reducible refine sL ‹_› (by kernel_rfl) (mm4 _ _ _ _ _ _) (pv5 _ _ _ _ _ _ _) (pt4 _ _ _ _ _ _) fun s' c9 => ?_; (try clear c'); rename Cx _ _ _ => c'; refine seqCons fun Q9 hQ9 => ?_); refine wpAny_Expr_any ?_ (hi := by first | rfl | kernel_rfl) (hs := by first | rfl | kernel_rfl); (with_reducible refine rMeth (by with_unfolding_all rfl) ?_; refine nL ‹_› (by kernel_rfl) (mm4 _ _ _ _ _ _) (mm4 _ _ _ _ _ _) ?_; refine gmRem (Cx.lat ‹_› (mm1 _ _ _)) ?_; refine rM1s (by with_unfolding_all rfl) ?_; refine rMore (by with_unfolding_all rfl) ?_; refine nL ‹_› (by kernel_rfl) (mm4 _ _ _ _ _ _) (mm5 _ _ _ _ _ _ _) ?_; refine spliced_none ?_))
      by_cases hm : x ∈ t
      · rw [if_pos hm] at hrem
        refine oRemL c' ((mm1 _ _ _)) htv hm (by unfold sizeLine; (first | lia | omega)) (fun r => (pt1 _ _ _)) (fun vs' s' hvs' c' => ?_)
        (with_reducible refine seqNext ‹_› ?_; refine wpAny_execs_nil ?_; refine lfNext ‹_› ?_)
        refine ⟨_, ⟨t.erase x, vs', _, hrem, hvs', ?_, rfl⟩, c'⟩
        have := List.length_erase_le (a := x) (l := t)
        (first | lia | omega)
      · rw [if_neg hm] at hrem
        refine oRemNone c' hR.handled ((mm1 _ _ _)) htv hm (fun e s' c' => ?_)
        subst hE8
        refine notedNew c' hfr' (FrOk.cons (hF.sub fun p hp => (List.mem_cons_of_mem _ (List.mem_cons_of_mem _ (List.mem_cons_of_mem _ (List.mem_cons_of_mem _ (List.mem_cons_of_mem _ ‹_›)))))) (show dCmp.scope.kind ≠ _ by decide +kernel) rfl ((mm4 _ _ _ _ _ _))) rfl (fun tb s' c' => ?_)
        refine cameBack c'.anyTb rfl (fun s' c' => ?_)
        refine noteFlight c' rfl ?_
        refine flightOff c'.anyTb (fun s' c' => ?_)
        refine caught vErr1 vErr2 vErr3 c' (fun A' E' Q' h => ?_) (fun s' c' => ?_)
        · (with_reducible refine nB ‹_› ‹_› (by kernel_rfl) (by rfl) (by rfl) (mm10 _ _ _ _ _ _ _ _ _ _ _ _) ?_)
          exact h
        · ((with_reducible refine seqCons fun Q9 hQ9 => ?_; refine wpAny_Return_some ?_; refine kBool ?_; refine seqRet ‹_› ?_; refine seqRet ‹_› ?_; refine finRet ‹_› ?_); dsimp only)
          have : cmpF ls1 ls2 = false := by unfold cmpF; rw [hrem]
          exact this ▸ hQ _ (c'.drop ((List.Sublist.cons _ (List.Sublist.cons _ (List.Sublist.cons _ (List.Sublist.cons _ (List.Sublist.cons _ (List.Sublist.cons _ (List.Sublist.cons _ (List.Sublist.refl _))))))))))
    · rintro T' s₂ ⟨t, tv, o, hrem, htv, htl, rfl⟩ c
      have htvl : tv.length = t.length := by simpa using saLen htv
      have hend : (dedupF ls1).drop us1.length = [] := List.drop_of_length_le (by (first | lia | omega))
      rw [hend, removeAll] at hrem
      ((with_reducible refine seqNext ‹_› ?_; refine wpAny_execs_nil ?_; refine wpAny_execs_nil ?_; refine seqNext ‹_› ?_; refine seqCons fun Q9 hQ9 => ?_; refine wpAny_Return_some ?_; refine UnaryOp_ ?_; refine nL ‹_› (by kernel_rfl) (mm3 _ _ _ _ _) (mm4 _ _ _ _ _ _) ?_; refine oNot ?_; refine oTruL ‹_› (Cx.lat ‹_› (mm0 _ _)) (by first | assumption | wtm_at "zz_sz") fun s' c9 => ?_; (try clear c'); rename Cx _ _ _ => c'; refine seqRet ‹_› ?_; refine finRet ‹_› ?_); dsimp only)
      have : cmpF ls1 ls2 = (!!tv.isEmpty) := by
        unfold cmpF; rw [hrem, Bool.not_not]
        cases t <;> cases tv <;> first | rfl | simp at htvl
      exact this ▸ hQ _ (c'.drop ((List.Sublist.cons _ (List.Sublist.cons _ (List.Sublist.cons _ (List.Sublist.cons _ (List.Sublist.refl _)))))))
    · rfl
end
section
set_option maxRecDepth 100000
open PySem PySem.W PyProof.Rows PySem.Calls
theorem mapSeq_app (its ws : Array Value) (n : Nat) : ∃ n', Obj.mapSeq (fun x => x ++ ws) { cls := .type "list", data := .seq its n } = { cls := .type "list", data := .seq (its ++ ws) n' } := ⟨_, rfl⟩
section
variable {prog : Program} {w : World} {A : Around} {E : Value → Shared → Prop} {s₀ s : Shared} {T T' : Tab} {a b e tb L : Addr} {v : Value} {env : Env} {pos : Pos} {cls : String}
theorem oPop {vs : List Value} {Q : Value → Shared → Prop} (c : Cx s₀ s T) (hl : (a, Rs.lst (vs ++ [v])) ∈ T) (hz : vs.length + 1 ≤ sizeLine) (hp : Put a (.lst vs) T T') (h : ∀ s', Cx s₀ s' T' → Q v s') : wpAny (model prog w) A (call (.builtin "list.pop") [.ref a]) Q E s := by
  obtain ⟨n, ho⟩ := c.plain hl
  have hsz : (vs ++ [v]).toArray.size = vs.length + 1 := by simp
  refine call_meets F.slot_list_pop ⟨_, ho, rfl⟩ F.entry_list_pop (F.args_list_pop_1 _) (MeetsSeq.list_pop_last a (vs ++ [v]).toArray n v (by rw [hsz]; simp) (by rw [hsz]; exact hz)) ⟨ho, ?_⟩
  have hjs : (vs ++ [v]).toArray.size - 1 < (vs ++ [v]).toArray.size := by (first | lia | omega)
  have e1 : (s.heap.update a (Obj.mapSeq fun xs => xs.eraseIdxIfInBounds ((vs ++ [v]).toArray.size - 1))).get? a = some { cls := .type "list", data := .seq vs.toArray (n + 1) } := by
    rw [Heap.get?_update_self _ ho (by rw [mapSeq_erase _ _ _ hjs]; rfl), mapSeq_erase _ _ _ hjs]
    have : (vs ++ [v]).toArray.eraseIdxIfInBounds ((vs ++ [v]).toArray.size - 1) = vs.toArray := by
      apply Array.toList_inj.mp
      simp [List.eraseIdx_append_of_length_le]
    rw [this]
  exact h _ (c.upd s.toks hp (Heap.SameBut.update (a := a) (f := Obj.mapSeq fun xs => xs.eraseIdxIfInBounds ((vs ++ [v]).toArray.size - 1)) (h := s.heap)).extBut e1 ⟨n + 1, rfl⟩)
theorem oExt {vs ws : List Value} {Q : Value → Shared → Prop} (c : Cx s₀ s T) (hl : (a, Rs.lst vs) ∈ T) (hb : LstAt s.heap b ws) (hz : vs.length + ws.length ≤ 100000) (hp : Put a (.lst (vs ++ ws)) T T') (h : ∀ s', Cx s₀ s' T' → Q .none s') : wpAny (model prog w) A (call (.builtin "list.extend") [.ref a, .ref b]) Q E s := by
  obtain ⟨n, ho⟩ := c.plain hl
  obtain ⟨n2, ho2⟩ := hb
  have hz' : vs.toArray.size + ws.toArray.size ≤ 100000 := by simpa using hz
  refine call_meets F.slot_list_extend ⟨_, ho, rfl⟩ F.entry_list_extend (F.args_list_extend_2 _ _) (AutoSeq1.list_extend_list_list_0 a vs.toArray n b ws.toArray n2 (by simp [Builtin.List.listTooLong, sizeLine]; (first | lia | omega)) (by unfold sizeLine; (first | lia | omega)) (by unfold sizeLine; (first | lia | omega))) ⟨ho, ho2, ?_⟩
  obtain ⟨n', hm⟩ := mapSeq_app vs.toArray ws.toArray n
  have e1 : (s.heap.update a (Obj.mapSeq fun x => x ++ ws.toArray)).get? a = some { cls := .type "list", data := .seq (vs ++ ws).toArray n' } := by
    rw [Heap.get?_update_self _ ho (by rw [hm]; rfl), hm]; simp
  exact h _ (c.upd s.toks hp (Heap.SameBut.update (a := a) (f := Obj.mapSeq fun x => x ++ ws.toArray) (h := s.heap)).extBut e1 ⟨n', rfl⟩)
theorem Assign2 {x y : Str} {px py : Pos} {value : Expr} {Q : Flow → Shared → Prop}
    (h : wpAny (model prog w) A (eval value env) (fun v s₁ => wpAny (model prog w) A (storeName env x v) (fun _ s₂ => wpAny (model prog w) A (storeName env y v) (fun _ => Q .next) E s₂) E s₁) E s)
    (hs : swapsWithSole [.Name x px, .Name y py] value pos.line env = pure false) (hw : swappedStores [.Name x px, .Name y py] value env = pure none) :
    wpAny (model prog w) A (exec (.Assign [.Name x px, .Name y py] value pos) env) Q E s := by
  rw [PyProof.Rows.exec_Assign]
  refine wpAny_bind (wpAny_standAt ?_)
  rw [hs]
  refine wpAny_bind (wpAny_pure ?_)
  rw [if_neg (by decide)]
  refine wpAny_bind (wpAny_mono h (fun v s₁ h₁ => ?_) fun _ _ x => x)
  rw [hw]
  refine wpAny_bind (wpAny_pure ?_)
  show wpAny _ A (do (do holding [v] (assign (.Name x px) env v); assign (.Name y py) env v); pure .next) Q E s₁
  refine wpAny_bind (wpAny_bind (wpAny_holding (wpAny_assign_Name (wpAny_mono h₁ (fun _ s₂ h₂ => ?_) fun _ _ x => x))))
  exact wpAny_assign_Name (wpAny_mono h₂ (fun _ _ h => wpAny_pure h) fun _ _ x => x)
end
end
section
set_option maxRecDepth 100000
set_option maxHeartbeats 4000000
open PySem PySem.W PyProof.Rows PySem.Calls
noncomputable def uldGo : List (List Nat) → List (List Nat) → List (List Nat) → List (List Nat) × List (List Nat)
  | [], t, m => (m, t)
  | x :: r, t, m => if x ∈ t then uldGo r (t.erase x) m else uldGo r t (m ++ [x])
noncomputable def uldF (a b : List (List Nat)) : List (List Nat) × List (List Nat) := uldGo a.reverse b []
theorem uld_ok {mg mb : Str → Option Value} {w : World} {f : Addr} {A : Around} {Q E : Value → Shared → Prop} {s₀ s : Shared} {T : Tab} {fr : List Env} {l1 l2 : Addr} {vs1 vs2 : List Value} {ls1 ls2 : List (List Nat)}
    (hA : Room A 6) (F : FnAt s₀.heap dUld f) (G : Gl dAll mg mb s₀.heap) (c0 : Cx s₀ s ((l2, .lst vs2) :: (l1, .lst vs1) :: T)) (hfr : A.frames = some fr) (hF : FrOk T fr)
    (hs1 : StrsAre vs1 (ls1.map S)) (hz1 : ls1.length ≤ 1000) (hs2 : StrsAre vs2 (ls2.map S)) (hz2 : ls2.length ≤ 1000)
    (hQ : ∀ tp m mv av s', StrsAre mv ((uldF ls1 ls2).1.map S) → StrsAre av ((uldF ls1 ls2).2.map S) → Cx s₀ s' ((tp, .tup [.ref m, .ref l2]) :: (m, .lst mv) :: (l2, .lst av) :: T) → Q (.ref tp) s') : wpAny (model PW w) A (call (.ref f) [.ref l1, .ref l2]) Q E s := by
    refine callD (binds := [("expected", .ref l1), ("actual", .ref l2)]) [("expected", .ref l1), ("actual", .ref l2)] [] ["missing", "item"] [] ["expected", "actual", "missing", "item"] _ [] (ks2 := []) hA.d (F.keeps c0.keep) (G.keeps c0.keep).lim (fun _ _ _ => by kernel_rfl) (by kernel_rfl) (by kernel_rfl) (by kernel_rfl)
      (by kernel_rfl) (by kernel_rfl) (by decide +kernel) (by decide +kernel) (by kernel_rfl) (by decide +kernel) rfl (by kernel_rfl) (by kernel_rfl) (by kernel_rfl) (by kernel_rfl) ?_
    intro L code as s₁ has c
    simp only [List.map_cons, List.map_nil, List.cons_append, List.nil_append, List.zip_nil_right, List.zip_nil_left] at c ⊢
    have hR : Room (A.deeper (envC dUld L f code [])) 5 := Room.deeper hA
    have hfr' : (A.deeper (envC dUld L f code [])).frames = some (envC dUld L f code [] :: fr) := by show A.frames.map _ = _; rw [hfr]; rfl
    replace c := c0.trans c
    simp only [List.cons_append, List.nil_append] at c
    generalize hA9 : A.deeper _ = A9 at hR hfr' ⊢
    refine ent ?_
    intro Q9 E9 hQ9 hE9
    refine seqCons ?_
    intro Q7 hQ7
    (refine wpAny_Assign_Name ?_ (hs := by first | rfl | kernel_rfl); (with_reducible refine List_ ?_; refine spliced_none ?_; refine oNewL ‹_› (by exact Nat.le_of_ble_eq_true rfl) fun b' s' c9 => ?_; (try clear c'); rename Cx _ _ _ => c'; refine sL ‹_› (by kernel_rfl) (mm1 _ _ _) (pv2 _ _ _ _) (pt1 _ _ _) fun s' c9 => ?_; (try clear c'); rename Cx _ _ _ => c'; refine seqNext ‹_› ?_; refine seqCons fun Q9 hQ9 => ?_; refine wpAny_While ?_))
    generalize b' = R at *
    refine whileX (fun n T' => Ex7 fun (a t m : List (List Nat)) (av tv mv : List Value) (o : Option Value) => An8 (uldF ls1 ls2 = uldGo a.reverse t m) (StrsAre av (a.map S)) (StrsAre tv (t.map S)) (StrsAre mv (m.map S)) (a.length = n) (a.length + m.length ≤ 1000) (t.length ≤ 1000) (T' = (R, .lst mv) :: (L, Rs.ns [("expected", some (.ref l1)), ("actual", some (.ref l2)), ("missing", some (.ref R)), ("item", o)]) :: (l2, .lst tv) :: (l1, .lst av) :: T))
      (fun T' => Ex6 fun (t m : List (List Nat)) (av tv mv : List Value) (o : Option Value) => An4 (uldF ls1 ls2 = (m, t)) (StrsAre tv (t.map S)) (StrsAre mv (m.map S)) (T' = (R, .lst mv) :: (L, Rs.ns [("expected", some (.ref l1)), ("actual", some (.ref l2)), ("missing", some (.ref R)), ("item", o)]) :: (l2, .lst tv) :: (l1, .lst av) :: T))
      ?_ ?_ _ ⟨ls1, ls2, [], vs1, vs2, [], none, rfl, hs1, hs2, .nil, rfl, by simpa using hz1, hz2, rfl⟩ c'
    · intro n T' s₂ h70 c Q8 E8 hQ8 hE8
      obtain ⟨a, t, m, av, tv, mv, o, hu, hav, htv, hmv, hn, hle, htl, rfl⟩ := h70
      have havl : av.length = a.length := by simpa using saLen hav
      have htvl : tv.length = t.length := by simpa using saLen htv
      have hmvl : mv.length = m.length := by simpa using saLen hmv
      (with_reducible refine rTest (by with_unfolding_all rfl) ?_; refine nL ‹_› (by kernel_rfl) (mm1 _ _ _) (mm0 _ _) ?_; refine oTruL ‹_› (Cx.lat ‹_› (mm3 _ _ _ _ _)) (by first | assumption | wtm_at "zz_sz") fun s' c9 => ?_; (try clear c'); rename Cx _ _ _ => c')
      rcases List.eq_nil_or_concat a with rfl | ⟨a, x, rfl⟩
      · have : av.isEmpty = true := by cases av <;> first | rfl | simp at havl
        rw [this]
        (with_reducible refine iteNF ?_)
        exact ⟨_, ⟨t, m, av, tv, mv, o, hu, htv, hmv, rfl⟩, c'⟩
      · simp only [List.concat_eq_append] at *
        obtain ⟨av, tx, rfl, hav2⟩ : ∃ av' tx, av = av' ++ [.str (S x) tx] ∧ StrsAre av' (a.map S) := by
          have h1 := saTake hav a.length
          have h2 := saDrop hav a.length
          rw [List.map_append, List.take_left' (by simp)] at h1
          rw [List.map_append, List.drop_left' (by simp)] at h2
          have h3 := List.take_append_drop a.length av
          generalize av.drop a.length = dv at *
          cases h2 with | cons y tx h2' => ?_
          cases h2'
          exact ⟨_, tx, h3.symm, h1⟩
        have : (av ++ [Value.str (S x) tx]).isEmpty = false := by cases av <;> rfl
        rw [this]
        simp only [List.reverse_append, List.reverse_cons, List.reverse_nil, List.nil_append, List.singleton_append, uldGo, List.length_append, List.length_cons, List.length_nil] at hu hle hn havl
        ((with_reducible refine iteNT ?_; refine seqCons fun Q9 hQ9 => ?_); refine wpAny_Assign_Name ?_ (hs := by first | rfl | kernel_rfl); (with_reducible refine rMeth (by with_unfolding_all rfl) ?_; refine nL ‹_› (by kernel_rfl) (mm1 _ _ _) (mm0 _ _) ?_; refine gmPop (Cx.lat c' (mm3 _ _ _ _ _)) ?_; refine callWith_method0 ?_); dsimp only)
        refine oPop c' ((mm3 _ _ _ _ _)) (by unfold sizeLine; (first | lia | omega)) ((pt3 _ _ _ _ _)) (fun s' c' => ?_)
        (with_reducible refine sL ‹_› (by kernel_rfl) (mm1 _ _ _) (pv3 _ _ _ _ _) (pt1 _ _ _) fun s' c9 => ?_; (try clear c'); rename Cx _ _ _ => c'; refine seqNext ‹_› ?_; refine seqCons fun Q9 hQ9 => ?_)
        refine wpAny_Try_except ?_
        ((with_reducible refine seqCons fun Q9 hQ9 => ?_); refine wpAny_Expr_any ?_ (hi := by first | rfl | kernel_rfl) (hs := by first | rfl | kernel_rfl); (with_reducible refine rMeth (by with_unfolding_all rfl) ?_; refine nL ‹_› (by kernel_rfl) (mm1 _ _ _) (mm1 _ _ _) ?_; refine gmRem (Cx.lat c' (mm2 _ _ _ _)) ?_; refine rM1s (by with_unfolding_all rfl) ?_; refine rMore (by with_unfolding_all rfl) ?_; refine nL ‹_› (by kernel_rfl) (mm1 _ _ _) (mm3 _ _ _ _ _) ?_; refine spliced_none ?_))
        by_cases hm : x ∈ t
        · rw [if_pos hm] at hu
          refine oRemL c' ((mm2 _ _ _ _)) htv hm (by unfold sizeLine; (first | lia | omega)) (fun r => (pt2 _ _ _ _)) (fun vs' s' hvs' c' => ?_)
          (with_reducible refine seqNext ‹_› ?_; refine wpAny_execs_nil ?_; refine wpAny_execs_nil ?_; refine seqNext ‹_› ?_; refine wpAny_execs_nil ?_; refine lfNext ‹_› ?_)
          have := List.length_erase_le (a := x) (l := t)
          exact ⟨_, _, by (first | lia | omega), ⟨a, t.erase x, m, av, vs', mv, _, hu, hav2, hvs', hmv, rfl, by (first | lia | omega), by (first | lia | omega), rfl⟩, c'⟩
        · rw [if_neg hm] at hu
          refine oRemNone c' hR.handled ((mm2 _ _ _ _)) htv hm (fun e s' c' => ?_)
          refine noteNew c' hfr' (FrOk.cons (hF.sub fun p hp => (List.mem_cons_of_mem _ (List.mem_cons_of_mem _ (List.mem_cons_of_mem _ (List.mem_cons_of_mem _ ‹_›))))) (show dUld.scope.kind ≠ _ by decide +kernel) rfl ((mm1 _ _ _))) rfl (fun tb s' c' => ?_)
          refine flightOff c'.anyTb (fun s' c' => ?_)
          refine caught vErr1 vErr2 vErr3 c' (fun A' E' Q' h => ?_) (fun s' c' => ?_)
          · (with_reducible refine nB ‹_› ‹_› (by kernel_rfl) (by rfl) (by rfl) (mm10 _ _ _ _ _ _ _ _ _ _ _ _) ?_)
            exact h
          · ((with_reducible refine seqCons fun Q9 hQ9 => ?_); refine wpAny_Expr_any ?_ (hi := by first | rfl | kernel_rfl) (hs := by first | rfl | kernel_rfl); (with_reducible refine rMeth (by with_unfolding_all rfl) ?_; refine nL ‹_› (by kernel_rfl) (mm3 _ _ _ _ _) (mm2 _ _ _ _) ?_; refine gmApp (Cx.lat c' (mm2 _ _ _ _)) ?_; refine rM1s (by with_unfolding_all rfl) ?_; refine rMore (by with_unfolding_all rfl) ?_; refine nL ‹_› (by kernel_rfl) (mm3 _ _ _ _ _) (mm3 _ _ _ _ _) ?_; refine spliced_none ?_; refine oApp ‹_› (mm2 _ _ _ _) (pt2 _ _ _ _) (by first | assumption | wtm_at "zz_sz") fun s' c9 => ?_; (try clear c'); rename Cx _ _ _ => c'; refine seqNext ‹_› ?_; refine wpAny_execs_nil ?_; refine seqNext ‹_› ?_; refine wpAny_execs_nil ?_; refine lfNext ‹_› ?_))
            exact ⟨_, _, by (first | lia | omega), ⟨a, t, m ++ [x], av, tv, _, _, hu, hav2, htv, saApp1 hmv, rfl, by simp; (first | lia | omega), htl, rfl⟩, c'.drop ((List.Sublist.cons _ (List.Sublist.cons _ (List.Sublist.refl _))))⟩
    · rintro T' s₂ ⟨t, m, av, tv, mv, o, hu, htv, hmv, rfl⟩ c
      ((with_reducible refine seqNext ‹_› ?_; refine seqCons fun Q9 hQ9 => ?_; refine wpAny_Return_some ?_; refine Tuple_ ?_; refine rMore (by with_unfolding_all rfl) ?_; refine nL ‹_› (by kernel_rfl) (mm1 _ _ _) (mm2 _ _ _ _) ?_; refine rMore (by with_unfolding_all rfl) ?_; refine nL ‹_› (by kernel_rfl) (mm1 _ _ _) (mm1 _ _ _) ?_; refine spliced_none ?_; refine oNewT ‹_› (by exact Nat.le_of_ble_eq_true rfl) fun b' s' c9 => ?_; (try clear c'); rename Cx _ _ _ => c'; refine seqRet ‹_› ?_; refine finRet ‹_› ?_); dsimp only)
      exact hQ _ R mv tv _ (by rw [hu]; exact hmv) (by rw [hu]; exact htv) (c'.drop (.cons_cons _ (.cons_cons _ (.cons _ (.cons_cons _ (.cons _ (List.Sublist.refl _)))))))
end
section
open PySem
section
theorem plain_unchain : plainId "proto.unchain" = true := by decide +kernel
theorem entry_unchain : entryFor table "proto.unchain" = some Builtin.«proto.unchain» := entryFor_of_fast (by kernel_rfl)
variable {prog : Program} {w : World} {A : Around} {E : Value → Shared → Prop} {s : Shared} {α : Type}
theorem raiseNewH {e hx : Addr} {oe ox : Obj} {vx ve : Array Value} {Q : α → Shared → Prop} (hh : A.handled = some (.ref hx)) (hne : hx ≠ e) (hox : s.heap.get? hx = some ox) (hdx : ox.data = .fields vx) (h2 : vx[2]? = some .none)
    (hoe : s.heap.get? e = some oe) (hde : oe.data = .fields ve) (hsz : 2 < ve.size) (h : E (.ref e) { s with heap := s.heap.update e (Obj.mapFields (·.setIfInBounds 2 (.ref hx))) }) : wpAny (model prog w) A (raiseNew (.ref e) : Sem α) Q E s := by
  unfold raiseNew
  refine wpAny_bind (wpAny_handled ?_)
  rw [hh]
  have hne' : (Value.ref hx != Value.ref e) = true := by
    simp only [bne_iff_ne, ne_eq, Value.ref.injEq]; exact hne
  simp only [hne', if_true]
  refine wpAny_bind (wpAny_holding (wpAny_runValue (codeAny_builtin entry_unchain ?_)))
  rw [Around.under_plainId plain_unchain _]
  show wpAny _ _ (field (.ref hx) 2 >>= fun context => _) _ _ s
  refine wpAny_bind (wpAny_field hox hdx h2 ?_)
  rw [if_pos (by decide)]
  refine wpAny_bind (wpAny_pure ?_)
  refine wpAny_pure ?_
  show wpAny _ A (updateField e 2 (.ref hx) >>= fun _ => throw (.ref e)) _ _ s
  unfold updateField
  refine wpAny_bind (wpAny_bind (wpAny_load hoe ?_))
  rw [hde]
  show wpAny _ A (if 2 < ve.size then _ else _) _ _ s
  rw [if_pos hsz]
  exact wpAny_update hoe (wpAny_throw h)
structure ExcH (h h' : Heap) (e hx : Addr) (cls : String) : Prop where
  keeps : ∀ b o, h.get? b = some o → h'.get? b = some o
  new : h.get? e = none
  there : ∃ ob t, h'.get? e = some ob ∧ ob.cls = .type cls ∧ ob.data = .fields #[t, .none, .ref hx, .none, .bool false, .none]
theorem madeH {h h' : Heap} {e hx : Addr} {cls : String} {args : List Value} (m : Heap.MadeExc h h' e cls args) : ExcH h (h'.update e (Obj.mapFields (·.setIfInBounds 2 (.ref hx)))) e hx cls := by
  obtain ⟨t, he, _, _⟩ := m.there
  refine ⟨fun b o hb => ?_, m.new, ?_⟩
  · rw [Heap.get?_update_other _ _ (fun q => by have hn := m.new; rw [q] at hn; rw [hn] at hb; cases hb)]
    exact m.keeps b o hb
  · exact ⟨_, .ref t, Heap.get?_update_self _ he rfl, rfl, rfl⟩
theorem raiseWordsH {cls msg : String} {hx : Addr} {ox : Obj} {vx : Array Value} {Q : α → Shared → Prop} (hp : PlainExc cls) (hh : A.handled = some (.ref hx)) (ho : s.heap.get? hx = some ox) (hd : ox.data = .fields vx) (h2 : vx[2]? = some .none)
    (h : ∀ h' tk e, ExcH s.heap h' e hx cls → E (.ref e) { s with heap := h', toks := tk }) :
    wpAny (model prog w) A (raiseErrorWords cls msg : Sem α) Q E s := by
  unfold raiseErrorWords
  refine wpAny_bind (wpAny_mkText (wpAny_bind (wpAny_newExc_plain hp (fun h' e hm => ?_) (by show 1 ≤ sizeLine; unfold sizeLine; (first | lia | omega)))))
  obtain ⟨t, he, _, _⟩ := hm.there
  have hne : hx ≠ e := fun q => by rw [q] at ho; have := hm.new; rw [this] at ho; cases ho
  exact raiseNewH hh hne (hm.keeps _ _ ho) hd h2 he rfl (by simp) (h _ _ e (madeH hm))
theorem getItem_outH {l hx : Addr} {ox : Obj} {vx : Array Value} {items : Array Value} {k : Int} {t : Tok} {Q : Value → Shared → Prop} (hA : A.handled = some (.ref hx)) (hox : s.heap.get? hx = some ox) (hdx : ox.data = .fields vx) (h2 : vx[2]? = some .none) (hl : s.heap.IsList l items)
    (h0 : 0 ≤ k) (hout : (items.size : Int) ≤ k) (hhi : k < 2 ^ 63)
    (hE : ∀ h' tk e, ExcH s.heap h' e hx "IndexError" → E (.ref e) { s with heap := h', toks := tk }) :
    wpAny (model prog w) A (getItem (.ref l) (.int k t)) Q E s := by
  obtain ⟨o, ho, hc, ne, hd⟩ := id hl
  unfold getItem
  try with_reducible refine wpAny_holding ?_
  first | refine wpAny_bind (wpAny_pure ?_) | skip
  refine wpAny_bind (wpAny_sequenceKey hl.typeIs (by decide) ?_)
  refine wpAny_bind (wpAny_callSpecial?_slot (name := Str.ofString "__getitem__") hl.typeIs slot_list_getitem
    (wpAny_call_entry slot_list_getitem hl.typeIs entry_list_getitem ?_ (args_list_getitem _ _)))
  show wpAny _ _ (Builtin.List.listSubscript? (.int k t) >>= _) _ _ s
  refine wpAny_bind (wpAny_listSubscript_int (fitsIndex_of h0 hhi) ?_)
  clear hhi
  obtain ⟨j, rfl⟩ := Int.eq_ofNat_of_zero_le h0
  have hx : items[j]? = none := Array.getElem?_eq_none (by have : (items.size : Int) ≤ (j : Int) := hout; (first | lia | omega))
  show wpAny _ _ ((seqItemAt l j >>= fun r => pure (r.map (j, ·))) >>= _) _ _ s
  refine wpAny_bind (wpAny_bind (wpAny_seqItemAt ho hd (wpAny_pure ?_)))
  rw [hx]
  first
    | exact wpAny_bind (wpAny_rule (raiseWordsH plainExc_IndexError hA hox hdx h2 hE))
    | exact wpAny_bind (wpAny_rule (wpAny_bind (raiseWordsH plainExc_IndexError hA hox hdx h2 hE)))
    | exact wpAny_bind (wpAny_bind (wpAny_rule (raiseWordsH plainExc_IndexError hA hox hdx h2 hE)))
    | exact wpAny_rule (raiseWordsH plainExc_IndexError hA hox hdx h2 hE)
end
end
section
set_option maxRecDepth 100000
set_option maxHeartbeats 4000000
open PySem PySem.W PyProof.Rows PySem.Calls
noncomputable def sldGo : Nat → List (List Nat) → List (List Nat) → List (List Nat) × List (List Nat)
  | 0, as, bs => (as, bs)
  | _ + 1, [], bs => ([], bs)
  | _ + 1, a :: as, [] => (a :: as, [])
  | n + 1, a :: as, b :: bs =>
    if a < b then (a :: (sldGo n as (b :: bs)).1, (sldGo n as (b :: bs)).2)
    else if b < a then ((sldGo n (a :: as) bs).1, b :: (sldGo n (a :: as) bs).2)
    else sldGo n as bs
noncomputable def sldF (l1 l2 : List (List Nat)) : List (List Nat) × List (List Nat) := sldGo (l1.length + l2.length) l1 l2
theorem sldGo_end {n : Nat} {as bs : List (List Nat)} (h : as = [] ∨ bs = []) : sldGo n as bs = (as, bs) := by
  cases n with
  | zero => rfl
  | succ n =>
    rcases h with rfl | rfl
    · rfl
    · cases as <;> rfl
theorem iErr1 : isSubtype (.type "IndexError") (.type "BaseException") = pure true := by kernel_rfl
theorem iErr2 : isSubtype (.type ((Manifest.find? "IndexError").elim "type" fun x => x.metatype)) (.type "tuple") = pure false := by kernel_rfl
theorem iErr3 : isSubtype (.type "IndexError") (.type "IndexError") = pure true := by kernel_rfl
section
variable {prog : Program} {w : World} {A : Around} {E : Value → Shared → Prop} {s₀ s : Shared} {T T' : Tab} {a b e tb L hx : Addr} {v : Value} {env : Env} {pos : Pos} {cls : String}
/-- a while whose test does not hold -/
theorem while0 {R : Result → Shared → Prop} {test : Expr} {body : List Stmt} (c : Cx s₀ s T)
    (turn : ∀ s, Cx s₀ s T → wpAny (model prog w) A (isTrue test env (eval test env)) (fun b s₂ => b = false ∧ Cx s₀ s₂ T) (notedBy (model prog w) A env fun e s' => R (.error e) s') s)
    (fin : ∀ s, Cx s₀ s T → R (.ok .next) s) : codeAny (model prog w) A (.whileLoop test body [] env) R s :=
  whileX (fun _ T1 => T1 = T) (fun T1 => T1 = T) (fun n T1 s1 hI d Q' E' hQ' hE' => by
    subst hI hE'
    refine wpAny_mono (turn s1 d) (fun b s₂ h₂ => ?_) fun _ _ e => e
    rw [h₂.1]
    simp only [Bool.false_eq_true, if_false]
    exact ⟨_, rfl, h₂.2⟩) (fun T1 s1 hE d => by subst hE; exact fin s1 d) 0 rfl c
theorem passOnL {what : String} {x : Value} {Q : Flow → Shared → Prop} (c : Cx s₀ s ((tb, tbAny) :: (e, exT x cls tb) :: T)) (hf : env.frame = some L) (h : ∀ s', Cx s₀ s' ((tb, tbAt L) :: (e, exT x cls tb) :: T) → E (.ref e) s') : wpAny (model prog w) A (PySem.passOn what (.ref e) env) Q E s := by
  obtain ⟨oe, he, _, vs, hd, h1, _⟩ := c.sat (List.mem_cons_of_mem _ List.mem_cons_self)
  unfold PySem.passOn
  refine wpAny_bind (wpAny_field he hd h1 ?_)
  rw [if_neg (by simp)]
  rw [hf]
  exact wpAny_bind (flightOn c fun s' c' => wpAny_throw (h s' c'))
theorem oOut {value slice : Expr} {vs : List Value} {i : Int} {u : Tok} {Q : Value → Shared → Prop} (c : Cx s₀ s T) (hh : A.handled = none) (hl : LstAt s.heap a vs) (h0 : (vs.length : Int) ≤ i) (h1 : i < 2 ^ 63)
    (hs : subscripted slice false (.ref a) (.int i u) = operate [.ref a, .int i u] (getItem (.ref a) (.int i u))) (h : ∀ e s', Cx s₀ s' ((e, exNew "IndexError") :: T) → E (.ref e) s') : wpAny (model prog w) A (subscriptTail value slice (.ref a) (.int i u)) Q E s :=
  tail_any hl.list.typeIs slot_list_getitem.lookup (wpAny_getItem_list_out hh hl.list (.inr (by simpa using h0)) (by (first | lia | omega)) h1 fun h' tk e hx => h _ _ (c.exc hx)) hs
theorem oOutH {value slice : Expr} {vs : List Value} {i : Int} {u : Tok} {Q : Value → Shared → Prop} (c : Cx s₀ s T) (hh : A.handled = some (.ref hx)) (hT : (hx, exT .none cls tb) ∈ T) (hl : LstAt s.heap a vs) (h0 : (vs.length : Int) ≤ i) (h1 : i < 2 ^ 63)
    (hs : subscripted slice false (.ref a) (.int i u) = operate [.ref a, .int i u] (getItem (.ref a) (.int i u))) (h : ∀ e s', Cx s₀ s' ((e, exN (.ref hx) "IndexError") :: T) → E (.ref e) s') : wpAny (model prog w) A (subscriptTail value slice (.ref a) (.int i u)) Q E s := by
  obtain ⟨ox, hox, _, vx, hdx, _, h2⟩ := c.sat hT
  refine tail_any hl.list.typeIs slot_list_getitem.lookup (getItem_outH hh hox hdx h2 hl.list (by (first | lia | omega)) (by simpa using h0) h1 fun h' tk e x => h _ _ ?_) hs
  obtain ⟨ob, t, ho, hc, hd⟩ := x.there
  exact c.new tk x.new x.keeps ho ⟨hc, t, hd⟩
end
theorem sld_ok {mg mb : Str → Option Value} {w : World} {f : Addr} {A : Around} {Q E : Value → Shared → Prop} {s₀ s : Shared} {T : Tab} {fr : List Env} {l1 l2 : Addr} {vs1 vs2 : List Value} {ls1 ls2 : List (List Nat)}
    (hA : Room A 6) (F : FnAt s₀.heap dSld f) (G : Gl dAll mg mb s₀.heap) (c0 : Cx s₀ s T) (hfr : A.frames = some fr) (hF : FrOk T fr)
    (hl1 : ∀ s, Cx s₀ s T → LstAt s.heap l1 vs1) (hs1 : StrsAre vs1 (ls1.map S)) (hz1 : ls1.length ≤ 1000) (hn1 : ls1.Nodup) (hl2 : ∀ s, Cx s₀ s T → LstAt s.heap l2 vs2) (hs2 : StrsAre vs2 (ls2.map S)) (hz2 : ls2.length ≤ 1000) (hn2 : ls2.Nodup)
    (hQ : ∀ tp m u mv uv s', StrsAre mv ((sldF ls1 ls2).1.map S) → StrsAre uv ((sldF ls1 ls2).2.map S) → Cx s₀ s' ((tp, .tup [.ref m, .ref u]) :: (u, .lst uv) :: (m, .lst mv) :: T) → Q (.ref tp) s') : wpAny (model PW w) A (call (.ref f) [.ref l1, .ref l2]) Q E s := by
    refine callD (binds := [("expected", .ref l1), ("actual", .ref l2)]) [("expected", .ref l1), ("actual", .ref l2)] [] ["i", "j", "missing", "unexpected", "e", "a"] [] ["expected", "actual", "i", "j", "missing", "unexpected", "e", "a"] _ [] (ks2 := []) hA.d (F.keeps c0.keep) (G.keeps c0.keep).lim (fun _ _ _ => by kernel_rfl) (by kernel_rfl) (by kernel_rfl) (by kernel_rfl)
      (by kernel_rfl) (by kernel_rfl) (by decide +kernel) (by decide +kernel) (by kernel_rfl) (by decide +kernel) rfl (by kernel_rfl) (by kernel_rfl) (by kernel_rfl) (by kernel_rfl) ?_
    intro L code as s₁ has c
    simp only [List.map_cons, List.map_nil, List.cons_append, List.nil_append, List.zip_nil_right, List.zip_nil_left] at c ⊢
    have hR : Room (A.deeper (envC dSld L f code [])) 5 := Room.deeper hA
    have hfr' : (A.deeper (envC dSld L f code [])).frames = some (envC dSld L f code [] :: fr) := by show A.frames.map _ = _; rw [hfr]; rfl
    replace c := c0.trans c
    simp only [List.cons_append, List.nil_append] at c
    have hv1 : vs1.length = ls1.length := by simpa using saLen hs1
    have hv2 : vs2.length = ls2.length := by simpa using saLen hs2
    generalize hA9 : A.deeper _ = A9 at hR hfr' ⊢
    refine ent ?_
    intro Q9 E9 hQ9 hE9
    refine seqCons ?_
    intro Q7 hQ7
    ((with_reducible refine Assign2 ?_ (by with_unfolding_all rfl) (by with_unfolding_all rfl); refine kInt ‹_› fun t' s' c9 => ?_; (try clear c'); rename Cx _ _ _ => c'; refine sL ‹_› (by kernel_rfl) (mm0 _ _) (pv2 _ _ _ _) (pt0 _ _) fun s' c9 => ?_; (try clear c'); rename Cx _ _ _ => c'; refine sL ‹_› (by kernel_rfl) (mm0 _ _) (pv3 _ _ _ _ _) (pt0 _ _) fun s' c9 => ?_; (try clear c'); rename Cx _ _ _ => c'; refine seqNext ‹_› ?_; refine seqCons fun Q9 hQ9 => ?_); refine wpAny_Assign_Name ?_ (hs := by first | rfl | kernel_rfl); (with_reducible refine List_ ?_; refine spliced_none ?_; refine oNewL ‹_› (by exact Nat.le_of_ble_eq_true rfl) fun b' s' c9 => ?_; (try clear c'); rename Cx _ _ _ => c'; refine sL ‹_› (by kernel_rfl) (mm1 _ _ _) (pv4 _ _ _ _ _ _) (pt1 _ _ _) fun s' c9 => ?_; (try clear c'); rename Cx _ _ _ => c'; refine seqNext ‹_› ?_; refine seqCons fun Q9 hQ9 => ?_); refine wpAny_Assign_Name ?_ (hs := by first | rfl | kernel_rfl); (with_reducible refine List_ ?_; refine spliced_none ?_; refine oNewL ‹_› (by exact Nat.le_of_ble_eq_true rfl) fun b' s' c9 => ?_; (try clear c'); rename Cx _ _ _ => c'; refine sL ‹_› (by kernel_rfl) (mm2 _ _ _ _) (pv5 _ _ _ _ _ _ _) (pt2 _ _ _ _) fun s' c9 => ?_; (try clear c'); rename Cx _ _ _ => c'; refine seqNext ‹_› ?_; refine seqCons fun Q9 hQ9 => ?_; refine wpAny_While ?_))
    obtain ⟨M, U, c'⟩ : ∃ M U, Cx s₀ s' ((U, Rs.lst []) :: (M, Rs.lst []) :: (L, Rs.ns [("expected", some (.ref l1)), ("actual", some (.ref l2)), ("i", some (.int 0 t')), ("j", some (.int 0 t')), ("missing", some (.ref M)), ("unexpected", some (.ref U)), ("e", none), ("a", none)]) :: T) := ⟨_, _, c'⟩
    refine whileX (fun n T' => Ex10 fun (i j : Nat) (ms us : List (List Nat)) (mv uv : List Value) (ti tj : Tok) (o1 o2 : Option Value) => An9 (i ≤ ls1.length) (j ≤ ls2.length) ((ls1.length - i) + (ls2.length - j) ≤ n) (sldF ls1 ls2 = (ms ++ (sldGo n (ls1.drop i) (ls2.drop j)).1, us ++ (sldGo n (ls1.drop i) (ls2.drop j)).2)) (StrsAre mv (ms.map S)) (StrsAre uv (us.map S)) (ms.length ≤ i) (us.length ≤ j) (T' = (U, .lst uv) :: (M, .lst mv) :: (L, Rs.ns [("expected", some (.ref l1)), ("actual", some (.ref l2)), ("i", some (.int i ti)), ("j", some (.int j tj)), ("missing", some (.ref M)), ("unexpected", some (.ref U)), ("e", o1), ("a", o2)]) :: T))
      (fun _ => False) ?_ (fun _ _ h => h.elim) _ ⟨0, 0, [], [], [], [], _, _, none, none, Nat.zero_le _, Nat.zero_le _, Nat.le_refl _, rfl, .nil, .nil, Nat.le_refl _, Nat.le_refl _, rfl⟩ (by simpa using c')
    intro n T' s₂ h70 c Q8 E8 hQ8 hE8
    obtain ⟨i, j, ms, us, mv, uv, ti, tj, o1, o2, hi, hj, hn, hgo, hmv, huv, hml, hul, rfl⟩ := h70
    have hmvl : mv.length = ms.length := by simpa using saLen hmv
    have huvl : uv.length = us.length := by simpa using saLen huv
    clear c'
    have c' := c
    clear c
    (with_reducible refine rTest (by with_unfolding_all rfl) ?_; refine kBool ?_; refine wpAny_truthy_bool ?_; refine iteT ?_; refine seqCons fun Q9 hQ9 => ?_)
    refine tryX ?_
    intro H6 E6 hH6 hE6 Q6 hQ6
    have ending : ∀ (i j : Nat) (zi zj : Int) {ms us : List (List Nat)} {mv uv : List Value} {ti tj : Tok} {o1 o2 : Option Value} {e tb : Addr} {x : Value} {s' : Shared}, zi = i → zj = j → sldF ls1 ls2 = (ms ++ ls1.drop i, us ++ ls2.drop j) →
        StrsAre mv (ms.map S) → StrsAre uv (us.map S) → mv.length ≤ 2000 → uv.length ≤ 2000 →
        Cx s₀ s' ((tb, tbAny) :: (e, exT x "IndexError" tb) :: (U, .lst uv) :: (M, .lst mv) :: (L, Rs.ns [("expected", some (.ref l1)), ("actual", some (.ref l2)), ("i", some (.int zi ti)), ("j", some (.int zj tj)), ("missing", some (.ref M)), ("unexpected", some (.ref U)), ("e", o1), ("a", o2)]) :: T) → H6 (.ref e) s' := by
      intro i j zi zj ms us mv uv ti tj o1 o2 e tb x s' hzi hzj hfinal hmv huv hmz huz c'
      refine hH6 _ _ (caught iErr1 iErr2 iErr3 c' (fun A' E' Q' h => ?_) (fun s' c' => ?_))
      · (with_reducible refine nB ‹_› ‹_› (by kernel_rfl) (by rfl) (by rfl) (mm11 _ _ _ _ _ _ _ _ _ _ _ _ _) ?_)
        exact h
      · have k1 := cut_length_le vs1 (some zi) none
        have k2 := cut_length_le vs2 (some zj) none
        have d1 : cutL vs1 (some zi) none = vs1.drop i := hzi ▸ cut_from vs1 i
        have d2 : cutL vs2 (some zj) none = vs2.drop j := hzj ▸ cut_from vs2 j
        refine seqCons ?_
        intro Q9 hQ9
        (refine wpAny_Expr_any ?_ (hi := by first | rfl | kernel_rfl) (hs := by first | rfl | kernel_rfl); (with_reducible refine rMeth (by with_unfolding_all rfl) ?_; refine nL ‹_› (by kernel_rfl) (mm4 _ _ _ _ _ _) (mm4 _ _ _ _ _ _) ?_; refine gmExt (Cx.lat c' (mm3 _ _ _ _ _)) ?_; refine rM1s (by with_unfolding_all rfl) ?_; refine rMore (by with_unfolding_all rfl) ?_; refine Subscript_ ?_; refine nL ‹_› (by kernel_rfl) (mm4 _ _ _ _ _ _) (mm0 _ _) ?_; refine wpAny_Slice ?_; refine evalPart_some_step ?_; refine nL ‹_› (by kernel_rfl) (mm4 _ _ _ _ _ _) (mm2 _ _ _ _) ?_; refine evalPart_none_step ?_; refine evalPart_none_step ?_; refine oCutL ‹_› (hl1 _ (Cx.drop c' (List.Sublist.cons _ (List.Sublist.cons _ (List.Sublist.cons _ (List.Sublist.cons _ (List.Sublist.cons _ (List.Sublist.refl _)))))))) (by constructor) (by constructor) (by first | assumption | wtm_at "zz_sz") (by with_unfolding_all rfl) (by intro _; with_unfolding_all rfl) fun b' s' c9 => ?_; (try clear c'); rename Cx _ _ _ => c'; refine spliced_none ?_; refine oExt ‹_› (mm4 _ _ _ _ _ _) (Cx.lat c' (mm0 _ _)) (by first | omega | wtm_at "zz_sz") (pt4 _ _ _ _ _ _) fun s' c9 => ?_; (try clear c'); rename Cx _ _ _ => c'; refine seqNext ‹_› ?_; refine seqCons fun Q9 hQ9 => ?_); refine wpAny_Expr_any ?_ (hi := by first | rfl | kernel_rfl) (hs := by first | rfl | kernel_rfl); (with_reducible refine rMeth (by with_unfolding_all rfl) ?_; refine nL ‹_› (by kernel_rfl) (mm5 _ _ _ _ _ _ _) (mm5 _ _ _ _ _ _ _) ?_; refine gmExt (Cx.lat c' (mm3 _ _ _ _ _)) ?_; refine rM1s (by with_unfolding_all rfl) ?_; refine rMore (by with_unfolding_all rfl) ?_; refine Subscript_ ?_; refine nL ‹_› (by kernel_rfl) (mm5 _ _ _ _ _ _ _) (mm1 _ _ _) ?_; refine wpAny_Slice ?_; refine evalPart_some_step ?_; refine nL ‹_› (by kernel_rfl) (mm5 _ _ _ _ _ _ _) (mm3 _ _ _ _ _) ?_; refine evalPart_none_step ?_; refine evalPart_none_step ?_; refine oCutL ‹_› (hl2 _ (Cx.drop c' (List.Sublist.cons _ (List.Sublist.cons _ (List.Sublist.cons _ (List.Sublist.cons _ (List.Sublist.cons _ (List.Sublist.cons _ (List.Sublist.refl _))))))))) (by constructor) (by constructor) (by first | assumption | wtm_at "zz_sz") (by with_unfolding_all rfl) (by intro _; with_unfolding_all rfl) fun b' s' c9 => ?_; (try clear c'); rename Cx _ _ _ => c'; refine spliced_none ?_; refine oExt ‹_› (mm4 _ _ _ _ _ _) (Cx.lat c' (mm0 _ _)) (by first | omega | wtm_at "zz_sz") (pt4 _ _ _ _ _ _) fun s' c9 => ?_; (try clear c'); rename Cx _ _ _ => c'; refine seqNext ‹_› ?_; refine seqCons fun Q9 hQ9 => ?_; refine wpAny_Break ?_; refine seqBrk ‹_› ?_; refine seqBrk ‹_› ?_; refine lfBrk ‹_› ?_; refine seqNext ‹_› ?_; refine seqCons fun Q9 hQ9 => ?_; refine wpAny_Return_some ?_; refine Tuple_ ?_; refine rMore (by with_unfolding_all rfl) ?_; refine nL ‹_› (by kernel_rfl) (mm6 _ _ _ _ _ _ _ _) (mm4 _ _ _ _ _ _) ?_; refine rMore (by with_unfolding_all rfl) ?_; refine nL ‹_› (by kernel_rfl) (mm6 _ _ _ _ _ _ _ _) (mm5 _ _ _ _ _ _ _) ?_; refine spliced_none ?_; refine oNewT ‹_› (by exact Nat.le_of_ble_eq_true rfl) fun b' s' c9 => ?_; (try clear c'); rename Cx _ _ _ => c'; refine seqRet ‹_› ?_; refine finRet ‹_› ?_); dsimp only)
        refine hQ _ M U _ _ _ ?_ ?_ (c'.drop ((List.Sublist.cons_cons _ (List.Sublist.cons _ (List.Sublist.cons _ (List.Sublist.cons _ (List.Sublist.cons _ (List.Sublist.cons_cons _ (List.Sublist.cons_cons _ (List.Sublist.cons _ (List.Sublist.refl _)))))))))))
        · rw [hfinal, List.map_append, d1, List.map_drop]; exact saApp hmv (saDrop hs1 _)
        · rw [hfinal, List.map_append, d2, List.map_drop]; exact saApp huv (saDrop hs2 _)
    ((with_reducible refine seqCons fun Q9 hQ9 => ?_); refine wpAny_Assign_Name ?_ (hs := by first | rfl | kernel_rfl); (with_reducible refine evSub ‹_› (AtV.loc (by kernel_rfl) (mm2 _ _ _ _) (mm0 _ _)) (AtI.val (AtV.loc (by kernel_rfl) (mm2 _ _ _ _) (mm2 _ _ _ _))) fun t' s' c9 => ?_; (try clear c'); rename Cx _ _ _ => c'))
    by_cases hie : ls1.length ≤ i
    · refine oOut c' hR.handled ((hl1 _ (Cx.drop c' (List.Sublist.cons _ (List.Sublist.cons _ (List.Sublist.cons _ (List.Sublist.refl _))))))) (by (first | lia | omega)) (by (first | lia | omega)) rfl (fun e s' c' => ?_)
      have hfin0 : sldF ls1 ls2 = (ms ++ ls1.drop i, us ++ ls2.drop j) := by rw [hgo, sldGo_end (.inl (List.drop_of_length_le hie))]
      rw [hE6]
      refine noteNew c' hfr' (FrOk.cons (hF.sub fun p hp => (List.mem_cons_of_mem _ (List.mem_cons_of_mem _ (List.mem_cons_of_mem _ ‹_›)))) (show dSld.scope.kind ≠ _ by decide +kernel) rfl ((mm2 _ _ _ _))) rfl (fun tb s' c' => ?_)
      refine flightOff c'.anyTb (fun s' c' => ?_)
      exact ending (i) (j) _ _ (by push_cast; rfl) (by push_cast; rfl) hfin0 hmv huv (by first | lia | (simp; lia)) (by first | lia | (simp; lia)) (c'.drop ((List.Sublist.refl _)))
    obtain ⟨x, hxi, hdx⟩ : ∃ x, ls1[i]? = some x ∧ ls1.drop i = x :: ls1.drop (i + 1) := ⟨ls1[i]'(by (first | lia | omega)), List.getElem?_eq_getElem _, List.drop_eq_getElem_cons _⟩
    obtain ⟨tx, hvx⟩ := saGet hs1 (i := i) (y := S x) (by simp [hxi])
    refine oItemL ((hl1 _ (Cx.drop c' (List.Sublist.cons _ (List.Sublist.cons _ (List.Sublist.cons _ (List.Sublist.refl _))))))) (by (first | lia | omega)) (by (first | lia | omega)) (by simpa using hvx) rfl ?_
    ((with_reducible refine sL ‹_› (by kernel_rfl) (mm2 _ _ _ _) (pv6 _ _ _ _ _ _ _ _) (pt2 _ _ _ _) fun s' c9 => ?_; (try clear c'); rename Cx _ _ _ => c'; refine seqNext ‹_› ?_; refine seqCons fun Q9 hQ9 => ?_); refine wpAny_Assign_Name ?_ (hs := by first | rfl | kernel_rfl); (with_reducible refine evSub ‹_› (AtV.loc (by kernel_rfl) (mm2 _ _ _ _) (mm1 _ _ _)) (AtI.val (AtV.loc (by kernel_rfl) (mm2 _ _ _ _) (mm3 _ _ _ _ _))) fun t' s' c9 => ?_; (try clear c'); rename Cx _ _ _ => c'))
    by_cases hje : ls2.length ≤ j
    · refine oOut c' hR.handled ((hl2 _ (Cx.drop c' (List.Sublist.cons _ (List.Sublist.cons _ (List.Sublist.cons _ (List.Sublist.refl _))))))) (by (first | lia | omega)) (by (first | lia | omega)) rfl (fun e s' c' => ?_)
      have hfin0 : sldF ls1 ls2 = (ms ++ ls1.drop i, us ++ ls2.drop j) := by rw [hgo, sldGo_end (.inr (List.drop_of_length_le hje))]
      rw [hE6]
      refine noteNew c' hfr' (FrOk.cons (hF.sub fun p hp => (List.mem_cons_of_mem _ (List.mem_cons_of_mem _ (List.mem_cons_of_mem _ ‹_›)))) (show dSld.scope.kind ≠ _ by decide +kernel) rfl ((mm2 _ _ _ _))) rfl (fun tb s' c' => ?_)
      refine flightOff c'.anyTb (fun s' c' => ?_)
      exact ending (i) (j) _ _ (by push_cast; rfl) (by push_cast; rfl) hfin0 hmv huv (by first | lia | (simp; lia)) (by first | lia | (simp; lia)) (c'.drop ((List.Sublist.refl _)))
    obtain ⟨y, hyj, hdy⟩ : ∃ y, ls2[j]? = some y ∧ ls2.drop j = y :: ls2.drop (j + 1) := ⟨ls2[j]'(by (first | lia | omega)), List.getElem?_eq_getElem _, List.drop_eq_getElem_cons _⟩
    obtain ⟨ty, hvy⟩ := saGet hs2 (i := j) (y := S y) (by simp [hyj])
    refine oItemL ((hl2 _ (Cx.drop c' (List.Sublist.cons _ (List.Sublist.cons _ (List.Sublist.cons _ (List.Sublist.refl _))))))) (by (first | lia | omega)) (by (first | lia | omega)) (by simpa using hvy) rfl ?_
    obtain ⟨n, rfl⟩ : ∃ m, n = m + 1 := ⟨n - 1, by (first | lia | omega)⟩
    rw [hdx, hdy, sldGo] at hgo
    have hx1 : ∀ z, ls1[i + 1]? = some z → z ≠ x := fun z hz q => by
      have := (List.getElem?_inj (i := i) (j := i + 1) (by (first | lia | omega)) hn1).mp (by rw [hxi, hz, q]); (first | lia | omega)
    have hy1 : ∀ z, ls2[j + 1]? = some z → z ≠ y := fun z hz q => by
      have := (List.getElem?_inj (i := j) (j := j + 1) (by (first | lia | omega)) hn2).mp (by rw [hyj, hz, q]); (first | lia | omega)
    (with_reducible refine sL ‹_› (by kernel_rfl) (mm2 _ _ _ _) (pv7 _ _ _ _ _ _ _ _ _) (pt2 _ _ _ _) fun s' c9 => ?_; (try clear c'); rename Cx _ _ _ => c'; refine seqNext ‹_› ?_; refine seqCons fun Q9 hQ9 => ?_; refine wpAny_If ?_; refine wpAny_isTrue_Compare1 ?_; refine nL ‹_› (by kernel_rfl) (mm2 _ _ _ _) (mm6 _ _ _ _ _ _ _ _) ?_; refine nL ‹_› (by kernel_rfl) (mm2 _ _ _ _) (mm7 _ _ _ _ _ _ _ _ _) ?_; refine oLtS ?_; refine wpAny_truthy_bool ?_)
    by_cases hlt : x < y
    · first | refine iteDT hlt ?_ | rw [decide_eq_true hlt]
      rw [if_pos hlt] at hgo
      ((with_reducible refine seqCons fun Q9 hQ9 => ?_); refine wpAny_Expr_any ?_ (hi := by first | rfl | kernel_rfl) (hs := by first | rfl | kernel_rfl); (with_reducible refine rMeth (by with_unfolding_all rfl) ?_; refine nL ‹_› (by kernel_rfl) (mm2 _ _ _ _) (mm4 _ _ _ _ _ _) ?_; refine gmApp (Cx.lat c' (mm1 _ _ _)) ?_; refine rM1s (by with_unfolding_all rfl) ?_; refine rMore (by with_unfolding_all rfl) ?_; refine nL ‹_› (by kernel_rfl) (mm2 _ _ _ _) (mm6 _ _ _ _ _ _ _ _) ?_; refine spliced_none ?_; refine oApp ‹_› (mm1 _ _ _) (pt1 _ _ _) (by first | assumption | wtm_at "zz_sz") fun s' c9 => ?_; (try clear c'); rename Cx _ _ _ => c'; refine seqNext ‹_› ?_; refine augI (q := ⟨0, 0, 0, 0⟩) ‹_› (AtI.val (AtV.loc (by kernel_rfl) (mm2 _ _ _ _) (mm2 _ _ _ _))) AtI.const fun t' => ?_; refine Sto.loc (by kernel_rfl) (mm2 _ _ _ _) (pv2 _ _ _ _) (pt2 _ _ _ _) ?_; intro s' c9; (try clear c'); rename Cx _ _ _ => c'; refine seqCons fun Q9 hQ9 => ?_; refine wpAny_While ?_))
      refine while0 c' ?_ ?_
      · intro s₃ c'
        ((with_reducible refine wpAny_isTrue_Compare1 ?_; refine evSub ‹_› (AtV.loc (by kernel_rfl) (mm2 _ _ _ _) (mm0 _ _)) (AtI.val (AtV.loc (by kernel_rfl) (mm2 _ _ _ _) (mm2 _ _ _ _))) fun t' s' c9 => ?_; (try clear c'); rename Cx _ _ _ => c'); dsimp only)
        by_cases hie1 : ls1.length ≤ i + 1
        · refine oOut c' hR.handled ((hl1 _ (Cx.drop c' (List.Sublist.cons _ (List.Sublist.cons _ (List.Sublist.cons _ (List.Sublist.refl _))))))) (by (first | lia | omega)) (by (first | lia | omega)) rfl (fun e s' c' => ?_)
          have hfin0 : sldF ls1 ls2 = ((ms ++ [x]) ++ ls1.drop (i + 1), us ++ ls2.drop j) := by
            rw [hgo, sldGo_end (.inl (List.drop_of_length_le hie1)), hdy]; simp
          refine notedNew c' hfr' (FrOk.cons (hF.sub fun p hp => (List.mem_cons_of_mem _ (List.mem_cons_of_mem _ (List.mem_cons_of_mem _ ‹_›)))) (show dSld.scope.kind ≠ _ by decide +kernel) rfl ((mm2 _ _ _ _))) rfl (fun tb s' c' => ?_)
          refine cameBack c'.anyTb rfl (fun s' c' => ?_)
          first | refine noteFlight c' rfl ?_ | (rw [hE6]; refine noteFlight c' rfl ?_)
          refine flightOff c'.anyTb (fun s' c' => ?_)
          exact ending (i + 1) (j) _ _ (by push_cast; rfl) (by push_cast; rfl) hfin0 (saApp1 hmv) huv (by first | lia | (simp; lia)) (by first | lia | (simp; lia)) (c'.drop ((List.Sublist.refl _)))
        · obtain ⟨z, hz⟩ : ∃ z, ls1[i + 1]? = some z := ⟨ls1[i + 1]'(by (first | lia | omega)), List.getElem?_eq_getElem _⟩
          obtain ⟨tz, hvz⟩ := saGet hs1 (i := i + 1) (y := S z) (by simp [hz])
          refine oItemL ((hl1 _ (Cx.drop c' (List.Sublist.cons _ (List.Sublist.cons _ (List.Sublist.cons _ (List.Sublist.refl _))))))) (by (first | lia | omega)) (by (first | lia | omega)) (by rw [show ((i : Int) + 1).toNat = i + 1 by (first | lia | omega)]; exact hvz) rfl ?_
          (with_reducible refine nL ‹_› (by kernel_rfl) (mm2 _ _ _ _) (mm6 _ _ _ _ _ _ _ _) ?_; refine oEqS ?_; refine wpAny_truthy_bool ?_)
          first | refine iteDF (hx1 z hz) ?_ | rw [decide_eq_false (hx1 z hz)]
          skip
          exact ⟨rfl, c'⟩
      · intro s₃ c'
        (with_reducible refine seqNext ‹_› ?_; refine wpAny_execs_nil ?_; refine seqNext ‹_› ?_; refine wpAny_execs_nil ?_; refine finNext ‹_› ?_; refine wpAny_execs_nil ?_; refine seqNext ‹_› ?_; refine wpAny_execs_nil ?_; refine lfNext ‹_› ?_)
        refine ⟨n, _, Nat.lt_succ_self n, ⟨i + 1, j, ms ++ [x], us, _, uv, _, _, _, _, by (first | lia | omega), hj, by (first | lia | omega), ?_, saApp1 hmv, huv, by simp; (first | lia | omega), hul, rfl⟩, c'⟩
        rw [hgo, hdy]; simp
    first | refine iteDF hlt ?_ | rw [decide_eq_false hlt]
    rw [if_neg hlt] at hgo
    (with_reducible refine seqCons fun Q9 hQ9 => ?_; refine wpAny_If ?_; refine wpAny_isTrue_Compare1 ?_; refine nL ‹_› (by kernel_rfl) (mm2 _ _ _ _) (mm6 _ _ _ _ _ _ _ _) ?_; refine nL ‹_› (by kernel_rfl) (mm2 _ _ _ _) (mm7 _ _ _ _ _ _ _ _ _) ?_; refine oGtS ?_; refine wpAny_truthy_bool ?_)
    by_cases hgt : y < x
    · first | refine iteDT hgt ?_ | rw [decide_eq_true hgt]
      rw [if_pos hgt] at hgo
      ((with_reducible refine seqCons fun Q9 hQ9 => ?_); refine wpAny_Expr_any ?_ (hi := by first | rfl | kernel_rfl) (hs := by first | rfl | kernel_rfl); (with_reducible refine rMeth (by with_unfolding_all rfl) ?_; refine nL ‹_› (by kernel_rfl) (mm2 _ _ _ _) (mm5 _ _ _ _ _ _ _) ?_; refine gmApp (Cx.lat c' (mm0 _ _)) ?_; refine rM1s (by with_unfolding_all rfl) ?_; refine rMore (by with_unfolding_all rfl) ?_; refine nL ‹_› (by kernel_rfl) (mm2 _ _ _ _) (mm7 _ _ _ _ _ _ _ _ _) ?_; refine spliced_none ?_; refine oApp ‹_› (mm0 _ _) (pt0 _ _) (by first | assumption | wtm_at "zz_sz") fun s' c9 => ?_; (try clear c'); rename Cx _ _ _ => c'; refine seqNext ‹_› ?_; refine augI (q := ⟨0, 0, 0, 0⟩) ‹_› (AtI.val (AtV.loc (by kernel_rfl) (mm2 _ _ _ _) (mm3 _ _ _ _ _))) AtI.const fun t' => ?_; refine Sto.loc (by kernel_rfl) (mm2 _ _ _ _) (pv3 _ _ _ _ _) (pt2 _ _ _ _) ?_; intro s' c9; (try clear c'); rename Cx _ _ _ => c'; refine seqCons fun Q9 hQ9 => ?_; refine wpAny_While ?_))
      refine while0 c' ?_ ?_
      · intro s₃ c'
        ((with_reducible refine wpAny_isTrue_Compare1 ?_; refine evSub ‹_› (AtV.loc (by kernel_rfl) (mm2 _ _ _ _) (mm1 _ _ _)) (AtI.val (AtV.loc (by kernel_rfl) (mm2 _ _ _ _) (mm3 _ _ _ _ _))) fun t' s' c9 => ?_; (try clear c'); rename Cx _ _ _ => c'); dsimp only)
        by_cases hje1 : ls2.length ≤ j + 1
        · refine oOut c' hR.handled ((hl2 _ (Cx.drop c' (List.Sublist.cons _ (List.Sublist.cons _ (List.Sublist.cons _ (List.Sublist.refl _))))))) (by (first | lia | omega)) (by (first | lia | omega)) rfl (fun e s' c' => ?_)
          have hfin0 : sldF ls1 ls2 = (ms ++ ls1.drop i, (us ++ [y]) ++ ls2.drop (j + 1)) := by
            rw [hgo, sldGo_end (.inr (List.drop_of_length_le hje1)), hdx]; simp
          refine notedNew c' hfr' (FrOk.cons (hF.sub fun p hp => (List.mem_cons_of_mem _ (List.mem_cons_of_mem _ (List.mem_cons_of_mem _ ‹_›)))) (show dSld.scope.kind ≠ _ by decide +kernel) rfl ((mm2 _ _ _ _))) rfl (fun tb s' c' => ?_)
          refine cameBack c'.anyTb rfl (fun s' c' => ?_)
          first | refine noteFlight c' rfl ?_ | (rw [hE6]; refine noteFlight c' rfl ?_)
          refine flightOff c'.anyTb (fun s' c' => ?_)
          exact ending (i) (j + 1) _ _ (by push_cast; rfl) (by push_cast; rfl) hfin0 hmv (saApp1 huv) (by first | lia | (simp; lia)) (by first | lia | (simp; lia)) (c'.drop ((List.Sublist.refl _)))
        · obtain ⟨z, hz⟩ : ∃ z, ls2[j + 1]? = some z := ⟨ls2[j + 1]'(by (first | lia | omega)), List.getElem?_eq_getElem _⟩
          obtain ⟨tz, hvz⟩ := saGet hs2 (i := j + 1) (y := S z) (by simp [hz])
          refine oItemL ((hl2 _ (Cx.drop c' (List.Sublist.cons _ (List.Sublist.cons _ (List.Sublist.cons _ (List.Sublist.refl _))))))) (by (first | lia | omega)) (by (first | lia | omega)) (by rw [show ((j : Int) + 1).toNat = j + 1 by (first | lia | omega)]; exact hvz) rfl ?_
          (with_reducible refine nL ‹_› (by kernel_rfl) (mm2 _ _ _ _) (mm7 _ _ _ _ _ _ _ _ _) ?_; refine oEqS ?_; refine wpAny_truthy_bool ?_)
          first | refine iteDF (hy1 z hz) ?_ | rw [decide_eq_false (hy1 z hz)]
          skip
          exact ⟨rfl, c'⟩
      · intro s₃ c'
        (with_reducible refine seqNext ‹_› ?_; refine wpAny_execs_nil ?_; refine seqNext ‹_› ?_; refine wpAny_execs_nil ?_; refine seqNext ‹_› ?_; refine wpAny_execs_nil ?_; refine finNext ‹_› ?_; refine wpAny_execs_nil ?_; refine seqNext ‹_› ?_; refine wpAny_execs_nil ?_; refine lfNext ‹_› ?_)
        refine ⟨n, _, Nat.lt_succ_self n, ⟨i, j + 1, ms, us ++ [y], mv, _, _, _, _, _, hi, by (first | lia | omega), by (first | lia | omega), ?_, hmv, saApp1 huv, hml, by simp; (first | lia | omega), rfl⟩, c'⟩
        rw [hgo, hdx]; simp
    first | refine iteDF hgt ?_ | rw [decide_eq_false hgt]
    rw [if_neg hgt] at hgo
    (with_reducible refine augI (q := ⟨0, 0, 0, 0⟩) ‹_› (AtI.val (AtV.loc (by kernel_rfl) (mm2 _ _ _ _) (mm2 _ _ _ _))) AtI.const fun t' => ?_; refine Sto.loc (by kernel_rfl) (mm2 _ _ _ _) (pv2 _ _ _ _) (pt2 _ _ _ _) ?_; intro s' c9; (try clear c'); rename Cx _ _ _ => c'; refine seqCons fun Q9 hQ9 => ?_)
    refine wpAny_Try_finally ?_
    (with_reducible refine seqCons fun Q9 hQ9 => ?_; refine wpAny_While ?_)
    refine while0 c' ?_ ?_
    · intro s₃ c'
      ((with_reducible refine wpAny_isTrue_Compare1 ?_; refine evSub ‹_› (AtV.loc (by kernel_rfl) (mm2 _ _ _ _) (mm0 _ _)) (AtI.val (AtV.loc (by kernel_rfl) (mm2 _ _ _ _) (mm2 _ _ _ _))) fun t' s' c9 => ?_; (try clear c'); rename Cx _ _ _ => c'); dsimp only)
      by_cases hie1 : ls1.length ≤ i + 1
      · refine oOut c' hR.handled ((hl1 _ (Cx.drop c' (List.Sublist.cons _ (List.Sublist.cons _ (List.Sublist.cons _ (List.Sublist.refl _))))))) (by (first | lia | omega)) (by (first | lia | omega)) rfl (fun e s' c' => ?_)
        have hfin0 : sldF ls1 ls2 = (ms ++ ls1.drop (i + 1), us ++ ls2.drop (j + 1)) := by
          rw [hgo, sldGo_end (.inl (List.drop_of_length_le hie1))]
        refine notedNew c' hfr' (FrOk.cons (hF.sub fun p hp => (List.mem_cons_of_mem _ (List.mem_cons_of_mem _ (List.mem_cons_of_mem _ ‹_›)))) (show dSld.scope.kind ≠ _ by decide +kernel) rfl ((mm2 _ _ _ _))) rfl (fun tb s' c' => ?_)
        refine cameBack c'.anyTb rfl (fun s' c' => ?_)
        first | refine noteFlight c' rfl ?_ | (rw [hE6]; refine noteFlight c' rfl ?_)
        refine ⟨ref_ne_byPass _, noteFlight c' rfl ?_⟩
        refine flightOff c'.anyTb (fun s' c' => ?_)
        (with_reducible refine augI (q := ⟨0, 0, 0, 0⟩) ‹_› (AtI.val (AtV.loc (by kernel_rfl) (mm4 _ _ _ _ _ _) (mm3 _ _ _ _ _))) AtI.const fun t' => ?_; refine Sto.loc (by kernel_rfl) (mm4 _ _ _ _ _ _) (pv3 _ _ _ _ _) (pt4 _ _ _ _ _ _) ?_; intro s' c9; (try clear c'); rename Cx _ _ _ => c'; refine seqCons fun Q9 hQ9 => ?_; refine wpAny_While ?_)
        refine while0 c' ?_ ?_
        · intro s₃ c'
          ((with_reducible refine wpAny_isTrue_Compare1 ?_; refine evSub ‹_› (AtV.loc (by kernel_rfl) (mm4 _ _ _ _ _ _) (mm1 _ _ _)) (AtI.val (AtV.loc (by kernel_rfl) (mm4 _ _ _ _ _ _) (mm3 _ _ _ _ _))) fun t' s' c9 => ?_; (try clear c'); rename Cx _ _ _ => c'); dsimp only)
          by_cases hje1 : ls2.length ≤ j + 1
          · refine oOutH c' rfl ((mm1 _ _ _)) ((hl2 _ (Cx.drop c' (List.Sublist.cons _ (List.Sublist.cons _ (List.Sublist.cons _ (List.Sublist.cons _ (List.Sublist.cons _ (List.Sublist.refl _))))))))) (by (first | lia | omega)) (by (first | lia | omega)) rfl (fun e2 s' c' => ?_)
            refine notedNew c' hfr' (FrOk.cons (hF.sub fun p hp => (List.mem_cons_of_mem _ (List.mem_cons_of_mem _ (List.mem_cons_of_mem _ (List.mem_cons_of_mem _ (List.mem_cons_of_mem _ ‹_›)))))) (show dSld.scope.kind ≠ _ by decide +kernel) rfl ((mm4 _ _ _ _ _ _))) rfl (fun tb2 s' c' => ?_)
            refine cameBack c'.anyTb rfl (fun s' c' => ?_)
            refine notedFl c' rfl ?_
            refine cameBack c'.anyTb rfl (fun s' c' => ?_)
            first | refine noteFlight c' rfl ?_ | (rw [hE6]; refine noteFlight c' rfl ?_)
            refine flightOff c'.anyTb (fun s' c' => ?_)
            exact ending (i + 1) (j + 1) _ _ (by push_cast; rfl) (by push_cast; rfl) hfin0 hmv huv (by first | lia | (simp; lia)) (by first | lia | (simp; lia)) (c'.drop ((List.Sublist.cons_cons _ (List.Sublist.cons_cons _ (List.Sublist.cons _ (List.Sublist.cons _ (List.Sublist.refl _)))))))
          · obtain ⟨z, hz⟩ : ∃ z, ls2[j + 1]? = some z := ⟨ls2[j + 1]'(by (first | lia | omega)), List.getElem?_eq_getElem _⟩
            obtain ⟨tz, hvz⟩ := saGet hs2 (i := j + 1) (y := S z) (by simp [hz])
            refine oItemL ((hl2 _ (Cx.drop c' (List.Sublist.cons _ (List.Sublist.cons _ (List.Sublist.cons _ (List.Sublist.cons _ (List.Sublist.cons _ (List.Sublist.refl _))))))))) (by (first | lia | omega)) (by (first | lia | omega)) (by rw [show ((j : Int) + 1).toNat = j + 1 by (first | lia | omega)]; exact hvz) rfl ?_
            (with_reducible refine nL ‹_› (by kernel_rfl) (mm4 _ _ _ _ _ _) (mm7 _ _ _ _ _ _ _ _ _) ?_; refine oEqS ?_; refine wpAny_truthy_bool ?_)
            first | refine iteDF (hy1 z hz) ?_ | rw [decide_eq_false (hy1 z hz)]
            skip
            exact ⟨rfl, c'⟩
        · intro s₃ c'
          ((with_reducible refine seqNext ‹_› ?_; refine wpAny_execs_nil ?_); dsimp only)
          refine passOnL c' rfl (fun s' c' => ?_)
          first | refine noteFlight c' rfl ?_ | (rw [hE6]; refine noteFlight c' rfl ?_)
          refine flightOff c'.anyTb (fun s' c' => ?_)
          exact ending (i + 1) (j + 1) _ _ (by push_cast; rfl) (by push_cast; rfl) hfin0 hmv huv (by first | lia | (simp; lia)) (by first | lia | (simp; lia)) (c'.drop ((List.Sublist.refl _)))
      · obtain ⟨z, hz⟩ : ∃ z, ls1[i + 1]? = some z := ⟨ls1[i + 1]'(by (first | lia | omega)), List.getElem?_eq_getElem _⟩
        obtain ⟨tz, hvz⟩ := saGet hs1 (i := i + 1) (y := S z) (by simp [hz])
        refine oItemL ((hl1 _ (Cx.drop c' (List.Sublist.cons _ (List.Sublist.cons _ (List.Sublist.cons _ (List.Sublist.refl _))))))) (by (first | lia | omega)) (by (first | lia | omega)) (by rw [show ((i : Int) + 1).toNat = i + 1 by (first | lia | omega)]; exact hvz) rfl ?_
        (with_reducible refine nL ‹_› (by kernel_rfl) (mm2 _ _ _ _) (mm6 _ _ _ _ _ _ _ _) ?_; refine oEqS ?_; refine wpAny_truthy_bool ?_)
        first | refine iteDF (hx1 z hz) ?_ | rw [decide_eq_false (hx1 z hz)]
        skip
        exact ⟨rfl, c'⟩
    · intro s₃ c'
      (with_reducible refine seqNext ‹_› ?_; refine wpAny_execs_nil ?_; refine wpAny_execs_nil ?_; refine augI (q := ⟨0, 0, 0, 0⟩) ‹_› (AtI.val (AtV.loc (by kernel_rfl) (mm2 _ _ _ _) (mm3 _ _ _ _ _))) AtI.const fun t' => ?_; refine Sto.loc (by kernel_rfl) (mm2 _ _ _ _) (pv3 _ _ _ _ _) (pt2 _ _ _ _) ?_; intro s' c9; (try clear c'); rename Cx _ _ _ => c'; refine seqCons fun Q9 hQ9 => ?_; refine wpAny_While ?_)
      refine while0 c' ?_ ?_
      · intro s₃ c'
        ((with_reducible refine wpAny_isTrue_Compare1 ?_; refine evSub ‹_› (AtV.loc (by kernel_rfl) (mm2 _ _ _ _) (mm1 _ _ _)) (AtI.val (AtV.loc (by kernel_rfl) (mm2 _ _ _ _) (mm3 _ _ _ _ _))) fun t' s' c9 => ?_; (try clear c'); rename Cx _ _ _ => c'); dsimp only)
        by_cases hje1 : ls2.length ≤ j + 1
        · refine oOut c' hR.handled ((hl2 _ (Cx.drop c' (List.Sublist.cons _ (List.Sublist.cons _ (List.Sublist.cons _ (List.Sublist.refl _))))))) (by (first | lia | omega)) (by (first | lia | omega)) rfl (fun e s' c' => ?_)
          have hfin0 : sldF ls1 ls2 = (ms ++ ls1.drop (i + 1), us ++ ls2.drop (j + 1)) := by
            rw [hgo, sldGo_end (.inr (List.drop_of_length_le hje1))]
          refine notedNew c' hfr' (FrOk.cons (hF.sub fun p hp => (List.mem_cons_of_mem _ (List.mem_cons_of_mem _ (List.mem_cons_of_mem _ ‹_›)))) (show dSld.scope.kind ≠ _ by decide +kernel) rfl ((mm2 _ _ _ _))) rfl (fun tb s' c' => ?_)
          refine cameBack c'.anyTb rfl (fun s' c' => ?_)
          refine notedFl c' rfl ?_
          refine cameBack c'.anyTb rfl (fun s' c' => ?_)
          first | refine noteFlight c' rfl ?_ | (rw [hE6]; refine noteFlight c' rfl ?_)
          refine flightOff c'.anyTb (fun s' c' => ?_)
          exact ending (i + 1) (j + 1) _ _ (by push_cast; rfl) (by push_cast; rfl) hfin0 hmv huv (by first | lia | (simp; lia)) (by first | lia | (simp; lia)) (c'.drop ((List.Sublist.refl _)))
        · obtain ⟨z, hz⟩ : ∃ z, ls2[j + 1]? = some z := ⟨ls2[j + 1]'(by (first | lia | omega)), List.getElem?_eq_getElem _⟩
          obtain ⟨tz, hvz⟩ := saGet hs2 (i := j + 1) (y := S z) (by simp [hz])
          refine oItemL ((hl2 _ (Cx.drop c' (List.Sublist.cons _ (List.Sublist.cons _ (List.Sublist.cons _ (List.Sublist.refl _))))))) (by (first | lia | omega)) (by (first | lia | omega)) (by rw [show ((j : Int) + 1).toNat = j + 1 by (first | lia | omega)]; exact hvz) rfl ?_
          (with_reducible refine nL ‹_› (by kernel_rfl) (mm2 _ _ _ _) (mm7 _ _ _ _ _ _ _ _ _) ?_; refine oEqS ?_; refine wpAny_truthy_bool ?_)
          first | refine iteDF (hy1 z hz) ?_ | rw [decide_eq_false (hy1 z hz)]
          skip
          exact ⟨rfl, c'⟩
      · intro s₃ c'
        (with_reducible refine seqNext ‹_› ?_; refine wpAny_execs_nil ?_; refine seqNext ‹_› ?_; refine wpAny_execs_nil ?_; refine seqNext ‹_› ?_; refine wpAny_execs_nil ?_; refine seqNext ‹_› ?_; refine wpAny_execs_nil ?_; refine finNext ‹_› ?_; refine wpAny_execs_nil ?_; refine seqNext ‹_› ?_; refine wpAny_execs_nil ?_; refine lfNext ‹_› ?_)
        exact ⟨n, _, Nat.lt_succ_self n, ⟨i + 1, j + 1, ms, us, mv, uv, _, _, _, _, by (first | lia | omega), by (first | lia | omega), by (first | lia | omega), hgo, hmv, huv, by (first | lia | omega), by (first | lia | omega), rfl⟩, c'⟩
end
section
open PySem PyProof.Rows
noncomputable def addObj (a : Addr) : Obj := { cls := .type "builtin_function_or_method", data := .fields #[.builtin "list.append", .ref a] }
section
variable {prog : Program} {w : World} {A : Around} {E : Value → Shared → Prop} {s : Shared} {α : Type}
theorem ifSo {M : Model} {c : Bool} {a b : Sem α} {Q : α → Shared → Prop} (hc : c = true) (h : wpAny M A a Q E s) : wpAny M A (if c = true then a else b) Q E s := by
  subst hc
  exact h
theorem sub_list_module : isSubtype (.type "list") (.type "module") = pure false := by rw [isSubtype_type]; kernel_rfl
theorem sig_append : ∃ sig, Manifest.signature? "list.append" = some sig ∧ ∀ (a : Addr) (v : Value), Bind.checkArgs "list.append" { sig with full := s!"{Bind.lastOf "list"}.{Bind.lastOf "list.append"}" } ⟨[.ref a, v], []⟩ = pure () := by
  refine ⟨_, signature?_of (id := "list.append") (n := ['d', 'n', 'e', 'p', 'p', 'a']) (o := ['t', 's', 'i', 'l']) (by kernel_rfl) F.owner_list, fun a v => ?_⟩
  kernel_rfl
theorem kind_append : builtinKind "list.append" = some .method := by decide +kernel
theorem check_append {a : Addr} {v : Value} {o : Obj} {xs : Array Value} {n : Nat} {Q : Unit → Shared → Prop} (ho : s.heap.get? a = some o) (hc : o.cls = .type "list") (hd : o.data = .seq xs n) (h : Q () s) :
    wpAny (model prog w) A (checkBoundCall "list.append" ⟨[.ref a, v], []⟩) Q E s := by
  obtain ⟨sig, hs, hk⟩ := sig_append
  have hT : s.TypeIs (.ref a) "list" := ⟨o, ho, hc⟩
  unfold checkBoundCall
  rw [hs, kind_append]
  dsimp only
  rw [if_neg (by decide)]
  refine wpAny_bind (wpAny_isInstance hT sub_list_module ?_)
  rw [if_neg (by decide +kernel)]
  have ht : wpAny (model prog w) A (isType (.ref a)) (fun b s' => b = false ∧ s' = s) E s := by
    show wpAny _ A (do return match (← loadHead a).data with | .cls _ => true | _ => false) _ _ s
    unfold loadHead
    refine wpAny_bind (wpAny_loadPart ho ?_)
    rw [hd]
    exact wpAny_pure ⟨rfl, rfl⟩
  refine wpAny_bind (wpAny_mono ht (fun b s' hb => ?_) fun _ _ e => e)
  obtain ⟨rfl, rfl⟩ := hb
  rw [if_neg (by decide)]
  refine wpAny_bind (wpAny_typeOf hT ?_)
  dsimp only
  exact wpAny_of_eq (hk a v) h
theorem quiet_append {as : Args} : (Code.builtin "list.append" as).quiet = true := Code.quiet_builtin _ (by decide +kernel)
theorem callAdd {x a : Addr} {its : Array Value} {n : Nat} {v : Value} {Q : Value → Shared → Prop} (ho : s.heap.get? x = some (addObj a)) (hl : s.heap.get? a = some { cls := .type "list", data := .seq its n })
    (h : ∀ h', Heap.SameBut a s.heap h' → h'.get? a = some { cls := .type "list", data := .seq (its.push v) (n + 1) } → Q .none { s with heap := h' }) (hsz : its.size ≤ sizeLine) : wpAny (model prog w) A (call (.ref x) [v]) Q E s := by
  refine wpAny_call (codeAny_of_tree ?_)
  show wpAny _ A.in1 (callAny (.ref x) ⟨[v], []⟩) _ _ s
  simp only [callAny]
  refine wpAny_bind (wpAny_load ho ?_)
  simp only [addObj, show (Value.type "builtin_function_or_method" == Value.type "method" || Value.type "builtin_function_or_method" == Value.type "builtin_function_or_method" || Value.type "builtin_function_or_method" == Value.type "method-wrapper") = true by decide, if_true]
  refine ifSo (by decide) ?_
  refine wpAny_bind (check_append hl rfl rfl ?_)
  refine wpAny_bind (wpAny_pure (wpAny_pure ?_))
  refine ⟨quiet_append, codeAny_builtin entry_list_append ?_⟩
  show wpAny _ _ (updateSeq a (·.push v) >>= fun _ => ret .none) _ _ s
  refine wpAny_bind ?_
  refine wpAny_updateSeq hl rfl (wpAny_pure (h _ (Heap.SameBut.update ..) ?_))
  rw [Heap.get?_update_self _ hl (by rw [mapSeq_push]; rfl), mapSeq_push]
end
end
section
set_option maxRecDepth 100000
open PySem PyProof.Rows
theorem slot_mdget : Slot "method_descriptor" "__get__" "method_descriptor.__get__" :=
  .of (owner := "method_descriptor") (n := "__get__") (by rw [typeLookup_type, builtinLookup_eq_fast]; kernel_rfl) (by decide +kernel) (by decide +kernel) (by decide +kernel)
    (by first | exact .inl (by decide +kernel) | exact .inr (by decide +kernel)) (by rw [isSubtype_type]; kernel_rfl)
theorem entry_mdget : entryFor table "method_descriptor.__get__" = some Builtin.«method_descriptor.__get__» := entryFor_of_tree (by kernel_rfl)
theorem args_mdget (a b c : Value) : argsOk "method_descriptor.__get__" ⟨[a, b, c], []⟩ := by unfold argsOk; kernel_rfl
theorem md_noset : typeLookup (.type "method_descriptor") "__set__" = pure none := by rw [typeLookup_type, builtinLookup_eq_fast]; kernel_rfl
theorem md_nodel : typeLookup (.type "method_descriptor") "__delete__" = pure none := by rw [typeLookup_type, builtinLookup_eq_fast]; kernel_rfl
theorem sub_list_own : isSubtype (.type "list") (.type (".".intercalate ("list.append".cutAt '.').dropLast)) = pure true := by
  rw [show ".".intercalate ("list.append".cutAt '.').dropLast = "list" by decide +kernel, isSubtype_type]; kernel_rfl
section
variable {prog : Program} {w : World} {A : Around} {E : Value → Shared → Prop} {hp : Heap} {g : Array GenState} {d : Drawn} {tk : Tok} {os : OsState} {a : Addr} {o : Obj} {xs : Array Value} {k : Nat}
theorem run_mdget {P : Fin → Shared → Prop} (hx : hp.get? a = some { cls := .type "list", dict := none, data := .seq xs k, slots := #[] })
    (h : P (.done (.ret (.ref hp.objs.size))) ⟨hp.push (addObj a), g, d, tk, os⟩) :
    wpAny (model prog w) A (Builtin.«method_descriptor.__get__» ⟨[.builtin "list.append", .ref a, .type "list"], []⟩) P E ⟨hp, g, d, tk, os⟩ := by
  have hT : (⟨hp, g, d, tk, os⟩ : Shared).TypeIs (.ref a) "list" := ⟨_, hx, rfl⟩
  have f1 := sub_list_own
  unfold Builtin.«method_descriptor.__get__»
  repeat (any_goals (first | assumption | wp_step))
theorem getattr_append {u : Tok} {Q : Fin → Shared → Prop} (hx : hp.get? a = some { cls := .type "list", dict := none, data := .seq xs k, slots := #[] })
    (hq : Q (.done (.ret (.ref hp.objs.size))) ⟨hp.push (addObj a), g, d, tk, os⟩) :
    wpAny (model prog w) A (Builtin.«object.__getattribute__» ⟨[.ref a, .str "append" u], []⟩) Q E ⟨hp, g, d, tk, os⟩ := by
  have hT : (⟨hp, g, d, tk, os⟩ : Shared).TypeIs (.ref a) "list" := ⟨_, hx, rfl⟩
  have f4 := F.slot_list_append.lookup
  have f5 := F.type_list_append
  have f6 := slot_mdget.lookup
  have f7 := md_noset
  have f8 := md_nodel
  unfold Builtin.«object.__getattribute__»
  repeat (any_goals (first | assumption | wp_step))
  have hT5 : (⟨hp, g, d, tk, os⟩ : Shared).TypeIs (.builtin "list.append") "method_descriptor" := f5
  refine codeAny_call_builtin slot_mdget.plain entry_mdget (slot_mdget.check _ _ _ _ _ _ _ _ hT5 (args_mdget _ _ _) (run_mdget hx ?_))
  exact wpAny_pure hq
theorem call_getattr_append {u : Tok} {R : Result → Shared → Prop} (hx : hp.get? a = some { cls := .type "list", dict := none, data := .seq xs k, slots := #[] })
    (hq : R (.ok (.ret (.ref hp.objs.size))) ⟨hp.push (addObj a), g, d, tk, os⟩) :
    codeAny (model prog w) A (.call (.builtin "list.__getattribute__") ⟨[.ref a, .str "append" u], []⟩) R ⟨hp, g, d, tk, os⟩ :=
  codeAny_call_builtin F.slot_list_getattribute.plain F.entry_list_ga (F.slot_list_getattribute.check _ _ _ _ _ _ _ _ (show (⟨hp, g, d, tk, os⟩ : Shared).TypeIs (.ref a) "list" from ⟨_, hx, rfl⟩) (F.args_list_getattribute_2 _ _) (getattr_append hx hq))
theorem getAdd {s : Shared} {Q : Value → Shared → Prop} (hx : s.heap.get? a = some { cls := .type "list", dict := none, data := .seq xs k, slots := #[] })
    (hq : Q (.ref s.heap.objs.size) { s with heap := s.heap.push (addObj a), toks := s.toks + 1 }) : wpAny (model prog w) A (getAttr (.ref a) "append" true) Q E s := by
  obtain ⟨hp, g, d, tk, os⟩ := s
  have hT : ∀ tk', (⟨hp, g, d, tk', os⟩ : Shared).TypeIs (.ref a) "list" := fun _ => ⟨_, hx, rfl⟩
  have f3 := F.slot_list_getattribute.lookup
  have f4 := F.slot_list_getattribute.bind (.ref a)
  have f5 := am_list_getattr_none
  unfold getAttr getAttrBy
  repeat (any_goals (first | assumption | exact hT _ | wp_step))
  refine call_getattr_append (hp := hp) hx ?_
  have hb : (hp.push (addObj a)).get? hp.objs.size = some (addObj a) := Heap.get?_push_size _ rfl
  repeat (any_goals (first | assumption | wp_step))
end
end
section
set_option maxRecDepth 100000
open PySem PySem.W PyProof.Rows PySem.Calls
/-- a parts list: the star's object or a str -/
noncomputable def PartsAre (star : Addr) : List Value → List (Option (List Nat)) → Prop
  | [], [] => True
  | v :: vs, none :: ps => v = .ref star ∧ PartsAre star vs ps
  | v :: vs, some x :: ps => (∃ t, v = .str (S x) t) ∧ PartsAre star vs ps
  | _, _ => False
theorem paLen {star : Addr} : ∀ {vs : List Value} {ps : List (Option (List Nat))}, PartsAre star vs ps → vs.length = ps.length
  | [], [], _ => rfl
  | v :: vs, none :: ps, h => by simp [paLen h.2]
  | v :: vs, some x :: ps, h => by simp [paLen h.2]
  | [], _ :: _, h => h.elim
  | _ :: _, [], h => h.elim
theorem paNone {star : Addr} : ∀ {vs : List Value} {ps : List (Option (List Nat))}, PartsAre star vs ps → ∀ {i : Nat}, ps[i]? = some none → vs[i]? = some (.ref star)
  | v :: vs, none :: ps, h, 0, _ => by simp [h.1]
  | v :: vs, none :: ps, h, i + 1, e => by simpa using paNone h.2 (i := i) (by simpa using e)
  | v :: vs, some x :: ps, h, i + 1, e => by simpa using paNone h.2 (i := i) (by simpa using e)
  | [], [], _, i, e => by simp at e
  | v :: vs, some x :: ps, h, 0, e => by simp at e
theorem paSome {star : Addr} : ∀ {vs : List Value} {ps : List (Option (List Nat))}, PartsAre star vs ps → ∀ {i : Nat} {x : List Nat}, ps[i]? = some (some x) → ∃ t, vs[i]? = some (.str (S x) t)
  | v :: vs, none :: ps, h, i + 1, x, e => by simpa using paSome h.2 (i := i) (by simpa using e)
  | v :: vs, some y :: ps, h, 0, x, e => by
    simp at e; subst e
    obtain ⟨⟨t, rfl⟩, _⟩ := h
    exact ⟨t, rfl⟩
  | v :: vs, some y :: ps, h, i + 1, x, e => by simpa using paSome h.2 (i := i) (by simpa using e)
  | [], [], _, i, x, e => by simp at e
  | v :: vs, none :: ps, h, 0, x, e => by simp at e
theorem paApp {star : Addr} : ∀ {vs : List Value} {ps : List (Option (List Nat))} {ws : List Value} {qs : List (Option (List Nat))}, PartsAre star vs ps → PartsAre star ws qs → PartsAre star (vs ++ ws) (ps ++ qs)
  | [], [], _, _, _, h' => h'
  | v :: vs, none :: ps, _, _, h, h' => ⟨h.1, paApp h.2 h'⟩
  | v :: vs, some x :: ps, _, _, h, h' => ⟨h.1, paApp h.2 h'⟩
theorem paStar {star : Addr} : PartsAre star [.ref star] [none] := ⟨rfl, trivial⟩
theorem paStr {star : Addr} {x : List Nat} {t : Tok} : PartsAre star [.str (S x) t] [some x] := ⟨⟨t, rfl⟩, trivial⟩
section
variable {prog : Program} {w : World} {A : Around} {E : Value → Shared → Prop} {s₀ s : Shared} {T T' : Tab} {a b e u tb L : Addr} {v : Value} {env : Env} {pos : Pos} {cls : String}
theorem rAttrN {n attr : Str} {np : Pos} {Q : Value → Shared → Prop} (h : wpAny (model prog w) A (eval (.Name n np) env) (fun o s₁ => wpAny (model prog w) A (getAttr o attr true) Q E s₁) E s) : wpAny (model prog w) A (eval (.Attribute (.Name n np) attr pos) env) Q E s :=
  Attribute_name h
theorem oGetAdd {vs : List Value} {Q : Value → Shared → Prop} (c : Cx s₀ s T) (hl : LstAt s.heap a vs) (h : ∀ x s', Cx s₀ s' ((x, .obj (addObj a)) :: T) → Q (.ref x) s') : wpAny (model prog w) A (getAttr (.ref a) "append" true) Q E s := by
  obtain ⟨n, ho⟩ := hl
  exact getAdd ho (h _ _ ((c.push (r := .obj (addObj a)) (o := addObj a) rfl rfl).tok _))
theorem callWithAdd {args : List (Bool × Sem Value)} {Q : Value → Shared → Prop} (hplain : args.any (·.1) = false)
    (h : wpAny (model prog w) A (evalArgs (.ref u) true args []) (fun x s₁ => s₁.heap.get? u = some (addObj a) ∧ wpAny (model prog w) A (call (.ref u) ([] ++ x.pos) x.kw) Q E s₁) E s) : wpAny (model prog w) A (callWith pos (.ref u) [] args []) Q E s := by
  unfold callWith
  refine wpAny_bind (wpAny_holding (wpAny_mono h (fun x s₁ h₁ => wpAny_bind (wpAny_standAt ?_)) fun _ _ x => x))
  obtain ⟨ho, hcall⟩ := h₁
  simp only [hplain, List.any_nil, Bool.or_false]
  refine wpAny_bind (m := keeperOf (.ref u)) ?_
  unfold keeperOf
  refine wpAny_bind (wpAny_load ho ?_)
  simp only [addObj, show (Value.type "builtin_function_or_method" != Value.type "method") = true by decide, show (Value.type "builtin_function_or_method" == Value.type "builtin_function_or_method" || Value.type "builtin_function_or_method" == Value.type "method-wrapper") = true by decide, if_true]
  refine wpAny_pure ?_
  exact wpAny_bind (wpAny_mono hcall (fun r s₂ hr => wpAny_bind (wpAny_holding (wpAny_point (wpAny_pure hr)))) fun _ _ x => x)
theorem rAddC {x : Expr} {rest : List Expr} {Q : Value → Shared → Prop} (c : Cx s₀ s T) (hu : (u, Rs.obj (addObj a)) ∈ T) (hs : noStars (x :: rest) = true)
    (h : wpAny (model prog w) A (spliced (backTo pos (starEach (x :: rest) env))) (fun vs s₁ => s₁.heap.get? u = some (addObj a) ∧ wpAny (model prog w) A (call (.ref u) vs) Q E s₁) E s) :
    wpAny (model prog w) A (callWith pos (.ref u) [] (backTo pos (starEach (x :: rest) env)) []) Q E s := by
  have hs' := hs
  simp only [noStars, Bool.and_eq_true] at hs
  have he := starEach_cons (rest := rest) (env := env) hs.1
  have hplain := starEach_any (pos := pos) (env := env) hs'
  rw [he] at h hplain ⊢
  refine callWithAdd (a := a) hplain ?_
  exact evalArgs_plain h
theorem oAddC {vs : List Value} {Q : Value → Shared → Prop} (c : Cx s₀ s T) (hu : (u, Rs.obj (addObj a)) ∈ T) (hl : (a, Rs.lst vs) ∈ T) (hz : vs.length ≤ sizeLine) (hp : Put a (.lst (vs ++ [v])) T T') (h : ∀ s', Cx s₀ s' T' → Q .none s') :
    wpAny (model prog w) A (call (.ref u) [v]) Q E s := by
  obtain ⟨n, e⟩ := c.plain hl
  exact callAdd (c.obj hu) e (fun h' hs ho => h _ (c.upd s.toks hp hs.extBut ho ⟨n + 1, by simp⟩)) (by simpa using hz)
theorem oIsNotS {x : List Nat} {t : Tok} {Q : Value → Shared → Prop} (h : Q (.bool true) s) : wpAny (model prog w) A (compareOp .IsNot (.str (S x) t) (.ref a)) Q E s := wpAny_isNot_other rfl (by intro q; cases q) h
theorem rSw2 {x y : Str} {px py tp : Pos} {k} {value : Expr} {Q : Flow → Shared → Prop} (hs : swapsWithSole [.Tuple [.Name x px, .Name y py] k tp] value pos.line env = pure false) (hw : swappedStores [.Tuple [.Name x px, .Name y py] k tp] value env = pure (some [x, y]))
    (h : wpAny (model prog w) A (eval value env) (fun v s₁ => wpAny (model prog w) A (unpackItems v 2 none) (fun items s₂ => wpAny (model prog w) A (assignInOrder [bindName env y, bindName env x] items.reverse) (fun _ => Q .next) E s₂) E s₁) E s) :
    wpAny (model prog w) A (exec (.Assign [.Tuple [.Name x px, .Name y py] k tp] value pos) env) Q E s := Assign_Tuple_swapped (names := [x, y]) h hs hw
theorem oUnp2 {v1 v2 : Value} {Q : List Value → Shared → Prop} (c : Cx s₀ s T) (hh : A.handled = none) (ht : (a, Rs.tup [v1, v2]) ∈ T) (h : ∀ s', Cx s₀ s' T → Q [v1, v2] s') : wpAny (model prog w) A (unpackItems (.ref a) 2 none) Q E s := by
  refine unpackItems_tuple (items := [v1, v2].toArray) hh (c.tup ht) fun h' he => ?_
  exact h _ (c.grow (h' := h') s.toks fun b o e => he b o (Nat.ne_of_lt (Heap.lt_size e)) e)
theorem rSw2b {x y : Str} {v1 v2 : Value} {Q : Unit → Shared → Prop} (h : wpAny (model prog w) A (storeName env y v2) (fun _ s₁ => wpAny (model prog w) A (storeName env x v1) Q E s₁) E s) :
    wpAny (model prog w) A (assignInOrder [bindName env y, bindName env x] [v1, v2].reverse) Q E s :=
  assignInOrder_cons (wpAny_bindName (wpAny_mono h (fun _ s₁ h₁ => assignInOrder_cons (wpAny_bindName (wpAny_mono h₁ (fun _ _ h => assignInOrder_nil h) fun _ _ e => e))) fun _ _ e => e))
theorem andT {P : Prop} (h : P) : true = true ∧ P := ⟨rfl, h⟩
theorem rJoined {v₁ v₂ : Expr} {rest : List Expr} {Q : Value → Shared → Prop} (h : wpAny (model prog w) A (joinParts (S []) (eval v₁ env :: eval v₂ env :: evalEach rest env)) Q E s) : wpAny (model prog w) A (eval (.JoinedStr (v₁ :: v₂ :: rest) pos) env) Q E s := JoinedStr_many h
theorem rPart {o : List Nat} {x : Sem Value} {rest : List (Sem Value)} {Q : Value → Shared → Prop}
    (h : wpAny (model prog w) A x (fun v s₁ => ∃ l t, v = .str (S l) t ∧ o.length + l.length ≤ sizeLine ∧ wpAny (model prog w) A (joinParts (S (o ++ l)) rest) Q E s₁) E s) : wpAny (model prog w) A (joinParts (S o) (x :: rest)) Q E s := by
  refine joinParts_cons (wpAny_mono h (fun v s₁ h₁ => ?_) fun _ _ e => e)
  obtain ⟨l, t, rfl, hz, h₁⟩ := h₁
  exact ⟨by rw [S_app]; simpa using hz, by rw [S_app]; exact h₁⟩
theorem rPartE {o : List Nat} {x : Expr} {rest : List Expr} {Q : Value → Shared → Prop} (h : wpAny (model prog w) A (joinParts (S o) (eval x env :: evalEach rest env)) Q E s) : wpAny (model prog w) A (joinParts (S o) (evalEach (x :: rest) env)) Q E s := h
theorem rPart0 {o : List Nat} {Q : Value → Shared → Prop} (c : Cx s₀ s T) (hz : o.length ≤ sizeLine) (h : ∀ t s', Cx s₀ s' T → Q (.str (S o) t) s') : wpAny (model prog w) A (joinParts (S o) (evalEach [] env)) Q E s :=
  joinParts_nil (h _ _ (c.tok _)) (by simpa using hz)
theorem rFmt {value : Expr} {Q : Value → Shared → Prop} (h : wpAny (model prog w) A (eval value env) (fun v s₁ => wpAny (model prog w) A (formatField v Str.empty) Q E s₁) E s) : wpAny (model prog w) A (eval (.FormattedValue value (-1) none pos) env) Q E s := FormattedValue_plain h
theorem oFmt {x : List Nat} {t : Tok} {Q : Value → Shared → Prop} (c : Cx s₀ s T) (hz : x.length ≤ sizeLine) (h : ∀ t s', Cx s₀ s' T → Q (.str (S x) t) s') : wpAny (model prog w) A (formatField (.str (S x) t) Str.empty) Q E s :=
  formatField_str (fun t' tk => h t' _ (c.tok tk)) (by simpa using hz)
end
end
section
set_option maxRecDepth 100000
set_option maxHeartbeats 4000000
open PySem PySem.W PyProof.Rows PySem.Calls
abbrev Parts := List (Option (List Nat))
noncomputable def somes : Parts → List (List Nat)
  | some x :: r => x :: somes r
  | _ => []
noncomputable def behind : Parts → Parts
  | some _ :: r => behind r
  | r => r
noncomputable def jGo : Nat → Parts → List Nat
  | 0, _ => []
  | _ + 1, [] => []
  | n + 1, _ :: rest => if rest = [] then [46, 42] else if behind rest = [] then [46, 42] ++ (somes rest).flatten else [40, 63, 62, 46, 42, 63] ++ (somes rest).flatten ++ [41] ++ jGo n (behind rest)
noncomputable def joinBody (ps : Parts) : List Nat := (somes ps).flatten ++ jGo ps.length (behind ps)
noncomputable def joinF (ps : Parts) : List Nat := [40, 63, 115, 58] ++ joinBody ps ++ [41, 92, 90]
theorem flat_len {l : List (List Nat)} {b : Nat} (h : ∀ x ∈ l, x.length ≤ b) : l.flatten.length ≤ l.length * b := by
  induction l with
  | nil => simp
  | cons x l ih =>
    have h1 := h x List.mem_cons_self
    have h2 := ih fun y hy => h y (List.mem_cons_of_mem _ hy)
    rw [List.flatten_cons, List.length_append, List.length_cons, Nat.add_mul, Nat.one_mul]; (first | lia | omega)
theorem somes_len {ps : Parts} {b : Nat} (h : ∀ x, some x ∈ ps → x.length ≤ b) : ∀ x ∈ somes ps, x.length ≤ b := by
  induction ps with
  | nil => intro x hx; cases hx
  | cons p r ih => cases p with
    | none => intro x hx; cases hx
    | some y =>
      intro x hx
      rcases List.mem_cons.mp hx with rfl | hx
      · exact h _ List.mem_cons_self
      · exact ih (fun z hz => h z (List.mem_cons_of_mem _ hz)) x hx
theorem join_ok {mg mb : Str → Option Value} {w : World} {f : Addr} {A : Around} {Q E : Value → Shared → Prop} {s : Shared} {l star : Addr} {vs : List Value} {ps : Parts}
    (hA : Room A 3) (F : FnAt s.heap dJoin f) (G : Gl dAll mg mb s.heap) (hl : LstAt s.heap l vs) (hps : PartsAre star vs ps) (hz1 : ps.length ≤ 20) (hb : ∀ x, some x ∈ ps → x.length ≤ 20) (hadj : ∀ i : Nat, ps[i]? = some none → ps[i + 1]? ≠ some none)
    (hQ : ∀ t s', Keeps s s' → Q (.str (S (joinF ps)) t) s') : wpAny (model PW w) A (call (.ref f) [.ref l, .ref star]) Q E s := by
    refine callD (binds := [("inp", .ref l), ("STAR", .ref star)]) [("inp", .ref l), ("STAR", .ref star)] [] ["res", "add", "i", "n", "fixed"] [] ["inp", "STAR", "res", "add", "i", "n", "fixed"] _ [] (ks2 := []) hA.d F G.lim (fun _ _ _ => by kernel_rfl) (by kernel_rfl) (by kernel_rfl) (by kernel_rfl)
      (by kernel_rfl) (by kernel_rfl) (by decide +kernel) (by decide +kernel) (by kernel_rfl) (by decide +kernel) rfl (by kernel_rfl) (by kernel_rfl) (by kernel_rfl) (by kernel_rfl) ?_
    intro L code as s₁ has c
    simp only [List.map_cons, List.map_nil, List.cons_append, List.nil_append, List.zip_nil_right, List.zip_nil_left] at c ⊢
    have hR : Room (A.deeper (envC dJoin L f code [])) 2 := Room.deeper hA
    have hvz := paLen hps
    obtain ⟨tot, hJ⟩ : ∃ tot, joinBody ps = tot := ⟨_, rfl⟩
    generalize hA9 : A.deeper _ = A9 at hR ⊢
    refine ent ?_
    intro Q9 E9 hQ9 hE9
    refine seqCons ?_
    intro Q7 hQ7
    (refine wpAny_Assign_Name ?_ (hs := by first | rfl | kernel_rfl); (with_reducible refine List_ ?_; refine spliced_none ?_; refine oNewL ‹_› (by exact Nat.le_of_ble_eq_true rfl) fun b' s' c9 => ?_; (try clear c'); rename Cx _ _ _ => c'; refine sL ‹_› (by kernel_rfl) (mm1 _ _ _) (pv2 _ _ _ _) (pt1 _ _ _) fun s' c9 => ?_; (try clear c'); rename Cx _ _ _ => c'; refine seqNext ‹_› ?_; refine seqCons fun Q9 hQ9 => ?_); refine wpAny_Assign_Name ?_ (hs := by first | rfl | kernel_rfl); (with_reducible refine rAttrN ?_; refine nL ‹_› (by kernel_rfl) (mm1 _ _ _) (mm2 _ _ _ _) ?_; refine oGetAdd ‹_› (Cx.lat c' (mm0 _ _)) fun b' s' c9 => ?_; (try clear c'); rename Cx _ _ _ => c'; refine sL ‹_› (by kernel_rfl) (mm2 _ _ _ _) (pv3 _ _ _ _ _) (pt2 _ _ _ _) fun s' c9 => ?_; (try clear c'); rename Cx _ _ _ => c'; refine seqNext ‹_› ?_; refine seqCons fun Q9 hQ9 => ?_; refine rSw2 (by with_unfolding_all rfl) (by with_unfolding_all rfl) ?_; refine Tuple_ ?_; refine rMore (by with_unfolding_all rfl) ?_; refine kInt ‹_› fun t' s' c9 => ?_; (try clear c'); rename Cx _ _ _ => c'; refine rMore (by with_unfolding_all rfl) ?_; refine rCallN ?_; refine nB ‹_› ‹_› (by kernel_rfl) (by rfl) (by rfl) (mm0 _ _) ?_; refine blV ‹_› (Ats.cons (AtV.loc (by kernel_rfl) (mm2 _ _ _ _) (mm0 _ _)) Ats.nil) ?_; refine oLenL ‹_› (Cx.old ‹_› ‹_›) (by first | assumption | wtm_at "zz_sz") fun t' s' c9 => ?_; (try clear c'); rename Cx _ _ _ => c'; refine spliced_none ?_; refine oNewT ‹_› (by exact Nat.le_of_ble_eq_true rfl) fun b' s' c9 => ?_; (try clear c'); rename Cx _ _ _ => c'; refine oUnp2 ‹_› (Room.handled ‹_›) (mm0 _ _) fun s' c9 => ?_; (try clear c'); rename Cx _ _ _ => c'; refine rSw2b ?_; refine sL ‹_› (by kernel_rfl) (mm3 _ _ _ _ _) (pv5 _ _ _ _ _ _ _) (pt3 _ _ _ _ _) fun s' c9 => ?_; (try clear c'); rename Cx _ _ _ => c'; refine sL ‹_› (by kernel_rfl) (mm3 _ _ _ _ _) (pv4 _ _ _ _ _ _) (pt3 _ _ _ _ _) fun s' c9 => ?_; (try clear c'); rename Cx _ _ _ => c'; refine seqNext ‹_› ?_; refine seqCons fun Q9 hQ9 => ?_; refine wpAny_While ?_))
    obtain ⟨R, U, i0, tn, c'⟩ : ∃ R U i0 tn, Cx s s' [(U, Rs.obj (addObj R)), (R, Rs.lst []), (L, Rs.ns [("inp", some (.ref l)), ("STAR", some (.ref star)), ("res", some (.ref R)), ("add", some (.ref U)), ("i", some (.int 0 i0)), ("n", some (.int vs.length tn)), ("fixed", none)])] := ⟨_, _, _, _, c'.drop (List.sublist_cons_self ..)⟩
    refine whileX (fun n T => Ex4 fun (i : Nat) (P : List (List Nat)) (rv : List Value) (ti : Tok) => An7 (i ≤ ps.length) (n = ps.length - i) (P.flatten ++ ((somes (ps.drop i)).flatten ++ jGo ps.length (behind (ps.drop i))) = tot) (StrsAre rv (P.map S)) (P.length ≤ i) ((∀ x ∈ P, x.length ≤ 20)) (T = [(U, Rs.obj (addObj R)), (R, Rs.lst rv), (L, Rs.ns [("inp", some (.ref l)), ("STAR", some (.ref star)), ("res", some (.ref R)), ("add", some (.ref U)), ("i", some (.int i ti)), ("n", some (.int vs.length tn)), ("fixed", none)])]))
      (fun T => Ex4 fun (i : Nat) (P : List (List Nat)) (rv : List Value) (ti : Tok) => An7 (i ≤ ps.length) ((i < ps.length → ps[i]? = some none)) (P.flatten ++ jGo ps.length (ps.drop i) = tot) (StrsAre rv (P.map S)) (P.length ≤ i) ((∀ x ∈ P, x.length ≤ 20)) (T = [(U, Rs.obj (addObj R)), (R, Rs.lst rv), (L, Rs.ns [("inp", some (.ref l)), ("STAR", some (.ref star)), ("res", some (.ref R)), ("add", some (.ref U)), ("i", some (.int i ti)), ("n", some (.int vs.length tn)), ("fixed", none)])]))
      ?_ ?_ _ ⟨0, [], [], _, Nat.zero_le _, rfl, hJ, .nil, Nat.le_refl _, (fun _ h => nomatch h), rfl⟩ (by simpa using c')
    · intro n T s₂ h70 c Q8 E8 hQ8 hE8
      obtain ⟨i, P, rv, ti, hi, hn, hP, hrv, hPl, hPb, rfl⟩ := h70
      have hrvl : rv.length = P.length := by simpa using saLen hrv
      clear c'
      have c' := c
      clear c
      (with_reducible refine isTrue_and ?_; refine evI ‹_› (AtI.val (AtV.loc (by kernel_rfl) (mm2 _ _ _ _) (mm4 _ _ _ _ _ _))) (AtI.val (AtV.loc (by kernel_rfl) (mm2 _ _ _ _) (mm5 _ _ _ _ _ _ _))) (by constructor) (by with_unfolding_all rfl) fun s' c9 => ?_; (try clear c'); rename Cx _ _ _ => c')
      by_cases hlt : i < ps.length
      · first | refine iteDT (by (first | lia | omega)) ?_ | rw [decide_eq_true (by (first | lia | omega))]
        (with_reducible refine isTrue_and ?_; refine wpAny_isTrue_Compare1 ?_; refine evSub ‹_› (AtV.loc (by kernel_rfl) (mm2 _ _ _ _) (mm0 _ _)) (AtI.val (AtV.loc (by kernel_rfl) (mm2 _ _ _ _) (mm4 _ _ _ _ _ _))) fun t' s' c9 => ?_; (try clear c'); rename Cx _ _ _ => c')
        have hdr := List.drop_eq_getElem_cons hlt
        have hge := List.getElem?_eq_getElem hlt
        cases hpi : ps[i] with
        | none =>
          rw [hpi] at hge hdr
          refine oItemL (c'.old hl) (by (first | lia | omega)) (by (first | lia | omega)) (by simpa using paNone hps hge) rfl ?_
          (with_reducible refine nL ‹_› (by kernel_rfl) (mm2 _ _ _ _) (mm1 _ _ _) ?_; refine wpAny_isNot_ref_self ?_; refine wpAny_truthy_bool ?_; refine iteF ?_; refine iteF ?_)
          refine ⟨_, ⟨i, P, rv, ti, hi, fun _ => hge, ?_, hrv, hPl, hPb, rfl⟩, c'⟩
          rw [hdr] at hP ⊢
          exact hP
        | some x =>
          rw [hpi] at hge hdr
          obtain ⟨tx, hvx⟩ := paSome hps hge
          refine oItemL (c'.old hl) (by (first | lia | omega)) (by (first | lia | omega)) (by simpa using hvx) rfl ?_
          ((with_reducible refine nL ‹_› (by kernel_rfl) (mm2 _ _ _ _) (mm1 _ _ _) ?_; refine oIsNotS ?_; refine wpAny_truthy_bool ?_; refine iteT ?_; refine isTrue_and_nil ?_; refine iteT ?_; refine seqCons fun Q9 hQ9 => ?_); refine wpAny_Expr_any ?_ (hi := by first | rfl | kernel_rfl) (hs := by first | rfl | kernel_rfl); (with_reducible refine rCallN ?_; refine nL ‹_› (by kernel_rfl) (mm2 _ _ _ _) (mm3 _ _ _ _ _) ?_; refine rAddC ‹_› (mm0 _ _) (by with_unfolding_all rfl) ?_; refine rMore (by with_unfolding_all rfl) ?_; refine evSub ‹_› (AtV.loc (by kernel_rfl) (mm2 _ _ _ _) (mm0 _ _)) (AtI.val (AtV.loc (by kernel_rfl) (mm2 _ _ _ _) (mm4 _ _ _ _ _ _))) fun t' s' c9 => ?_; (try clear c'); rename Cx _ _ _ => c'))
          refine oItemL (c'.old hl) (by (first | lia | omega)) (by (first | lia | omega)) (by simpa using hvx) rfl ?_
          (with_reducible refine spliced_none ?_; refine ⟨Cx.obj ‹_› (mm0 _ _), ?_⟩; refine oAddC ‹_› (mm0 _ _) (mm1 _ _ _) (by first | assumption | wtm_at "zz_sz") (pt1 _ _ _) fun s' c9 => ?_; (try clear c'); rename Cx _ _ _ => c'; refine seqNext ‹_› ?_; refine augI (q := ⟨0, 0, 0, 0⟩) ‹_› (AtI.val (AtV.loc (by kernel_rfl) (mm2 _ _ _ _) (mm4 _ _ _ _ _ _))) AtI.const fun t' => ?_; refine Sto.loc (by kernel_rfl) (mm2 _ _ _ _) (pv4 _ _ _ _ _ _) (pt2 _ _ _ _) ?_; intro s' c9; (try clear c'); rename Cx _ _ _ => c'; refine wpAny_execs_nil ?_; refine lfNext ‹_› ?_)
          refine ⟨_, _, ?_, ⟨i + 1, P ++ [x], _, _, hlt, rfl, ?_, saApp1 hrv, by simp; (first | lia | omega), ?_, rfl⟩, c'⟩
          · (first | lia | omega)
          · rw [hdr] at hP
            rw [← hP]
            simp [somes, behind]
          · intro y hy
            rcases List.mem_append.mp hy with hy | hy
            · exact hPb y hy
            · rw [List.mem_singleton.mp hy]; exact hb x (List.mem_of_getElem? hge)
      · first | refine iteDF (by (first | lia | omega)) ?_ | rw [decide_eq_false (by (first | lia | omega))]
        (with_reducible refine iteF ?_)
        refine ⟨_, ⟨i, P, rv, ti, hi, fun h => absurd h hlt, ?_, hrv, hPl, hPb, rfl⟩, c'⟩
        rw [List.drop_of_length_le (by (first | lia | omega))] at hP ⊢
        exact hP
    · rintro T s₂ ⟨i, P, rv, ti, hi, hat, hP, hrv, hPl, hPb, rfl⟩ c
      clear c'
      have c' := c
      clear c
      (with_reducible refine seqNext ‹_› ?_; refine seqCons fun Q9 hQ9 => ?_; refine wpAny_While ?_)
      refine whileX (fun n T => Ex6 fun (fu i : Nat) (P : List (List Nat)) (rv : List Value) (ti : Tok) (o : Option Value) => An9 (i ≤ ps.length) (n = ps.length - i) (ps.length - i ≤ fu) ((i < ps.length → ps[i]? = some none)) (P.flatten ++ jGo fu (ps.drop i) = tot) (StrsAre rv (P.map S)) (P.length ≤ i) ((∀ x ∈ P, x.length ≤ 1000)) (T = [(U, Rs.obj (addObj R)), (R, Rs.lst rv), (L, Rs.ns [("inp", some (.ref l)), ("STAR", some (.ref star)), ("res", some (.ref R)), ("add", some (.ref U)), ("i", some (.int i ti)), ("n", some (.int vs.length tn)), ("fixed", o)])]))
        (fun T => Ex5 fun (i : Nat) (P : List (List Nat)) (rv : List Value) (ti : Tok) (o : Option Value) => An6 (i = ps.length) (P.flatten = tot) (StrsAre rv (P.map S)) (P.length ≤ i) ((∀ x ∈ P, x.length ≤ 1000)) (T = [(U, Rs.obj (addObj R)), (R, Rs.lst rv), (L, Rs.ns [("inp", some (.ref l)), ("STAR", some (.ref star)), ("res", some (.ref R)), ("add", some (.ref U)), ("i", some (.int i ti)), ("n", some (.int vs.length tn)), ("fixed", o)])]))
        ?_ ?_ _ ⟨ps.length, i, P, rv, ti, none, hi, rfl, by (first | lia | omega), hat, hP, hrv, hPl, fun x hx => by have := hPb x hx; (first | lia | omega), rfl⟩ c'
      · intro n T s₂ h70 c Q8 E8 hQ8 hE8
        obtain ⟨fu, i, P, rv, ti, o, hi, hn, hfu, hat, hP, hrv, hPl, hPb, rfl⟩ := h70
        have hrvl : rv.length = P.length := by simpa using saLen hrv
        clear c'
        have c' := c
        clear c
        (with_reducible refine evI ‹_› (AtI.val (AtV.loc (by kernel_rfl) (mm2 _ _ _ _) (mm4 _ _ _ _ _ _))) (AtI.val (AtV.loc (by kernel_rfl) (mm2 _ _ _ _) (mm5 _ _ _ _ _ _ _))) (by constructor) (by with_unfolding_all rfl) fun s' c9 => ?_; (try clear c'); rename Cx _ _ _ => c')
        by_cases hlt : i < ps.length
        · first | refine iteDT (by (first | lia | omega)) ?_ | rw [decide_eq_true (by (first | lia | omega))]
          have hge := hat hlt
          (with_reducible refine seqCons fun Q9 hQ9 => ?_; refine wpAny_Assert_holds ?_; refine wpAny_isTrue_Compare1 ?_; refine evSub ‹_› (AtV.loc (by kernel_rfl) (mm2 _ _ _ _) (mm0 _ _)) (AtI.val (AtV.loc (by kernel_rfl) (mm2 _ _ _ _) (mm4 _ _ _ _ _ _))) fun t' s' c9 => ?_; (try clear c'); rename Cx _ _ _ => c')
          refine oItemL (c'.old hl) (by (first | lia | omega)) (by (first | lia | omega)) (by simpa using paNone hps hge) rfl ?_
          (with_reducible refine nL ‹_› (by kernel_rfl) (mm2 _ _ _ _) (mm1 _ _ _) ?_; refine wpAny_is_ref_self ?_; refine wpAny_truthy_bool ?_; refine andT ?_; refine seqNext ‹_› ?_; refine augI (q := ⟨0, 0, 0, 0⟩) ‹_› (AtI.val (AtV.loc (by kernel_rfl) (mm2 _ _ _ _) (mm4 _ _ _ _ _ _))) AtI.const fun t' => ?_; refine Sto.loc (by kernel_rfl) (mm2 _ _ _ _) (pv4 _ _ _ _ _ _) (pt2 _ _ _ _) ?_; intro s' c9; (try clear c'); rename Cx _ _ _ => c'; refine seqCons fun Q9 hQ9 => ?_; refine wpAny_If ?_; refine evI ‹_› (AtI.val (AtV.loc (by kernel_rfl) (mm2 _ _ _ _) (mm4 _ _ _ _ _ _))) (AtI.val (AtV.loc (by kernel_rfl) (mm2 _ _ _ _) (mm5 _ _ _ _ _ _ _))) (by constructor) (by with_unfolding_all rfl) fun s' c9 => ?_; (try clear c'); rename Cx _ _ _ => c')
          obtain ⟨fu, rfl⟩ : ∃ k, fu = k + 1 := ⟨fu - 1, by (first | lia | omega)⟩
          have hdr : ps.drop i = none :: ps.drop (i + 1) := by rw [List.drop_eq_getElem_cons hlt, (List.getElem?_eq_some_iff.mp hge).2]
          rw [hdr, jGo] at hP
          by_cases hend : i + 1 = ps.length
          · first | refine iteDT (by (first | lia | omega)) ?_ | rw [decide_eq_true (by (first | lia | omega))]
            rw [if_pos (List.drop_of_length_le (by (first | lia | omega)))] at hP
            ((with_reducible refine seqCons fun Q9 hQ9 => ?_); refine wpAny_Expr_any ?_ (hi := by first | rfl | kernel_rfl) (hs := by first | rfl | kernel_rfl); (with_reducible refine rCallN ?_; refine nL ‹_› (by kernel_rfl) (mm2 _ _ _ _) (mm3 _ _ _ _ _) ?_; refine rAddC ‹_› (mm0 _ _) (by with_unfolding_all rfl) ?_; refine rMore (by with_unfolding_all rfl) ?_; refine kStrS q10 ‹_› fun t' s' c9 => ?_; (try clear c'); rename Cx _ _ _ => c'; refine spliced_none ?_; refine ⟨Cx.obj ‹_› (mm0 _ _), ?_⟩; refine oAddC ‹_› (mm0 _ _) (mm1 _ _ _) (by first | assumption | wtm_at "zz_sz") (pt1 _ _ _) fun s' c9 => ?_; (try clear c'); rename Cx _ _ _ => c'; refine seqNext ‹_› ?_; refine seqCons fun Q9 hQ9 => ?_; refine wpAny_Break ?_; refine seqBrk ‹_› ?_; refine seqBrk ‹_› ?_; refine lfBrk ‹_› ?_; refine seqNext ‹_› ?_; refine seqCons fun Q9 hQ9 => ?_; refine wpAny_Assert_holds ?_; refine evI ‹_› (AtI.val (AtV.loc (by kernel_rfl) (mm2 _ _ _ _) (mm4 _ _ _ _ _ _))) (AtI.val (AtV.loc (by kernel_rfl) (mm2 _ _ _ _) (mm5 _ _ _ _ _ _ _))) (by constructor) (by with_unfolding_all rfl) fun s' c9 => ?_; (try clear c'); rename Cx _ _ _ => c'))
            first | refine iteDT (by (first | lia | omega)) ?_ | rw [decide_eq_true (by (first | lia | omega))]
            ((with_reducible refine andT ?_; refine seqNext ‹_› ?_; refine seqCons fun Q9 hQ9 => ?_); refine wpAny_Assign_Name ?_ (hs := by first | rfl | kernel_rfl); (with_reducible refine rMeth (by with_unfolding_all rfl) ?_; refine kStrS q0 ‹_› fun t' s' c9 => ?_; (try clear c'); rename Cx _ _ _ => c'; refine gmJoin ?_; refine rM1s (by with_unfolding_all rfl) ?_; refine rMore (by with_unfolding_all rfl) ?_; refine nL ‹_› (by kernel_rfl) (mm2 _ _ _ _) (mm2 _ _ _ _) ?_; refine spliced_none ?_))
            have hPb2 : ∀ x ∈ P ++ [[46, 42]], x.length ≤ 1000 := by
                intro x hx
                rcases List.mem_append.mp hx with hx | hx
                · exact hPb x hx
                · rw [List.mem_singleton.mp hx]; decide
            refine oJoin c' (c'.lat ((mm1 _ _ _))) (saApp1 hrv) 100 1000 (by simp; (first | lia | omega)) hPb2 (by decide) (by decide) (fun t s' c' => ?_)
            rw [joinL_nil]
            have hfl2 : (P ++ [[46, 42]]).flatten.length ≤ 100000 := Nat.le_trans (flat_len hPb2) (Nat.le_trans (Nat.mul_le_mul_right 1000 (show (P ++ [[46, 42]]).length ≤ 100 by simp; (first | lia | omega))) (by decide))
            have hfl : (P ++ [[46, 42]]).flatten.length ≤ sizeLine := by unfold sizeLine; (first | lia | omega)
            ((with_reducible refine sL ‹_› (by kernel_rfl) (mm2 _ _ _ _) (pv2 _ _ _ _) (pt2 _ _ _ _) fun s' c9 => ?_; (try clear c'); rename Cx _ _ _ => c'; refine seqNext ‹_› ?_; refine seqCons fun Q9 hQ9 => ?_; refine wpAny_Return_some ?_; refine rJoined ?_; refine rPart ?_; refine kStrS q7 ‹_› fun t' s' c9 => ?_; (try clear c'); rename Cx _ _ _ => c'; refine ⟨_, _, rfl, (by first | assumption | wtm_at "zz_sz" | omega), ?_⟩; refine rPart ?_; refine rFmt ?_; refine nL ‹_› (by kernel_rfl) (mm2 _ _ _ _) (mm2 _ _ _ _) ?_; refine oFmt ‹_› (by first | assumption | wtm_at "zz_sz" | omega) fun t' s' c9 => ?_; (try clear c'); rename Cx _ _ _ => c'; refine ⟨_, _, rfl, (by first | assumption | wtm_at "zz_sz" | omega), ?_⟩; refine rPartE ?_; refine rPart ?_; refine kStrS q8 ‹_› fun t' s' c9 => ?_; (try clear c'); rename Cx _ _ _ => c'; refine ⟨_, _, rfl, (by first | assumption | wtm_at "zz_sz" | omega), ?_⟩; refine rPart0 ‹_› (by first | assumption | wtm_at "zz_sz" | omega) fun t' s' c9 => ?_; (try clear c'); rename Cx _ _ _ => c'; refine seqRet ‹_› ?_; refine finRet ‹_› ?_); dsimp only)
            have hfin : joinF ps = [40, 63, 115, 58] ++ (P ++ [[46, 42]]).flatten ++ [41, 92, 90] := by unfold joinF; rw [hJ, ← hP]; simp [List.flatten_append]
            exact hfin ▸ hQ _ _ c'.done
          · first | refine iteDF (by (first | lia | omega)) ?_ | rw [decide_eq_false (by (first | lia | omega))]
            have hlt2 : i + 1 < ps.length := by (first | lia | omega)
            rw [if_neg (by intro q; have := congrArg List.length q; simp at this; (first | lia | omega))] at hP
            obtain ⟨x, hpx⟩ : ∃ x, ps[i + 1]? = some (some x) := by
              have h1 := List.getElem?_eq_getElem hlt2
              cases h2 : ps[i + 1] with
              | none => rw [h2] at h1; exact absurd h1 (hadj i hge)
              | some x => exact ⟨x, by rw [h1, h2]⟩
            obtain ⟨tx, hvx⟩ := paSome hps hpx
            (with_reducible refine wpAny_execs_nil ?_; refine seqNext ‹_› ?_; refine seqCons fun Q9 hQ9 => ?_; refine wpAny_Assert_holds ?_; refine wpAny_isTrue_Compare1 ?_; refine evSub ‹_› (AtV.loc (by kernel_rfl) (mm2 _ _ _ _) (mm0 _ _)) (AtI.val (AtV.loc (by kernel_rfl) (mm2 _ _ _ _) (mm4 _ _ _ _ _ _))) fun t' s' c9 => ?_; (try clear c'); rename Cx _ _ _ => c')
            refine oItemL (c'.old hl) (by (first | lia | omega)) (by (first | lia | omega)) (by rw [show ((i : Int) + 1).toNat = i + 1 by (first | lia | omega)]; exact hvx) rfl ?_
            ((with_reducible refine nL ‹_› (by kernel_rfl) (mm2 _ _ _ _) (mm1 _ _ _) ?_; refine oIsNotS ?_; refine wpAny_truthy_bool ?_; refine andT ?_; refine seqNext ‹_› ?_; refine seqCons fun Q9 hQ9 => ?_); refine wpAny_Assign_Name ?_ (hs := by first | rfl | kernel_rfl); (with_reducible refine List_ ?_; refine spliced_none ?_; refine oNewL ‹_› (by exact Nat.le_of_ble_eq_true rfl) fun b' s' c9 => ?_; (try clear c'); rename Cx _ _ _ => c'; refine sL ‹_› (by kernel_rfl) (mm3 _ _ _ _ _) (pv6 _ _ _ _ _ _ _ _) (pt3 _ _ _ _ _) fun s' c9 => ?_; (try clear c'); rename Cx _ _ _ => c'; refine seqNext ‹_› ?_; refine seqCons fun Q9 hQ9 => ?_; refine wpAny_While ?_))
            generalize b' = B at *
            refine whileX (fun m T => Ex4 fun (j : Nat) (fx : List (List Nat)) (fv : List Value) (tj : Tok) => An7 (j ≤ ps.length) (j = i + 1 + fx.length) (m = ps.length - j) (fx ++ somes (ps.drop j) = somes (ps.drop (i + 1))) (behind (ps.drop j) = behind (ps.drop (i + 1))) (StrsAre fv (fx.map S)) (T = [(B, Rs.lst fv), (U, Rs.obj (addObj R)), (R, Rs.lst rv), (L, Rs.ns [("inp", some (.ref l)), ("STAR", some (.ref star)), ("res", some (.ref R)), ("add", some (.ref U)), ("i", some (.int j tj)), ("n", some (.int vs.length tn)), ("fixed", some (.ref B))])]))
              (fun T => Ex4 fun (j : Nat) (fx : List (List Nat)) (fv : List Value) (tj : Tok) => An7 (j ≤ ps.length) (j = i + 1 + fx.length) ((j < ps.length → ps[j]? = some none)) (fx = somes (ps.drop (i + 1))) (ps.drop j = behind (ps.drop (i + 1))) (StrsAre fv (fx.map S)) (T = [(B, Rs.lst fv), (U, Rs.obj (addObj R)), (R, Rs.lst rv), (L, Rs.ns [("inp", some (.ref l)), ("STAR", some (.ref star)), ("res", some (.ref R)), ("add", some (.ref U)), ("i", some (.int j tj)), ("n", some (.int vs.length tn)), ("fixed", some (.ref B))])]))
              ?_ ?_ _ ⟨i + 1, [], [], _, by (first | lia | omega), rfl, rfl, rfl, rfl, .nil, rfl⟩ c'
            · intro m T s₃ h70 c Q8 E8 hQ8 hE8
              obtain ⟨j, fx, fv, tj, hj, hjl, hm, hfx, hbe, hfv, rfl⟩ := h70
              have hfvl : fv.length = fx.length := by simpa using saLen hfv
              clear c'
              have c' := c
              clear c
              (with_reducible refine isTrue_and ?_; refine evI ‹_› (AtI.val (AtV.loc (by kernel_rfl) (mm3 _ _ _ _ _) (mm4 _ _ _ _ _ _))) (AtI.val (AtV.loc (by kernel_rfl) (mm3 _ _ _ _ _) (mm5 _ _ _ _ _ _ _))) (by constructor) (by with_unfolding_all rfl) fun s' c9 => ?_; (try clear c'); rename Cx _ _ _ => c')
              by_cases hjlt : j < ps.length
              · first | refine iteDT (by (first | lia | omega)) ?_ | rw [decide_eq_true (by (first | lia | omega))]
                (with_reducible refine isTrue_and ?_; refine wpAny_isTrue_Compare1 ?_; refine evSub ‹_› (AtV.loc (by kernel_rfl) (mm3 _ _ _ _ _) (mm0 _ _)) (AtI.val (AtV.loc (by kernel_rfl) (mm3 _ _ _ _ _) (mm4 _ _ _ _ _ _))) fun t' s' c9 => ?_; (try clear c'); rename Cx _ _ _ => c')
                have hdj := List.drop_eq_getElem_cons hjlt
                have hgj := List.getElem?_eq_getElem hjlt
                cases hpj : ps[j] with
                | none =>
                  rw [hpj] at hgj hdj
                  refine oItemL (c'.old hl) (by (first | lia | omega)) (by (first | lia | omega)) (by simpa using paNone hps hgj) rfl ?_
                  (with_reducible refine nL ‹_› (by kernel_rfl) (mm3 _ _ _ _ _) (mm1 _ _ _) ?_; refine wpAny_isNot_ref_self ?_; refine wpAny_truthy_bool ?_; refine iteF ?_; refine iteF ?_)
                  rw [hdj] at hfx hbe
                  exact ⟨_, ⟨j, fx, fv, tj, hj, hjl, fun _ => hgj, by simpa [somes] using hfx, by rw [hdj]; exact hbe, hfv, rfl⟩, c'⟩
                | some y =>
                  rw [hpj] at hgj hdj
                  obtain ⟨ty, hvy⟩ := paSome hps hgj
                  refine oItemL (c'.old hl) (by (first | lia | omega)) (by (first | lia | omega)) (by simpa using hvy) rfl ?_
                  ((with_reducible refine nL ‹_› (by kernel_rfl) (mm3 _ _ _ _ _) (mm1 _ _ _) ?_; refine oIsNotS ?_; refine wpAny_truthy_bool ?_; refine iteT ?_; refine isTrue_and_nil ?_; refine iteT ?_; refine seqCons fun Q9 hQ9 => ?_); refine wpAny_Expr_any ?_ (hi := by first | rfl | kernel_rfl) (hs := by first | rfl | kernel_rfl); (with_reducible refine rMeth (by with_unfolding_all rfl) ?_; refine nL ‹_› (by kernel_rfl) (mm3 _ _ _ _ _) (mm6 _ _ _ _ _ _ _ _) ?_; refine gmApp (Cx.lat c' (mm0 _ _)) ?_; refine rM1s (by with_unfolding_all rfl) ?_; refine rMore (by with_unfolding_all rfl) ?_; refine evSub ‹_› (AtV.loc (by kernel_rfl) (mm3 _ _ _ _ _) (mm0 _ _)) (AtI.val (AtV.loc (by kernel_rfl) (mm3 _ _ _ _ _) (mm4 _ _ _ _ _ _))) fun t' s' c9 => ?_; (try clear c'); rename Cx _ _ _ => c'))
                  refine oItemL (c'.old hl) (by (first | lia | omega)) (by (first | lia | omega)) (by simpa using hvy) rfl ?_
                  (with_reducible refine spliced_none ?_; refine oApp ‹_› (mm0 _ _) (pt0 _ _) (by first | assumption | wtm_at "zz_sz") fun s' c9 => ?_; (try clear c'); rename Cx _ _ _ => c'; refine seqNext ‹_› ?_; refine augI (q := ⟨0, 0, 0, 0⟩) ‹_› (AtI.val (AtV.loc (by kernel_rfl) (mm3 _ _ _ _ _) (mm4 _ _ _ _ _ _))) AtI.const fun t' => ?_; refine Sto.loc (by kernel_rfl) (mm3 _ _ _ _ _) (pv4 _ _ _ _ _ _) (pt3 _ _ _ _ _) ?_; intro s' c9; (try clear c'); rename Cx _ _ _ => c'; refine wpAny_execs_nil ?_; refine lfNext ‹_› ?_)
                  rw [hdj] at hfx hbe
                  exact ⟨_, _, by (first | lia | omega), ⟨j + 1, fx ++ [y], _, _, hjlt, by simp; (first | lia | omega), rfl, by simpa [somes] using hfx, hbe, saApp1 hfv, rfl⟩, c'⟩
              · first | refine iteDF (by (first | lia | omega)) ?_ | rw [decide_eq_false (by (first | lia | omega))]
                (with_reducible refine iteF ?_)
                have hd0 : ps.drop j = [] := List.drop_of_length_le (by (first | lia | omega))
                rw [hd0] at hfx hbe
                exact ⟨_, ⟨j, fx, fv, tj, hj, hjl, fun h => absurd h hjlt, by simpa [somes] using hfx, by rw [hd0]; exact hbe, hfv, rfl⟩, c'⟩
            · rintro T s₃ ⟨j, fx, fv, tj, hj, hjl, hjn, hfx, hbe, hfv, rfl⟩ c
              have hfvl : fv.length = fx.length := by simpa using saLen hfv
              have hfb : ∀ x ∈ fx, x.length ≤ 20 := by rw [hfx]; exact somes_len fun x hx => hb x (List.mem_of_mem_drop hx)
              have hf1 : 1 ≤ fx.length := by
                rw [hfx, List.drop_eq_getElem_cons hlt2, (List.getElem?_eq_some_iff.mp hpx).2]; simp [somes]
              have hff : fx.flatten.length ≤ 400 := Nat.le_trans (flat_len hfb) (Nat.mul_le_mul_right 20 (show fx.length ≤ 20 by (first | lia | omega)))
              have hffz : fx.flatten.length ≤ sizeLine := by unfold sizeLine; (first | lia | omega)
              rw [← hfx, ← hbe] at hP
              clear c'
              have c' := c
              clear c
              ((with_reducible refine seqNext ‹_› ?_; refine seqCons fun Q9 hQ9 => ?_); refine wpAny_Assign_Name ?_ (hs := by first | rfl | kernel_rfl); (with_reducible refine rMeth (by with_unfolding_all rfl) ?_; refine kStrS q0 ‹_› fun t' s' c9 => ?_; (try clear c'); rename Cx _ _ _ => c'; refine gmJoin ?_; refine rM1s (by with_unfolding_all rfl) ?_; refine rMore (by with_unfolding_all rfl) ?_; refine nL ‹_› (by kernel_rfl) (mm3 _ _ _ _ _) (mm6 _ _ _ _ _ _ _ _) ?_; refine spliced_none ?_))
              refine oJoin c' (c'.lat ((mm0 _ _))) hfv 100 20 (by (first | lia | omega)) hfb (by decide) (by decide) (fun t s' c' => ?_)
              rw [joinL_nil]
              (with_reducible refine sL ‹_› (by kernel_rfl) (mm3 _ _ _ _ _) (pv6 _ _ _ _ _ _ _ _) (pt3 _ _ _ _ _) fun s' c9 => ?_; (try clear c'); rename Cx _ _ _ => c'; refine seqNext ‹_› ?_; refine seqCons fun Q9 hQ9 => ?_; refine wpAny_If ?_; refine evI ‹_› (AtI.val (AtV.loc (by kernel_rfl) (mm3 _ _ _ _ _) (mm4 _ _ _ _ _ _))) (AtI.val (AtV.loc (by kernel_rfl) (mm3 _ _ _ _ _) (mm5 _ _ _ _ _ _ _))) (by constructor) (by with_unfolding_all rfl) fun s' c9 => ?_; (try clear c'); rename Cx _ _ _ => c')
              by_cases hje : j = ps.length
              · first | refine iteDT (by (first | lia | omega)) ?_ | rw [decide_eq_true (by (first | lia | omega))]
                have hd0 : ps.drop j = [] := List.drop_of_length_le (by (first | lia | omega))
                rw [hd0, if_pos rfl] at hP
                ((with_reducible refine seqCons fun Q9 hQ9 => ?_); refine wpAny_Expr_any ?_ (hi := by first | rfl | kernel_rfl) (hs := by first | rfl | kernel_rfl); (with_reducible refine rCallN ?_; refine nL ‹_› (by kernel_rfl) (mm3 _ _ _ _ _) (mm3 _ _ _ _ _) ?_; refine rAddC ‹_› (mm1 _ _ _) (by with_unfolding_all rfl) ?_; refine rMore (by with_unfolding_all rfl) ?_; refine kStrS q10 ‹_› fun t' s' c9 => ?_; (try clear c'); rename Cx _ _ _ => c'; refine spliced_none ?_; refine ⟨Cx.obj ‹_› (mm1 _ _ _), ?_⟩; refine oAddC ‹_› (mm1 _ _ _) (mm2 _ _ _ _) (by first | assumption | wtm_at "zz_sz") (pt2 _ _ _ _) fun s' c9 => ?_; (try clear c'); rename Cx _ _ _ => c'; refine seqNext ‹_› ?_; refine seqCons fun Q9 hQ9 => ?_); refine wpAny_Expr_any ?_ (hi := by first | rfl | kernel_rfl) (hs := by first | rfl | kernel_rfl); (with_reducible refine rCallN ?_; refine nL ‹_› (by kernel_rfl) (mm3 _ _ _ _ _) (mm3 _ _ _ _ _) ?_; refine rAddC ‹_› (mm1 _ _ _) (by with_unfolding_all rfl) ?_; refine rMore (by with_unfolding_all rfl) ?_; refine nL ‹_› (by kernel_rfl) (mm3 _ _ _ _ _) (mm6 _ _ _ _ _ _ _ _) ?_; refine spliced_none ?_; refine ⟨Cx.obj ‹_› (mm1 _ _ _), ?_⟩; refine oAddC ‹_› (mm1 _ _ _) (mm2 _ _ _ _) (by first | assumption | wtm_at "zz_sz") (pt2 _ _ _ _) fun s' c9 => ?_; (try clear c'); rename Cx _ _ _ => c'; refine seqNext ‹_› ?_; refine wpAny_execs_nil ?_; refine seqNext ‹_› ?_; refine wpAny_execs_nil ?_; refine lfNext ‹_› ?_))
                refine ⟨_, _, ?_, ⟨fu, j, P ++ [[46, 42]] ++ [fx.flatten], _, _, _, hj, rfl, by (first | lia | omega), hjn, ?_, saApp1 (saApp1 hrv), by simp; (first | lia | omega), ?_, rfl⟩, c'.drop (List.sublist_cons_self ..)⟩
                · (first | lia | omega)
                · rw [hd0, ← hP]; cases fu <;> simp [jGo]
                · intro x hx
                  simp only [List.mem_append, List.mem_singleton] at hx
                  rcases hx with (hx | rfl) | rfl
                  · exact hPb x hx
                  · decide
                  · (first | lia | omega)
              · first | refine iteDF (by (first | lia | omega)) ?_ | rw [decide_eq_false (by (first | lia | omega))]
                rw [if_neg (by intro q; have := congrArg List.length q; simp at this; (first | lia | omega))] at hP
                ((with_reducible refine seqCons fun Q9 hQ9 => ?_); refine wpAny_Expr_any ?_ (hi := by first | rfl | kernel_rfl) (hs := by first | rfl | kernel_rfl); (with_reducible refine rCallN ?_; refine nL ‹_› (by kernel_rfl) (mm3 _ _ _ _ _) (mm3 _ _ _ _ _) ?_; refine rAddC ‹_› (mm1 _ _ _) (by with_unfolding_all rfl) ?_; refine rMore (by with_unfolding_all rfl) ?_; refine rJoined ?_; refine rPart ?_; refine kStrS q9 ‹_› fun t' s' c9 => ?_; (try clear c'); rename Cx _ _ _ => c'; refine ⟨_, _, rfl, (by first | assumption | wtm_at "zz_sz" | omega), ?_⟩; refine rPart ?_; refine rFmt ?_; refine nL ‹_› (by kernel_rfl) (mm3 _ _ _ _ _) (mm6 _ _ _ _ _ _ _ _) ?_; refine oFmt ‹_› (by first | assumption | wtm_at "zz_sz" | omega) fun t' s' c9 => ?_; (try clear c'); rename Cx _ _ _ => c'; refine ⟨_, _, rfl, (by first | assumption | wtm_at "zz_sz" | omega), ?_⟩; refine rPartE ?_; refine rPart ?_; refine kStrS q11 ‹_› fun t' s' c9 => ?_; (try clear c'); rename Cx _ _ _ => c'; refine ⟨_, _, rfl, (by first | assumption | wtm_at "zz_sz" | omega), ?_⟩; refine rPart0 ‹_› (by first | assumption | wtm_at "zz_sz" | omega) fun t' s' c9 => ?_; (try clear c'); rename Cx _ _ _ => c'; refine spliced_none ?_; refine ⟨Cx.obj ‹_› (mm1 _ _ _), ?_⟩; refine oAddC ‹_› (mm1 _ _ _) (mm2 _ _ _ _) (by first | assumption | wtm_at "zz_sz") (pt2 _ _ _ _) fun s' c9 => ?_; (try clear c'); rename Cx _ _ _ => c'; refine seqNext ‹_› ?_; refine wpAny_execs_nil ?_; refine seqNext ‹_› ?_; refine wpAny_execs_nil ?_; refine lfNext ‹_› ?_))
                refine ⟨_, _, ?_, ⟨fu, j, P ++ [[40, 63, 62, 46, 42, 63] ++ fx.flatten ++ [41]], _, _, _, hj, rfl, by (first | lia | omega), hjn, ?_, saApp1 hrv, by simp; (first | lia | omega), ?_, rfl⟩, c'.drop (List.sublist_cons_self ..)⟩
                · (first | lia | omega)
                · rw [← hP]; simp
                · intro x hx
                  rcases List.mem_append.mp hx with hx | hx
                  · exact hPb x hx
                  · rw [List.mem_singleton.mp hx]; simp only [List.length_append, List.length_cons, List.length_nil]; (first | lia | omega)
        · first | refine iteDF (by (first | lia | omega)) ?_ | rw [decide_eq_false (by (first | lia | omega))]
          skip
          refine ⟨_, ⟨i, P, rv, ti, o, by (first | lia | omega), ?_, hrv, hPl, hPb, rfl⟩, c'⟩
          rw [List.drop_of_length_le (by (first | lia | omega))] at hP
          rw [← hP]
          cases fu <;> simp [jGo]
      · rintro T s₂ ⟨i, P, rv, ti, o, hi, hP, hrv, hPl, hPb, rfl⟩ c
        clear c'
        have c' := c
        clear c
        (with_reducible refine seqNext ‹_› ?_; refine seqCons fun Q9 hQ9 => ?_; refine wpAny_Assert_holds ?_; refine evI ‹_› (AtI.val (AtV.loc (by kernel_rfl) (mm2 _ _ _ _) (mm4 _ _ _ _ _ _))) (AtI.val (AtV.loc (by kernel_rfl) (mm2 _ _ _ _) (mm5 _ _ _ _ _ _ _))) (by constructor) (by with_unfolding_all rfl) fun s' c9 => ?_; (try clear c'); rename Cx _ _ _ => c')
        first | refine iteDT (by (first | lia | omega)) ?_ | rw [decide_eq_true (by (first | lia | omega))]
        ((with_reducible refine andT ?_; refine seqNext ‹_› ?_; refine seqCons fun Q9 hQ9 => ?_); refine wpAny_Assign_Name ?_ (hs := by first | rfl | kernel_rfl); (with_reducible refine rMeth (by with_unfolding_all rfl) ?_; refine kStrS q0 ‹_› fun t' s' c9 => ?_; (try clear c'); rename Cx _ _ _ => c'; refine gmJoin ?_; refine rM1s (by with_unfolding_all rfl) ?_; refine rMore (by with_unfolding_all rfl) ?_; refine nL ‹_› (by kernel_rfl) (mm2 _ _ _ _) (mm2 _ _ _ _) ?_; refine spliced_none ?_))
        have hPb2 : ∀ x ∈ P, x.length ≤ 1000 := hPb
        refine oJoin c' (c'.lat ((mm1 _ _ _))) hrv 100 1000 (by (first | lia | omega)) hPb2 (by decide) (by decide) (fun t s' c' => ?_)
        rw [joinL_nil]
        have hfl2 : (P).flatten.length ≤ 100000 := Nat.le_trans (flat_len hPb2) (Nat.le_trans (Nat.mul_le_mul_right 1000 (show (P).length ≤ 100 by (first | lia | omega))) (by decide))
        have hfl : (P).flatten.length ≤ sizeLine := by unfold sizeLine; (first | lia | omega)
        ((with_reducible refine sL ‹_› (by kernel_rfl) (mm2 _ _ _ _) (pv2 _ _ _ _) (pt2 _ _ _ _) fun s' c9 => ?_; (try clear c'); rename Cx _ _ _ => c'; refine seqNext ‹_› ?_; refine seqCons fun Q9 hQ9 => ?_; refine wpAny_Return_some ?_; refine rJoined ?_; refine rPart ?_; refine kStrS q7 ‹_› fun t' s' c9 => ?_; (try clear c'); rename Cx _ _ _ => c'; refine ⟨_, _, rfl, (by first | assumption | wtm_at "zz_sz" | omega), ?_⟩; refine rPart ?_; refine rFmt ?_; refine nL ‹_› (by kernel_rfl) (mm2 _ _ _ _) (mm2 _ _ _ _) ?_; refine oFmt ‹_› (by first | assumption | wtm_at "zz_sz" | omega) fun t' s' c9 => ?_; (try clear c'); rename Cx _ _ _ => c'; refine ⟨_, _, rfl, (by first | assumption | wtm_at "zz_sz" | omega), ?_⟩; refine rPartE ?_; refine rPart ?_; refine kStrS q8 ‹_› fun t' s' c9 => ?_; (try clear c'); rename Cx _ _ _ => c'; refine ⟨_, _, rfl, (by first | assumption | wtm_at "zz_sz" | omega), ?_⟩; refine rPart0 ‹_› (by first | assumption | wtm_at "zz_sz" | omega) fun t' s' c9 => ?_; (try clear c'); rename Cx _ _ _ => c'; refine seqRet ‹_› ?_; refine finRet ‹_› ?_); dsimp only)
        have hfin : joinF ps = [40, 63, 115, 58] ++ (P).flatten ++ [41, 92, 90] := by unfold joinF; rw [hJ, ← hP]
        exact hfin ▸ hQ _ _ c'.done
end
section
set_option maxRecDepth 100000
open PySem PyProof.Rows Builtin Builtin.Str
theorem sub_Key_Lookup : isSubtype (.type "KeyError") (.type "LookupError") = pure true := by rw [isSubtype_type]; kernel_rfl
section
variable {prog : Program} {w : World} {A : Around} {E : Value → Shared → Prop} {s : Shared} {d : Addr}
theorem tblMiss {f : Int → Option Value} {c : Nat} {Q : Mapped → Shared → Prop} (hh : A.handled = none) (hd : (d == sysModules) = false) (hm : s.heap.MapOf (intKind prog w) d f) (hf : f c = none)
    (h : ∀ h' tk, (∀ b o, s.heap.get? b = some o → h'.get? b = some o) → Q .keep { s with heap := h', toks := tk }) : wpAny (model prog w) A (tableLookup (.ref d) c) Q E s := by
  unfold tableLookup
  refine wpAny_bind (wpAny_attempt (wpAny_bind (wpAny_mkInt (wpAny_getItem_missing_of (knd := intKind prog w) (k := (c : Int)) (by simp [intKind, Value.isInt]) hd hh hm hf fun h' e hx => ?_))))
  obtain ⟨ob, t, ho, hc, _⟩ := hx.there
  refine wpAny_bind (wpAny_isInstance (T := "KeyError") ⟨ob, ho, hc⟩ sub_Key_Lookup ?_)
  refine wpAny_bind (wpAny_rule ?_)
  exact wpAny_pure (h _ _ hx.keeps)
theorem tblText {f : Int → Option Value} {c : Nat} {y : Str} {t : Tok} {Q : Mapped → Shared → Prop} (hm : s.heap.MapOf (intKind prog w) d f) (hf : f c = some (.str y t))
    (h : ∀ tk, Q (.text y) { s with toks := tk }) : wpAny (model prog w) A (tableLookup (.ref d) c) Q E s := by
  unfold tableLookup
  refine wpAny_bind (wpAny_attempt (wpAny_bind (wpAny_mkInt (wpAny_getItem_of (knd := intKind prog w) (k := (c : Int)) (by simp [intKind, Value.isInt]) hm hf ?_))))
  dsimp only
  refine wpAny_bind (wpAny_of_eq (a := none) rfl ?_)
  dsimp only
  refine wpAny_bind (wpAny_of_eq (a := some y) rfl ?_)
  exact wpAny_pure (h _)
theorem forIn_one {M : Model} {α β : Type} {c : α} {b : β} {g : α → β → Sem (ForInStep β)} {Q : β → Shared → Prop} (h : wpAny M A (g c b) (fun r s' => match r with | .done b => Q b s' | .yield b => Q b s') E s) : wpAny M A (forIn #[c] b g) Q E s := by
  rw [show (#[c] : Array α) = [c].toArray from rfl, List.forIn_toArray, List.forIn_cons]
  refine wpAny_bind (wpAny_mono h (fun r s' hr => ?_) fun _ _ e => e)
  cases r with
  | done b => exact wpAny_pure hr
  | yield b =>
    show wpAny M A (forIn [] b g) Q E s'
    rw [List.forIn_nil]; exact wpAny_pure hr
theorem trMiss {f : Int → Option Value} {c : Nat} {t : Tok} {P : Fin → Shared → Prop} (hh : A.handled = none) (hd : (d == sysModules) = false) (hc : c < 128) (hm : s.heap.MapOf (intKind prog w) d f) (hf : f c = none)
    (h : ∀ h' tk tk', (∀ b o, s.heap.get? b = some o → h'.get? b = some o) → P (.done (.ret (.str ⟨#[c]⟩ tk))) { s with heap := h', toks := tk' }) : wpAny (model prog w) A (Builtin.«str.translate» ⟨[.str ⟨#[c]⟩ t, .ref d], []⟩) P E s := by
  unfold Builtin.«str.translate»
  refine wpAny_bind (wpAny_of_eq (a := (.str ⟨#[c]⟩ t, ⟨#[c]⟩, .ref d)) (by first | rfl | kernel_rfl) ?_)
  dsimp only
  rw [if_neg (by show ¬ ((1 : Nat) == 0) = true; decide)]
  refine wpAny_bind (forIn_one ?_)
  have hall : (#[c].all fun x => decide (x < 128)) = true := by simp [hc]
  simp only [hall, List.lookup_nil, if_true, Bool.false_eq_true, if_false]
  rw [if_neg (by decide)]
  refine wpAny_bind (tblMiss hh hd hm hf fun h' tk hk => ?_)
  dsimp only
  refine wpAny_bind (wpAny_pure ?_)
  dsimp only
  refine wpAny_pure ?_
  dsimp only
  rw [if_neg (by decide)]
  exact wpAny_bind (wpAny_mkStr (wpAny_pure (h h' _ _ hk)) (by show (1 : Nat) ≤ sizeLine; unfold sizeLine; (first | lia | omega)))
theorem trText {f : Int → Option Value} {c a b : Nat} {t u : Tok} {P : Fin → Shared → Prop} (hc : c < 128) (hm : s.heap.MapOf (intKind prog w) d f) (hf : f c = some (.str ⟨#[a, b]⟩ u))
    (h : ∀ tk tk', P (.done (.ret (.str ⟨#[a, b]⟩ tk))) { s with toks := tk' }) : wpAny (model prog w) A (Builtin.«str.translate» ⟨[.str ⟨#[c]⟩ t, .ref d], []⟩) P E s := by
  unfold Builtin.«str.translate»
  refine wpAny_bind (wpAny_of_eq (a := (.str ⟨#[c]⟩ t, ⟨#[c]⟩, .ref d)) (by first | rfl | kernel_rfl) ?_)
  dsimp only
  rw [if_neg (by show ¬ ((1 : Nat) == 0) = true; decide)]
  refine wpAny_bind (forIn_one ?_)
  have hall : (#[c].all fun x => decide (x < 128)) = true := by simp [hc]
  simp only [hall, List.lookup_nil, if_true, Bool.false_eq_true, if_false]
  rw [if_neg (by decide)]
  refine wpAny_bind (tblText hm hf fun tk => ?_)
  dsimp only
  rw [if_neg (by show ¬ ((2 : Nat) == 1 && _) = true; simp)]
  refine wpAny_bind (wpAny_pure ?_)
  dsimp only
  refine wpAny_bind (wpAny_rule ?_)
  refine wpAny_bind (tblText (s := { s with toks := tk }) hm hf fun tk => ?_)
  dsimp only
  refine wpAny_pure ?_
  dsimp only
  rw [if_neg (by show ¬ tooLong (0 + 2) = true; decide)]
  exact wpAny_bind (wpAny_mkStr (wpAny_pure (h _ _)) (by show (2 : Nat) ≤ sizeLine; unfold sizeLine; (first | lia | omega)))
end
end
section
set_option maxRecDepth 100000
open PySem PyProof.Rows Builtin
noncomputable def reCode : Array Nat := #[14, 14, 4, 1, 1, 9, 0, 64, 0, 1342177280, 0, 0, 0, 0, 0, 17, 0, 13, 11, 9, 0, 64, 0, 1342177280, 0, 0, 0, 0, 0, 17, 1, 1]
noncomputable def runK : Nat → Sre.M → Sre.M
  | 0, m => m
  | k + 1, m => if (m.runFor Re.reTurnSteps).outcome.isSome then m.runFor Re.reTurnSteps else runK k (m.runFor Re.reTurnSteps)
section
variable {M : Model} {A : Around} {E : Value → Shared → Prop} {s : Shared}
theorem drive {Q : Sre.M → Shared → Prop} : ∀ (k n : Nat) (m : Sre.M), k ≤ n → (m.outcome.isSome = false) → (runK k m).outcome.isSome = true → Q (runK k m) s → wpAny M A (Re.reDrive n m) Q E s
  | 0, n, m, _, h0, h, _ => by rw [show runK 0 m = m from rfl, h0] at h; cases h
  | k + 1, 0, m, hk, _, _, _ => absurd hk (by (first | lia | omega))
  | k + 1, n + 1, m, hk, h0, h, hq => by
    show wpAny M A (if (m.runFor Re.reTurnSteps).outcome.isSome = true then pure (m.runFor Re.reTurnSteps) else do rule "sre.turn"; Re.reDrive n (m.runFor Re.reTurnSteps)) Q E s
    rw [runK] at h hq
    cases ho : (m.runFor Re.reTurnSteps).outcome.isSome with
    | true =>
      rw [ho] at h hq
      simp only [if_true] at hq ⊢
      exact wpAny_pure hq
    | false =>
      rw [ho] at h hq
      simp only [Bool.false_eq_true, if_false] at h hq ⊢
      exact wpAny_bind (wpAny_rule (drive k n _ (by (first | lia | omega)) ho h hq))
theorem noHit {m : Sre.M} {Q : Option Sre.M → Shared → Prop} (k : Nat) (hk : k ≤ 2 ^ 64) (h0 : m.outcome.isSome = false) (h1 : (runK k m).outcome = some .failed) (h : Q none s) : wpAny M A (Re.reRunToEnd m) Q E s := by
  unfold Re.reRunToEnd
  refine wpAny_bind (drive k _ m hk h0 (by rw [h1]; rfl) ?_)
  refine wpAny_bind (wpAny_forIn_list _ (fun _ _ s' => s' = s) (fun _ s' => wpAny M A (match (runK k m).outcome with | some .matched => pure (some (runK k m)) | some .failed => pure none | some (.stuck why) => unsupported s!"_sre:{why}" | none => unsupported "internal:sre:no-outcome") Q E s') ?_ ?_ _ _ rfl)
  · rintro x rest b s' rfl
    split
    · exact wpAny_bind (wpAny_rule (wpAny_pure rfl))
    · exact wpAny_pure rfl
  · rintro b s' rfl
    rw [h1]
    exact wpAny_pure h
noncomputable def hasFailed (m : Sre.M) : Bool := match m.outcome with
  | some .failed => true
  | _ => false
theorem hasFailed_of {m : Sre.M} (h : hasFailed m = true) : m.outcome = some .failed := by
  unfold hasFailed at h
  split at h
  · assumption
  · cases h
noncomputable def quietText (x : List Nat) : Bool := hasFailed (runK 20 (Sre.forSearch reCode x.toArray 1 0 x.length false)) && !(Sre.forSearch reCode x.toArray 1 0 x.length false).outcome.isSome
end
end
section
set_option maxRecDepth 100000
open PySem PyProof.Rows Builtin
theorem slot_sub : Slot "re.Pattern" "sub" "re.Pattern.sub" :=
  .of (owner := "re.Pattern") (n := "sub") (by rw [typeLookup_type, builtinLookup_eq_fast]; kernel_rfl) (by decide +kernel) (by decide +kernel) (by decide +kernel)
    (by first | exact .inl (by decide +kernel) | exact .inr (by decide +kernel)) (by rw [isSubtype_type]; kernel_rfl)
theorem type_sub : typeOf (.builtin "re.Pattern.sub") = pure (.type "method_descriptor") := by show builtinType _ = _; rw [builtinType_eq_fast]; kernel_rfl
theorem entry_sub : entryFor table "re.Pattern.sub" = some Builtin.«re.Pattern.sub» := entryFor_of_tree (by kernel_rfl)
theorem args_sub (a b c : Value) : argsOk "re.Pattern.sub" ⟨[a, b, c], []⟩ := by unfold argsOk; kernel_rfl
theorem plain_sub_loop : plainId "re.Pattern.sub.loop" = true := by decide +kernel
theorem entry_sub_loop : entryFor table "re.Pattern.sub.loop" = some Builtin.«re.Pattern.sub.loop» := entryFor_of_fast (by kernel_rfl)
inductive PatAt (h : Heap) (p : Addr) : Prop
  | mk (o : Obj) (fs : Array Value) (ct : Addr) (co : Obj) (xs : Array Value) (n : Nat) (h1 : h.get? p = some o) (h2 : o.cls = .type "re.Pattern") (h3 : o.data = .fields fs) (h4 : Re.reRawNat (fs.getD 6 .none) = 0) (h5 : Re.reRawNat (fs.getD 2 .none) = 1) (h6 : fs.getD 5 .none = .ref ct)
      (h7 : h.get? ct = some co) (h8 : co.data = .seq xs n) (h9 : (xs.map Re.reRawOf).map (·.toNat) = reCode) (h10 : o.dict = none) : PatAt h p
theorem PatAt.keeps {h h' : Heap} {p : Addr} (x : PatAt h p) (k : ∀ b o, h.get? b = some o → h'.get? b = some o) : PatAt h' p := by
  cases x with | mk o fs ct co xs n h1 h2 h3 h4 h5 h6 h7 h8 h9 h10 => ?_
  exact ⟨o, fs, ct, co, xs, n, k _ _ h1, h2, h3, h4, h5, h6, k _ _ h7, h8, h9, h10⟩
section
variable {prog : Program} {w : World} {A : Around} {E : Value → Shared → Prop} {s : Shared} {p : Addr}
theorem wholeTarget {x : Str} {t : Tok} {Q : Re.ReTarget → Shared → Prop} (hp : PatAt s.heap p)
    (h : Q { pattern := .ref p, string := .str x t, code := reCode, text := x.cps, kind := 0, groups := 1, pos := 0, lim := x.cps.size } s) : wpAny (model prog w) A (Re.reWholeTarget (.ref p) (.str x t)) Q E s := by
  obtain ⟨o, fs, ct, co, xs, n, h1, h2, h3, h4, h5, h6, h7, h8, h9, h10⟩ := id hp
  unfold Re.reWholeTarget
  refine wpAny_bind (wpAny_fieldsOf h1 h3 ?_)
  refine wpAny_bind (wpAny_of_eq (a := (x.cps, 0)) rfl ?_)
  dsimp only
  rw [h4]
  rw [if_neg (by decide), if_neg (by decide)]
  refine wpAny_bind (wpAny_of_eq (a := ()) rfl ?_)
  rw [h6]
  unfold Re.reRawItems
  refine wpAny_bind (wpAny_bind (wpAny_seqItems h7 h8 ?_))
  refine wpAny_pure (wpAny_pure ?_)
  rw [h5]
  have e : Array.map (fun x => x.toNat) (Array.map Re.reRawOf ((some xs).getD #[])) = reCode := h9
  rw [e]
  exact h
/-- the loop, where the text holds no hit -/
theorem subLoop {x : List Nat} {t : Tok} {lam l : Addr} {n : Nat} {P : Result → Shared → Prop} (hp : PatAt s.heap p) (hq : quietText x = true) (hx : 0 < x.length) (hz : x.length ≤ 1000)
    (hl : s.heap.get? l = some { cls := .type "list", data := .seq #[] n })
    (h : ∀ h' t' tk, (∀ b o, b ≠ l → s.heap.get? b = some o → h'.get? b = some o) → P (.ok (.ret (.str ⟨x.toArray⟩ t'))) { s with heap := h', toks := tk }) :
    codeAny (model prog w) A (.builtin "re.Pattern.sub.loop" ⟨[.ref p, .str ⟨x.toArray⟩ t, .ref lam, rawInt 1, rawInt 0, rawInt 0, rawInt 0, rawInt 0, .bool false, .ref l, .bool false], []⟩) P s := by
  refine codeAny_builtin entry_sub_loop ?_
  rw [Around.under_plainId plain_sub_loop _]
  unfold Builtin.«re.Pattern.sub.loop»
  dsimp only [rawInt]
  refine wpAny_bind (wholeTarget hp ?_)
  rw [if_neg (by decide)]
  rw [if_neg (by decide)]
  unfold quietText at hq
  rw [Bool.and_eq_true, Bool.not_eq_true'] at hq
  have hsz : (⟨x.toArray⟩ : Str).cps.size = x.length := by simp
  refine wpAny_bind (noHit 20 (by decide) (by rw [hsz]; exact hq.2) (by rw [hsz]; exact hasFailed_of hq.1) ?_)
  dsimp only
  rw [if_pos (by rw [hsz]; exact hx)]
  have hslice : ∀ (b e : Nat) (A' : Around) (E' : Value → Shared → Prop) (s' : Shared) (Q' : Value → Shared → Prop), (x.toArray.extract b e).size ≤ 1000 → Q' (.str ⟨x.toArray.extract b e⟩ s'.toks) { s' with toks := s'.toks + 1 } → wpAny (model prog w) A' (Re.reSlice x.toArray 0 b e) Q' E' s' :=
    fun b e A' E' s' Q' hb h => wpAny_mkStr h (by show (x.toArray.extract b e).size ≤ sizeLine; unfold sizeLine; (first | lia | omega))
  refine wpAny_bind (hslice _ _ _ _ _ _ (by simp; (first | lia | omega)) ?_)
  refine wpAny_bind (wpAny_updateSeq hl rfl ?_)
  have hm : Obj.mapSeq (fun xs => xs.push (.str ⟨x.toArray.extract (Int.toNat 0) x.toArray.size⟩ s.toks)) { cls := .type "list", data := .seq #[] n } = { cls := .type "list", data := .seq #[.str ⟨x.toArray⟩ s.toks] (n + 1) } := by
    rw [mapSeq_push]; simp
  have hl2 : (s.heap.update l (Obj.mapSeq (fun xs => xs.push (.str ⟨x.toArray.extract (Int.toNat 0) x.toArray.size⟩ s.toks)))).get? l = some { cls := .type "list", data := .seq #[.str ⟨x.toArray⟩ s.toks] (n + 1) } := by
    rw [Heap.get?_update_self _ hl (by rw [hm]; rfl), hm]
  refine wpAny_bind (hslice _ _ _ _ _ _ (by simp) ?_)
  refine wpAny_bind (wpAny_seqItems hl2 rfl ?_)
  rw [if_neg (by simp)]
  rw [if_pos (by decide)]
  refine wpAny_bind (join_listW (D := l) (items := #[.str ⟨x.toArray⟩ s.toks]) (ys := [⟨x.toArray⟩]) ⟨_, hl2, rfl, n + 1, rfl⟩ (.cons _ _ .nil) (by simp [Str.length]) (by simp [Str.length]; (first | lia | omega)) fun t' k => ?_)
  rw [if_neg (by decide)]
  refine wpAny_pure ?_
  have e : Txt.join ⟨x.toArray.extract 0 0⟩ [(⟨x.toArray⟩ : Str)] = ⟨x.toArray⟩ := by
    simp [Txt.join, Builtin.Str.glued]
  rw [e]
  exact h _ _ _ fun b o hb ho => (Heap.get?_update_other _ _ (Ne.symm hb)).trans ho
theorem lk_fn_call : typeLookup (.type "function") "__call__" = pure (some (.builtin "function.__call__")) := by rw [typeLookup_type, builtinLookup_eq_fast]; kernel_rfl
theorem sub_quiet {x : List Nat} {t : Tok} {lam : Addr} {ol : Obj} {P : Result → Shared → Prop} (hp : PatAt s.heap p) (hlam : s.heap.get? lam = some ol) (hcl : ol.cls = .type "function") (hq : quietText x = true) (hx : 0 < x.length) (hz : x.length ≤ 1000)
    (h : ∀ h' t' tk, (∀ b o, s.heap.get? b = some o → h'.get? b = some o) → P (.ok (.ret (.str ⟨x.toArray⟩ t'))) { s with heap := h', toks := tk }) :
    wpAny (model prog w) A.in1 (Builtin.«re.Pattern.sub» ⟨[.ref p, .ref lam, .str ⟨x.toArray⟩ t], []⟩) (fun fin s' => match fin with | .done f => P (.ok f) s' | .again c' => c'.quiet = true ∧ codeAny (model prog w) A c' P s') (fun e s' => P (.error e) s') s := by
  unfold Builtin.«re.Pattern.sub» Re.reSubstitute
  dsimp only
  refine wpAny_bind (wpAny_of_eq (a := [some (.ref lam), some (.str ⟨x.toArray⟩ t), none]) (by first | rfl | kernel_rfl) ?_)
  dsimp only
  refine wpAny_bind (wpAny_pure ?_)
  have hT : s.TypeIs (.ref lam) "function" := ⟨ol, hlam, hcl⟩
  refine wpAny_bind (wpAny_specialOf hT lk_fn_call ?_)
  rw [if_pos (by decide)]
  refine wpAny_bind (wpAny_pure ?_)
  rw [if_pos (by decide)]
  refine wpAny_bind (wpAny_pure ?_)
  refine wpAny_bind (wpAny_holding (wholeTarget hp ?_))
  rw [if_pos (by rfl)]
  have hnh : wpAny (model prog w) A.in1 (Re.reNotHeld "re.Pattern.sub" (.str ⟨x.toArray⟩ t)) (fun _ s' => s' = s) (fun e s' => P (.error e) s') s := by
    unfold Re.reNotHeld
    refine wpAny_bind (wpAny_isInstance (T := "str") (b := false) (typeIs_str _ _ _) (by rw [isSubtype_type]; kernel_rfl) ?_)
    rw [if_neg (by decide)]
    exact wpAny_pure rfl
  refine wpAny_bind (wpAny_mono hnh (fun _ s' e => ?_) fun _ _ e => e)
  subst e
  refine wpAny_bind (wpAny_newObj_type ?_)
  refine wpAny_pure ⟨plainId_quiet plain_sub_loop _, ?_⟩
  refine subLoop (n := 0) (hp.keeps fun b o e => Heap.get?_push_of_some _ e) hq hx hz (Heap.get?_push_size _ rfl) fun h' t' tk hk => h h' t' tk fun b o hb => ?_
  exact hk b o (Nat.ne_of_lt (Heap.lt_size hb)) (Heap.get?_push_of_some _ hb)
theorem plainAttrs_re : PlainAttrs "re.Pattern" :=
  ⟨⟨"object.__getattribute__", by rw [typeLookup_type, builtinLookup_eq_fast]; kernel_rfl, by decide +kernel⟩, by rw [typeLookup_type, builtinLookup_eq_fast]; kernel_rfl⟩
theorem gmSub {pl : Sem Bool} {Q : Value × List Value → Shared → Prop} (hp : PatAt s.heap p) (h : Q (.builtin "re.Pattern.sub", [.ref p]) s) : wpAny (model prog w) A (getMethod (.ref p) "sub" pl) Q E s := by
  obtain ⟨o, fs, ct, co, xs, n, h1, h2, h3, h4, h5, h6, h7, h8, h9, h10⟩ := id hp
  exact getMethod_builtin ⟨o, h1, h2⟩ plainAttrs_re slot_sub type_sub (fun a e => by cases e; exact ⟨o, h1, h10⟩) h
theorem call_sub_quiet {x : List Nat} {t : Tok} {lam : Addr} {ol op : Obj} {Q : Value → Shared → Prop} (hp : PatAt s.heap p) (hlam : s.heap.get? lam = some ol) (hcl : ol.cls = .type "function") (hq : quietText x = true) (hx : 0 < x.length) (hz : x.length ≤ 1000)
    (h : ∀ h' t' tk, (∀ b o, s.heap.get? b = some o → h'.get? b = some o) → Q (.str ⟨x.toArray⟩ t') { s with heap := h', toks := tk }) :
    wpAny (model prog w) A (call (.builtin "re.Pattern.sub") [.ref p, .ref lam, .str ⟨x.toArray⟩ t]) Q E s := by
  obtain ⟨o, fs, ct, co, xs, n, h1, h2, _⟩ := id hp
  refine wpAny_call (codeAny_call_builtin slot_sub.plain entry_sub (slot_sub.check _ _ _ _ _ _ _ _ ⟨o, h1, h2⟩ (args_sub _ _ _) ?_))
  exact sub_quiet (P := fun r s' => match r with | .ok (.ret v) => Q v s' | .ok _ => False | .error e => E e s') hp hlam hcl hq hx hz h
end
end
section
set_option maxRecDepth 100000
set_option maxHeartbeats 4000000
open PySem PySem.W PyProof.Rows PySem.Calls
noncomputable def escF (ch : Nat) : List Nat := if ch = 46 then [92, 46] else [ch]
section
variable {prog : Program} {w : World} {A : Around} {E : Value → Shared → Prop} {s₀ s : Shared} {T T' : Tab} {d : Addr}
theorem gmTr {y : Str} {t : Tok} {pl : Sem Bool} {Q : Value × List Value → Shared → Prop} (h : Q (.builtin "str.translate", [.str y t]) s) : wpAny (model prog w) A (getMethod (.str y t) "translate" pl) Q E s := by
  with_reducible exact GM.of (.str y t) (typeIs_str _ _ _) F.slot_str_translate F.type_str_translate GM.noRef h
theorem oTr {f : Int → Option Value} {ch : Nat} {t u : Tok} {Q : Value → Shared → Prop} (c : Cx s₀ s T) (hh : A.handled = none) (hd : (d == sysModules) = false) (hc : ch < 128) (hm : s.heap.MapOf (intKind prog w) d f) (hf : f ch = if ch = 46 then some (.str (S [92, 46]) u) else none)
    (h : ∀ t s', Cx s₀ s' T → Q (.str (S (escF ch)) t) s') : wpAny (model prog w) A (call (.builtin "str.translate") [.str (S [ch]) t, .ref d]) Q E s := by
  refine wpAny_call_entry F.slot_str_translate (typeIs_str _ _ _) F.entry_str_translate ?_ (F.args_str_translate_2 _ _)
  by_cases h46 : ch = 46
  · rw [if_pos h46] at hf
    have e : escF ch = [92, 46] := by unfold escF; rw [if_pos h46]
    rw [e] at h
    exact trText hc hm hf fun tk tk' => ⟨_, rfl, h _ _ (c.tok tk')⟩
  · rw [if_neg h46] at hf
    have e : escF ch = [ch] := by unfold escF; rw [if_neg h46]
    rw [e] at h
    exact trMiss hh hd hc hm hf fun h' tk tk' hk => ⟨_, rfl, h _ _ (c.grow tk' hk)⟩
end
theorem esc_ok {mg mb : Str → Option Value} {w : World} {f d : Addr} (hmd : mg "_special_chars_map" = some (.ref d)) {A : Around} {Q E : Value → Shared → Prop} {s : Shared} {fm : Int → Option Value} {ch : Nat} {t u : Tok}
    (hA : Room A 3) (F : FnAt s.heap dEsc f) (G : Gl dAll mg mb s.heap) (hd : (d == sysModules) = false) (hc : ch < 128) (hm : s.heap.MapOf (intKind PW w) d fm) (hf : fm ch = if ch = 46 then some (.str (S [92, 46]) u) else none)
    (hQ : ∀ t s', Keeps s s' → Q (.str (S (escF ch)) t) s') : wpAny (model PW w) A (call (.ref f) [.str (S [ch]) t]) Q E s := by
    refine callD (binds := [("pattern", .str (S [ch]) t)]) [("pattern", .str (S [ch]) t)] [] [] [] ["pattern"] _ [] (ks2 := []) hA.d F G.lim (fun _ _ _ => by kernel_rfl) (by kernel_rfl) (by kernel_rfl) (by kernel_rfl)
      (by kernel_rfl) (by kernel_rfl) (by decide +kernel) (by decide +kernel) (by kernel_rfl) (by decide +kernel) rfl (by kernel_rfl) (by kernel_rfl) (by kernel_rfl) (by kernel_rfl) ?_
    intro L code as s₁ has c
    simp only [List.map_cons, List.map_nil, List.cons_append, List.nil_append, List.zip_nil_right, List.zip_nil_left] at c ⊢
    have hR : Room (A.deeper (envC dEsc L f code [])) 2 := Room.deeper hA
    refine wpAny_execs_cons ?_
    (with_reducible refine wpAny_If ?_; refine rTest (by with_unfolding_all rfl) ?_; refine rCallN ?_; refine nB ‹_› ‹_› (by kernel_rfl) (by rfl) (by rfl) (mm7 _ _ _ _ _ _ _ _ _) ?_; refine rB1 (by with_unfolding_all rfl) ?_; refine rMore (by with_unfolding_all rfl) ?_; refine nL ‹_› (by kernel_rfl) (mm0 _ _) (mm0 _ _) ?_; refine rMore (by with_unfolding_all rfl) ?_; refine nB ‹_› ‹_› (by kernel_rfl) (by rfl) (by rfl) (mm8 _ _ _ _ _ _ _ _ _ _) ?_; refine spliced_none ?_)
    refine PySem.IsiPair.str_str ?_
    (with_reducible refine wpAny_truthy_bool ?_; refine iteT ?_; refine seqCons fun Q9 hQ9 => ?_; refine wpAny_Return_some ?_; refine rMeth (by with_unfolding_all rfl) ?_; refine nL ‹_› (by kernel_rfl) (mm0 _ _) (mm0 _ _) ?_)
    (with_reducible refine gmTr ?_)
    (with_reducible refine rM1s (by with_unfolding_all rfl) ?_; refine rMore (by with_unfolding_all rfl) ?_; refine nG ‹_› ‹_› (by kernel_rfl) (by rfl) ‹_› ?_; refine spliced_none ?_)
    refine oTr c hR.handled hd hc (let ⟨o, es, ep, ho, r⟩ := hm; ⟨o, es, ep, c.keep _ _ ho, r⟩) hf (fun t s' c' => ?_)
    ((with_reducible refine seqRet ‹_› ?_); dsimp only)
    exact hQ _ _ c'.done
end
section
set_option maxRecDepth 100000
open PySem PySem.W PyProof.Rows PySem.Calls
open Builtin Builtin.Str
/-- the record of the places of a code -/
@[reducible] noncomputable def tabR : Rs := .sat fun o => ∃ ps, o = tabObj ps ∧ TriplesOk ps.toList
@[reducible] noncomputable def fnR : Rs := .sat fun o => o.cls = .type "function"
theorem Cx.moved {s₀ s s₄ s' : Shared} {T T' : Tab} (c : Cx s₀ s T) (hT : ∀ p ∈ T', ∃ q ∈ T, q.1 = p.1) (c₄ : Cx s₀ s₄ T') (hs : ∃ h tk g, s' = { s₄ with heap := h, toks := tk, gens := g } ∧ (AllBare s₄.gens → AllBare g))
    (hk : ∀ b o, b < s.heap.objs.size → s₄.heap.get? b = some o → s'.heap.get? b = some o) : Cx s₀ s' T' := by
  refine ⟨?_, fun b o hb => hk b o (Heap.lt_size (c.keep b o hb)) (c₄.keep b o hb), fun p hp => ?_, c₄.nd⟩
  · obtain ⟨h, tk, g, e, hb⟩ := hs
    obtain ⟨h2, tk2, g2, e2, hb2⟩ := c₄.same
    exact ⟨h, tk, g, by rw [e, e2], fun x => hb (by rw [e2]; exact hb2 x)⟩
  · obtain ⟨n, o, ho, hr⟩ := c₄.own p hp
    obtain ⟨q, hq, e⟩ := hT p hp
    obtain ⟨_, o', ho', _⟩ := c.own q hq
    exact ⟨n, o, hk _ _ (e ▸ Heap.lt_size ho') ho, hr⟩
theorem bkeeps {h h' : Heap} {mg : Str → Option Value} {P : Addr} (x : h.BuiltinsAt mg P) (k : ∀ b o, h.get? b = some o → h'.get? b = some o) : h'.BuiltinsAt mg P :=
  let ⟨bm, o, a, b, c, d, e, f⟩ := x; ⟨bm, o, a, b, c, d, k _ _ e, f⟩
section
variable {ds : List DefRec} {mg mb : Str → Option Value} {prog : Program} {w : World} {A : Around} {E : Value → Shared → Prop} {s₀ s : Shared} {T T' : Tab} {env : Env} {x : Str} {pos : Pos} {v : Value} {a cd P : Addr}
theorem oLam {params : Arguments} {body : Expr} {scope : Scope} {clos : List (Str × Addr)} {Q : Value → Shared → Prop} (c : Cx s₀ s T) (G : Gl ds mg mb s₀.heap) (hge : env.globals = mainGlobals) (hcode : env.code = .ref cd) (C : CodeHd s₀.heap cd P)
    (hb : s₀.heap.BuiltinsAt mg P) (hP : (P, tabR) ∈ T) (hdef : defaultsOf params env = ([], [])) (hcl : closureFor scope env = pure clos)
    (h : ∀ f s', Cx s₀ s' ((f, fnR) :: T) → Q (.ref f) s') : wpAny (model prog w) A (eval (.Lambda params body scope pos) env) Q E s := by
  refine kla_eval hdef ?_
  obtain ⟨o, hoP, ps, rfl, ht⟩ := c.sat hP
  have hnP : s₀.heap.get? P = none := (c.own _ hP).1
  have hgP : mainGlobals ≠ P := fun e => by
    obtain ⟨o, es, ep, ho, _⟩ := G.g
    rw [e, hnP] at ho; cases ho
  cases hf : codeAmong pos ps.toList with
  | none =>
    refine kla_makeFunction hcl hge (G.g.keeps c.keep) hcode (C.keeps c.keep) hoP ht hf hgP (bkeeps hb c.keep) fun c' ctv h' tk hx hge hlt hrec htb => ?_
    have c1 := c.upd tk (Put.same hP) hx htb ⟨_, rfl, by simpa using TriplesOk_snoc _ _ _ _ ht⟩
    exact h _ _ (c1.push rfl rfl)
  | some cv =>
    refine kla_makeFunctionHit hcl hge (G.g.keeps c.keep) hcode (C.keeps c.keep) hoP ht hf (bkeeps hb c.keep) fun ctv h' tk hk hsz => ?_
    exact h _ _ ((c.grow tk hk).push rfl rfl)
theorem replaceNone {x y z : Str} {t u v : Tok} {Q : Value → Shared → Prop} (hn : (occurrences x y 0 x.length (x.length + 1)).isEmpty = true) (h : Q (.str x t) s) :
    wpAny (model prog w) A (call (.builtin "str.replace") [.str x t, .str y u, .str z v]) Q E s := by
  refine call_gives F.slot_str_replace (typeIs_str _ _ _) F.entry_str_replace (F.args_str_replace_3 _ _ _)
    (gives_str_replace x y z t u v fun hc => by rw [hn] at hc; cases hc) ?_
  rw [hn]
  exact h
theorem occNone {x : List Nat} {ch : Nat} (h : ch ∉ x) : (occurrences (S x) (S [ch]) 0 (S x).length ((S x).length + 1)).isEmpty = true := by
  rw [StrLaws.occ_eq]
  rcases StrLaws.occ_first (S x) (S [ch]) (S x).length ((S x).length + 1) (by (first | lia | omega)) (List.range' 0 ((S x).length + 1 - 0)) 0 (fun i hi => by (first | lia | omega)) with ⟨h0, hn⟩ | ⟨pre, a, post, e, h0, ha, hn⟩
  · have : ((forIn (List.range' 0 ((S x).length + 1 - 0)) ((#[] : Array Nat), 0) (StrLaws.occBody (S x) (S [ch]) (S x).length ((S x).length + 1))).run.fst.toList).head? = none := by
      rw [h0]; rfl
    rw [List.head?_eq_none_iff] at this
    rw [this]; rfl
  · rw [at_one] at ha
    exact absurd (List.mem_of_getElem? ha.2) h
theorem oInT2 {vs : List Value} {ls : List (List Nat)} {y : List Nat} {t : Tok} {Q : Value → Shared → Prop} (c : Cx s₀ s T) (hl : (a, Rs.tup vs) ∈ T) (hs : StrsAre vs (ls.map S)) (h : Q (.bool (ls.contains y)) s) : wpAny (model prog w) A (compareOp .In (.str (S y) t) (.ref a)) Q E s := by
  refine SeqAt.in_tupleAt (isX (S y)) (c.tup hl) (fun z hz => (isX_gives hs (S y) t z hz).at _ _) ?_
  have e : vs.toArray.any (isX (S y)) = ls.contains y := by
    rw [List.any_toArray, show isX (S y) = isStrOf (S y) from rfl, any_isStrOf _ hs, any_S]
  rw [e]; exact h
theorem gives_find4 (x y : Str) (i j : Int) (t u v k : Tok) : Gives («str.find» ⟨[.str x t, .str y u, .int i v, .int j k], []⟩) (.int (match occurrences x y (fromIndex x.length i) (min (max 0 (if j < 0 then j + x.length else j)).toNat x.length) 1 with | k :: _ => (k : Int) | [] => -1)) := by
  show Gives (match occurrences x y (fromIndex x.length i) (min (max 0 (if j < 0 then j + x.length else j)).toNat x.length) 1 with | k :: _ => retInt k | [] => (do rule "str.find.not-found"; retInt (-1))) _
  cases occurrences x y (fromIndex x.length i) (min (max 0 (if j < 0 then j + x.length else j)).toNat x.length) 1 with
  | nil => exact .rule (.of_eq rfl)
  | cons k _ => exact .of_eq rfl
theorem oFind4 {y : List Nat} {ch p q : Nat} {t u k l : Tok} {Q : Value → Shared → Prop} (c : Cx s₀ s T) (hq : q ≤ y.length)
    (h : ∀ t s', Cx s₀ s' T → Q (.int (match findL y ch p q with | some k => (k : Int) | none => -1) t) s') : wpAny (model prog w) A (call (.builtin "str.find") [.str (S y) t, .str (S [ch]) u, .int p k, .int q l]) Q E s := by
  refine call_gives F.slot_str_find (typeIs_str _ _ _) F.entry_str_find (F.args_str_find_4 _ _ _ _) (gives_find4 (S y) (S [ch]) p q t u k l) ?_
  have e1 : fromIndex (S y).length (p : Int) = p := by unfold fromIndex; rw [if_neg (by (first | lia | omega))]; (first | lia | omega)
  have e2 : min (max 0 (if (q : Int) < 0 then (q : Int) + (S y).length else q)).toNat (S y).length = q := by rw [if_neg (by (first | lia | omega)), S_len]; (first | lia | omega)
  rw [e1, e2]
  have e3 := occ_find y ch p q
  have key : (match occurrences (S y) (S [ch]) p q 1 with | k :: _ => (k : Int) | [] => -1) = (match findL y ch p q with | some k => (k : Int) | none => -1) := by
    rw [← e3]
    cases occurrences (S y) (S [ch]) p q 1 <;> rfl
  rw [key]
  exact h _ _ (c.tok _)
theorem oFind4i {y : List Nat} {ch : Nat} {i j : Int} {t u k l : Tok} {Q : Value → Shared → Prop} (c : Cx s₀ s T) (p q : Nat) (hi : i = p) (hj : j = q) (hq : q ≤ y.length)
    (h : ∀ t s', Cx s₀ s' T → Q (.int (match findL y ch p q with | some k => (k : Int) | none => -1) t) s') : wpAny (model prog w) A (call (.builtin "str.find") [.str (S y) t, .str (S [ch]) u, .int i k, .int j l]) Q E s := by
  subst hi hj
  exact oFind4 c hq h
theorem findL_here {l : List Nat} {c lo hi : Nat} (h : lo < hi) (e : l[lo]? = some c) : findL l c lo hi = some lo := by
  unfold findL
  obtain ⟨m, hm⟩ : ∃ m, hi - lo = m + 1 := ⟨hi - lo - 1, by (first | lia | omega)⟩
  rw [hm, List.range'_succ, List.find?_cons_of_pos (by simp [e])]
theorem findL_out {l : List Nat} {c lo hi : Nat} (h : hi ≤ lo) : findL l c lo hi = none := by
  unfold findL
  rw [show hi - lo = 0 by (first | lia | omega)]; rfl
/-- a generator over a list of strs, joined -/
theorem genJoin {elt iter : Expr} {px : Pos} {scope : Scope} {cl : List (Str × Addr)} {sep : List Nat} {l : Addr} {vs : List Value} {ls : List (List Nat)} {t : Tok} {Q : Value → Shared → Prop}
    (c : Cx s₀ s T) (G : Gl ds mg mb s₀.heap) (hA : A.depth < recursionLimit) (hh : A.handled = none) (hge : env.globals = mainGlobals) (hbe : env.builtins = builtinsNs) (hcode : env.code = .ref cd) (C : CodeHd s₀.heap cd P) (hb : s₀.heap.BuiltinsAt mg P) (hP : (P, tabR) ∈ T)
    (hl : (l, Rs.lst vs) ∈ T) (hs : StrsAre vs (ls.map S)) (hz : ls.length ≤ 1000) (hok : JoinOk (S sep) (ls.map S) = true)
    (hco : scope.isCoroutine = false) (hclos : closureFor scope env = pure cl) (hcell : ∀ y ∈ scope.names, y.2 ≠ .cell) (h0 : scope.names.lookup (".0" : Str) = some NameKind.local)
    (hx : scope.names.lookup x = some .local) (hkind : scope.kind = .function) (hfold : ∀ x, genFold iter env x = pure x)
    (hiter : ∀ Q : Value → Shared → Prop, Q (.ref l) s → wpAny (model prog w) A (eval iter env) Q E s)
    (helt : ∀ (A' : Around) E' (s₂ : Shared) m₂ (C : Addr) code y u, A'.handled = none → s₂.heap.Ns C m₂ → m₂ x = some (.str (S y) u) → y ∈ ls → wpAny (model prog w) A' (eval elt (genEnv scope cl C code builtinsNs env)) (fun v s₃ => (∃ u', v = .str (S y) u') ∧ PySem.Keeps s₂ s₃) E' s₂)
    (h : ∀ t s', Cx s₀ s' T → Q (.str (S (joinL sep ls)) t) s') :
    wpAny (model prog w) A (eval (.GeneratorExp elt [⟨.Name x px, iter, [], 0⟩] scope pos) env) (fun v s₁ => wpAny (model prog w) A (call (.builtin "str.join") [.str (S sep) t, v]) Q E s₁) E s := by
  have hlen : vs.length = ls.length := by simpa using saLen hs
  have hlat := c.lat hl
  have hlP : l ≠ P := fun e => by
    obtain ⟨n, ho⟩ := hlat
    obtain ⟨o, hoP, ps, rfl, _⟩ := c.sat hP
    rw [e, hoP] at ho; cases ho
  have hlt : l < s.heap.objs.size := by obtain ⟨_, e⟩ := hlat; exact Heap.lt_size e
  refine wpAny_GeneratorExp_walksQ hh hco hclos hcell h0 hx hkind hA (hiter _ ?_) hfold
  refine wpAny_pyIter_list hlat.list ?_
  have c₂ := c.push (r := .iter l 0) (o := { cls := .type "list_iterator", data := .fields #[.ref l, .int 0 0] }) rfl ⟨rfl, rfl⟩
  refine ⟨(G.keeps c₂.keep).lim, ?_⟩
  obtain ⟨o, hoP, ps, rfl, ht⟩ := c₂.sat (List.mem_cons_of_mem _ hP)
  have hnP : s₀.heap.get? P = none := (c.own _ hP).1
  have hgP : mainGlobals ≠ P := fun e => by
    obtain ⟨o, es, ep, ho, _⟩ := G.g
    rw [e, hnP] at ho; cases ho
  have hPlt : P < s.heap.objs.size := by obtain ⟨o, ho, _⟩ := c.sat hP; exact Heap.lt_size ho
  have C₂ := C.keeps c₂.keep
  have rest : ∀ (code : Value) (h₃ : Heap) (tk : Nat), Heap.ExtBut P (s.heap.push { cls := .type "list_iterator", data := .fields #[.ref l, .int 0 0] }) h₃ → (s.heap.push { cls := .type "list_iterator", data := .fields #[.ref l, .int 0 0] }).objs.size ≤ h₃.objs.size → (∃ ps, h₃.get? P = some (tabObj ps) ∧ TriplesOk ps.toList) →
      wpAny (model prog w) A (builtinsFor env.globals env.builtins) (fun bi s₄ =>
        ∃ I fp wr n₀ P St₀ pz F, Value.ref s.heap.objs.size = .ref I ∧ (∀ A' : Around, A'.handled = none → Walks prog w A' I fp wr n₀ P St₀) ∧ St₀ 0 s₄.heap ∧ (∀ b ∈ fp, b < s₄.heap.objs.size) ∧ s₄.heap.NoLimit ∧ cStatics ∉ wr ∧
          (∀ href : Heap, (∀ b o, s₄.heap.get? b = some o → href.get? b = some o) →
            QuietGen prog w (genEnv scope cl s₄.heap.objs.size code bi env) x [] elt (List.range s₄.heap.objs.size) wr P pz F href) ∧
          (∀ a h₅ tk gs, gs.bare = true → s₄.heap.objs.size < a → h₅.objs.size = a + 1 → (∀ b o, s₄.heap.get? b = some o → h₅.get? b = some o) →
            WalksS prog w A.in4 a (a :: s₄.heap.objs.size :: List.range s₄.heap.objs.size) (s₄.heap.objs.size :: wr) (GenOnlyQ s₄.gens.size) (passing pz n₀ 0).length
              (fun j y => ∃ i, (passing pz n₀ 0)[j]? = some i ∧ F i y) (GenAt prog w A.in4 a s₄.gens.size s₄.heap.objs.size (List.range s₄.heap.objs.size) wr pz n₀ F) →
            GenAt prog w A.in4 a s₄.gens.size s₄.heap.objs.size (List.range s₄.heap.objs.size) wr pz n₀ F 0 { s₄ with gens := s₄.gens.push gs, toks := tk, heap := h₅ } →
            wpAny (model prog w) A (call (.builtin "str.join") [.str (S sep) t, .ref a]) Q E { s₄ with gens := s₄.gens.push gs, toks := tk, heap := h₅ })) E
        { s with heap := h₃, toks := tk } := by
    intro code h₃ tk hx₃ hsz₃ htb
    obtain ⟨ps', htb, ht'⟩ := htb
    have c₃ : Cx s₀ { s with heap := h₃, toks := tk } ((s.heap.objs.size, Rs.iter l 0) :: T) := c₂.upd (a := P) (r := tabR) tk (Put.tail _ (Put.same hP)) hx₃ htb ⟨_, rfl, ht'⟩
    obtain ⟨bm, ob, hbm, hne0, _, hneP, hbo, hcls, hdict, hdata⟩ := bkeeps hb c₃.keep
    rw [hge, hbe]
    have hlt₃ : s.heap.objs.size < h₃.objs.size := by rw [Heap.size_push] at hsz₃; (first | lia | omega)
    have h0lt : cStatics < s₀.heap.objs.size := let ⟨_, hn, _⟩ := G.lim; hn.lt
    have hcs : cStatics < s.heap.objs.size := by
      obtain ⟨_, ⟨o, es, ep, ho, _⟩, _⟩ := G.lim
      exact Heap.lt_size (c.keep _ _ ho)
    refine wpAny_builtinsFor (G.g.keeps c₃.keep) hbm hne0 hbo hcls hdict hdata ?_
    refine ⟨s.heap.objs.size, [s.heap.objs.size, l], [s.heap.objs.size], vs.toArray.size, _, _, fun _ => true, fun i v => ∃ y u, ls[i]? = some y ∧ v = .str (S y) u, rfl, (fun A' hA' => Walks.list hA' _ _ (Nat.ne_of_lt hlt) vs.toArray),
      ⟨c₃.iter List.mem_cons_self, (c₃.lat (List.mem_cons_of_mem _ hl)).list⟩, ?_, (G.keeps c₃.keep).lim, ?_, ?_, ?_⟩
    · intro b hb'
      show b < h₃.objs.size
      rcases List.mem_cons.mp hb' with rfl | hb'
      · exact hlt₃
      · rcases List.mem_cons.mp hb' with rfl | hb'
        · exact Nat.lt_trans hlt hlt₃
        · cases hb'
    · exact fun hm => Nat.ne_of_lt hcs (List.mem_singleton.mp hm)
    · intro href hhref
      refine ⟨fun A' E' i v s₂ m₂ hh' hPi hns hm₂ hfp => ?_, fun A' E' i v s₂ m₂ hh' hPi _ hns hm₂ hfp => ?_⟩
      · exact wpAny_tests_nil ⟨rfl, ⟨_, _, rfl, fun _ _ e => e⟩⟩
      · have hPi' : vs[i]? = some v := by simpa using hPi
        have hi : i < ls.length := by rw [← hlen]; exact (List.getElem?_eq_some_iff.mp hPi').1
        obtain ⟨u, hu⟩ := saGet hs (i := i) (y := S ls[i]) (by simp [hi])
        rw [hPi'] at hu; cases hu
        refine wpAny_mono (helt A' E' s₂ m₂ _ _ _ u hh' hns hm₂ (List.getElem_mem hi)) (fun v s₃ h₃ => ?_) fun _ _ e => e
        obtain ⟨⟨u', rfl⟩, hk⟩ := h₃
        exact ⟨⟨_, u', List.getElem?_eq_getElem hi, rfl⟩, hk⟩
    · intro a h₅ tk₅ gs hgb hag hsz₅ hk₅ W hat
      have hpass : passing (fun _ => true) vs.toArray.size 0 = List.range ls.length := by
        unfold passing; simp [hlen]
      rw [hpass] at W
      simp only [List.length_range] at W
      refine SC.joinGen W.in4_2 (fun i s' st => st.1.typeIs) hat ?_ List.mem_cons_self (fun j v hv => ?_) (fun s' lt hm hacc => ?_) (by unfold sizeLine; (first | lia | omega))
      · intro b hb'
        show b < h₅.objs.size
        rw [hsz₅]
        rcases List.mem_cons.mp hb' with rfl | hb'
        · exact Nat.lt_succ_self _
        · rcases List.mem_cons.mp hb' with rfl | hb'
          · exact Nat.lt_succ_of_lt hag
          · exact Nat.lt_succ_of_lt (Nat.lt_trans (List.mem_range.mp hb') hag)
      · obtain ⟨i, _, y, u, _, rfl⟩ := hv; exact ⟨_, _, rfl⟩
      · have hl' : lt.map (·.1) = ls.map S := by
          apply List.ext_getElem?
          intro j
          have hsz : lt.length = ls.length := by simpa [strValues] using hacc.1
          by_cases hj : j < ls.length
          · have hj' : j < lt.length := hsz ▸ hj
            obtain ⟨i, hi, y, u, hy, hv⟩ := hacc.2 j (.str lt[j].1 lt[j].2) (by simp [strValues, List.getElem?_eq_getElem hj'])
            have hij : i = j := by
              rw [List.getElem?_range hj] at hi
              exact (Option.some.inj hi).symm
            subst hij
            injection hv with h1 _
            rw [List.getElem?_map, List.getElem?_map, hy, List.getElem?_eq_getElem hj']
            simp [h1]
          · rw [List.getElem?_eq_none (by simpa [hsz] using Nat.le_of_not_lt hj), List.getElem?_eq_none (by simpa using Nat.le_of_not_lt hj)]
        rw [hl', join_eq]
        refine ⟨hok, fun t' k => h t' _ ?_⟩
        have cT : Cx s₀ { s with heap := h₃, toks := tk } T := c₃.tail rfl
        refine (Cx.moved c (fun p hp => ⟨p, hp, rfl⟩) cT (s' := s') ?_ fun b o hb' ho => ?_).tok k
        · refine ⟨s'.heap, s'.toks, s'.gens, ?_, fun ab => ?_⟩
          · have e1 := hm.drawn
            have e2 := hm.os
            obtain ⟨hp', g', d', k', o'⟩ := s'
            simp only at e1 e2
            subst e1 e2
            rfl
          · exact (ab.push hgb).moved hm.gens
        · refine hm.heap b o ?_ (hk₅ b o ho)
          simp only [List.mem_cons, List.not_mem_nil, or_false, not_or]
          exact ⟨fun e => by rw [e] at hb'; exact absurd hb' (Nat.not_lt.mpr (Nat.le_of_lt hlt₃)), fun e => by rw [e] at hb'; exact absurd hb' (Nat.lt_irrefl _)⟩
  cases hf : codeAmong pos ps.toList with
  | none =>
    refine wpAny_genexprCodeX hcode (C₂.code hoP ht) (C₂.tab hoP) hf fun c' h₃ tk₃ hx₃ hge' hlt' hcode₃ _ htab₃ _ => ?_
    exact rest _ h₃ tk₃ hx₃ (Nat.le_trans hge' (Nat.le_of_lt hlt')) ⟨_, htab₃.2, by simpa using TriplesOk_snoc _ _ _ _ ht⟩
  | some cv =>
    refine wpAny_genexprCode_hit hcode (C₂.code hoP ht) hf ?_
    exact rest _ _ _ (fun _ _ _ e => e) (Nat.le_refl _) ⟨_, hoP, ht⟩
end
end
section
set_option maxRecDepth 100000
set_option maxHeartbeats 4000000
open PySem PySem.W PyProof.Rows PySem.Calls
inductive Tk where
  | star | q | one (c : Nat) | grp (st : List Nat)
noncomputable def Tk.sp : Tk → List Nat
  | .star => [42] | .q => [63] | .one c => [c] | .grp st => [91] ++ st ++ [93]
noncomputable def conv (st : List Nat) : List Nat := if st.head? = some 33 then 94 :: st.tail else st
noncomputable def Tk.out : Tk → Option (List Nat)
  | .star => none | .q => some [46] | .one c => some (escF c) | .grp st => some ([91] ++ conv st ++ [93])
theorem Tk.sp_pos (t : Tk) : 1 ≤ t.sp.length := by cases t <;> simp [Tk.sp]
theorem isEmpty_of_last {α : Type} {l : List α} {x : α} (h : l.getLast? = some x) : l.isEmpty = false := by cases l with
  | nil => cases h
  | cons => rfl
theorem cons_of_len {α : Type} {l : List α} (h : 2 ≤ l.length) : ∃ x l', l = x :: l' := by cases l with
  | nil => simp at h
  | cons a b => exact ⟨a, b, rfl⟩
theorem isEmpty_of_len {α : Type} {l : List α} (h : 2 ≤ l.length) : l.isEmpty = false := by cases l with
  | nil => simp at h
  | cons => rfl
/-- the stuffs of the law's patterns -/
noncomputable def stuffs : List (List Nat) := ([[97, 98, 99], [42, 46, 63]].map fun g => match g with
  | [a, b, c] => [[a, a], [b, b], [c, c], [b, a], [c, b], [c, a], [33, a], [33, b], [33, c], [33, a, b], [33, b, c], [33, a, c], [a, 45, c]]
  | _ => []).flatten
noncomputable def Tk.ok : Tk → Bool
  | .star => true | .q => true | .one c => [46, 97, 98, 99].contains c | .grp st => stuffs.contains st
noncomputable def okTs : Bool → List Tk → Bool
  | _, [] => true
  | p, .star :: r => !p && okTs true r
  | _, t :: r => t.ok && okTs false r
noncomputable def spell (ts : List Tk) : List Nat := (ts.map Tk.sp).flatten
theorem spell_le : ∀ ts : List Tk, ts.length ≤ (spell ts).length
  | [] => Nat.le_refl _
  | x :: l => by
    have := spell_le l
    have := Tk.sp_pos x
    simp only [spell, List.map_cons, List.flatten_cons, List.length_append, List.length_cons] at *
    (first | lia | omega)
/-- what stands at the top, as far as translate comes -/
structure Top1 (w : World) (mg mb : Str → Option Value) (h : Heap) (cd P : Addr) : Prop where
  g : Gl dAll mg mb h
  code : ∀ f, mg "_translate" = some (.ref f) → ∀ o pm code doc, h.get? f = some o → o.data = .func (docDef dTr_.name dTr_.params dTr_.body dTr_.scope pm code doc) → code = .ref cd
  hd : CodeHd h cd P
  bu : h.BuiltinsAt mg P
  re : ∃ p, mg "_twin_re_1" = some (.ref p) ∧ PatAt h p
  map : ∃ d fm u, mg "_special_chars_map" = some (.ref d) ∧ (d == sysModules) = false ∧ h.MapOf (intKind PW w) d fm ∧ ∀ ch ∈ [46, 97, 98, 99], fm ((ch : Nat) : Int) = if ch = 46 then some (.str (S [92, 46]) u) else none
noncomputable def stuffOk (st : List Nat) : Bool := quietText st && (decide (2 ≤ st.length) && decide (st.length ≤ 3) && !st.contains 93 && !st.contains 92 && match st with
  | [x, y] => y != 45 && x != 45 && x != 94 && x != 91
  | [x, y, z] => (y == 45 && decide (x ≤ z) && x != 45 && z != 45 && x != 33 && x != 94 && x != 91) || (x == 33 && y != 45 && z != 45)
  | _ => false)
theorem stuffs_ok : stuffs.all stuffOk = true := by decide +kernel
theorem stuff_facts {st : List Nat} (h : stuffs.contains st = true) : quietText st = true ∧ 2 ≤ st.length ∧ st.length ≤ 3 ∧ 93 ∉ st ∧ 92 ∉ st ∧
    ((45 ∉ st ∧ st.head? ≠ some 94 ∧ st.head? ≠ some 91) ∨ ∃ x z, st = [x, 45, z] ∧ x ≤ z ∧ x ≠ 33 ∧ x ≠ 94 ∧ x ≠ 91 ∧ x ≠ 45 ∧ z ≠ 45) := by
  have h1 := List.all_eq_true.mp stuffs_ok st (by simpa using h)
  unfold stuffOk at h1
  simp only [Bool.and_eq_true, decide_eq_true_eq, Bool.not_eq_true'] at h1
  obtain ⟨h0, ⟨⟨⟨h2, h3⟩, h4⟩, h5⟩, h6⟩ := h1
  refine ⟨h0, h2, h3, by simpa using h4, by simpa using h5, ?_⟩
  split at h6
  · rename_i x y
    simp at h6
    exact .inl ⟨by simp; (first | lia | omega), by simp; (first | lia | omega), by simp; (first | lia | omega)⟩
  · rename_i x y z
    simp only [Bool.or_eq_true, Bool.and_eq_true, beq_iff_eq, decide_eq_true_eq, bne_iff_ne] at h6
    rcases h6 with h6 | h6
    · exact .inr ⟨x, z, by rw [h6.1.1.1.1.1.1], by (first | lia | omega), by (first | lia | omega), by (first | lia | omega), by (first | lia | omega), by (first | lia | omega), by (first | lia | omega)⟩
    · exact .inl ⟨by simp; (first | lia | omega), by simp; (first | lia | omega), by simp; (first | lia | omega)⟩
  · cases h6
theorem tr_ok {mg mb : Str → Option Value} {w : World} {cd P f : Addr} {A : Around} {Q E : Value → Shared → Prop} {s₀ s : Shared} {T : Tab} {star : Addr} {ts : List Tk} {t0 u : Tok}
    (hA : Room A 6) (X : Top1 w mg mb s₀.heap cd P) (F : FnAt s₀.heap dTr_ f) (hf : mg "_translate" = some (.ref f)) (c0 : Cx s₀ s T) (hP : (P, tabR) ∈ T) (hz : (spell ts).length ≤ 1000) (hts : okTs false ts = true)
    (hQ : ∀ b vs s', PartsAre star vs (ts.map Tk.out) → Cx s₀ s' ((b, .lst vs) :: T) → Q (.ref b) s') : wpAny (model PW w) A (call (.ref f) [.str (S (spell ts)) t0, .ref star, .str (S [46]) u]) Q E s := by
    have G := X.g
    generalize hpat : spell ts = pat at *
    refine callDC (binds := [("pat", .str (S pat) t0), ("STAR", .ref star), ("QUESTION_MARK", .str (S [46]) u)]) [("pat", .str (S pat) t0), ("STAR", .ref star), ("QUESTION_MARK", .str (S [46]) u)] [] ["res", "add", "i", "n", "c", "j", "stuff", "chunks", "k", "chunk"] [] ["pat", "STAR", "QUESTION_MARK", "res", "add", "i", "n", "c", "j", "stuff", "chunks", "k", "chunk"] _ [] (ks2 := []) hA.d (F.keeps c0.keep) (G.keeps c0.keep).lim (fun _ _ _ => by kernel_rfl) (by kernel_rfl) (by kernel_rfl) (by kernel_rfl)
      (by kernel_rfl) (by kernel_rfl) (by decide +kernel) (by decide +kernel) (by kernel_rfl) (by decide +kernel) rfl (by kernel_rfl) (by kernel_rfl) (by kernel_rfl) (by kernel_rfl) ?_
    intro L code as s₁ hcode has c
    have hcd : code = .ref cd := by
      obtain ⟨o, pm, doc, ho, hd⟩ := hcode
      obtain ⟨o', pm', code', doc', ho', hd', _⟩ := F.ex
      have e := c0.keep _ _ ho'
      rw [ho] at e; cases e
      rw [hd] at hd'
      have := X.code f hf _ _ _ _ ho' hd
      exact this
    subst hcd
    simp only [List.map_cons, List.map_nil, List.cons_append, List.nil_append, List.zip_nil_right, List.zip_nil_left] at c ⊢
    replace c := c0.trans c
    simp only [List.cons_append, List.nil_append] at c
    have hR : Room (A.deeper (envC dTr_ L f (.ref cd) [])) 5 := Room.deeper hA
    have hzs : pat.length ≤ sizeLine := by unfold sizeLine; (first | lia | omega)
    generalize hA9 : A.deeper _ = A9 at hR ⊢
    refine ent ?_
    intro Q9 E9 hQ9 hE9
    refine seqCons ?_
    intro Q7 hQ7
    (refine wpAny_Assign_Name ?_ (hs := by first | rfl | kernel_rfl); (with_reducible refine List_ ?_; refine spliced_none ?_; refine oNewL ‹_› (by exact Nat.le_of_ble_eq_true rfl) fun b' s' c9 => ?_; (try clear c'); rename Cx _ _ _ => c'; refine sL ‹_› (by kernel_rfl) (mm1 _ _ _) (pv3 _ _ _ _ _) (pt1 _ _ _) fun s' c9 => ?_; (try clear c'); rename Cx _ _ _ => c'; refine seqNext ‹_› ?_; refine seqCons fun Q9 hQ9 => ?_); refine wpAny_Assign_Name ?_ (hs := by first | rfl | kernel_rfl); (with_reducible refine rAttrN ?_; refine nL ‹_› (by kernel_rfl) (mm1 _ _ _) (mm3 _ _ _ _ _) ?_; refine oGetAdd ‹_› (Cx.lat c' (mm0 _ _)) fun b' s' c9 => ?_; (try clear c'); rename Cx _ _ _ => c'; refine sL ‹_› (by kernel_rfl) (mm2 _ _ _ _) (pv4 _ _ _ _ _ _) (pt2 _ _ _ _) fun s' c9 => ?_; (try clear c'); rename Cx _ _ _ => c'; refine seqNext ‹_› ?_; refine seqCons fun Q9 hQ9 => ?_; refine rSw2 (by with_unfolding_all rfl) (by with_unfolding_all rfl) ?_; refine Tuple_ ?_; refine rMore (by with_unfolding_all rfl) ?_; refine kInt ‹_› fun t' s' c9 => ?_; (try clear c'); rename Cx _ _ _ => c'; refine rMore (by with_unfolding_all rfl) ?_; refine rCallN ?_; refine nB ‹_› ‹_› (by kernel_rfl) (by rfl) (by rfl) (mm0 _ _) ?_; refine blV ‹_› (Ats.cons (AtV.loc (by kernel_rfl) (mm2 _ _ _ _) (mm0 _ _)) Ats.nil) ?_; refine oLenSS ‹_› (by first | assumption | wtm_at "zz_sz") fun t' s' c9 => ?_; (try clear c'); rename Cx _ _ _ => c'; refine spliced_none ?_; refine oNewT ‹_› (by exact Nat.le_of_ble_eq_true rfl) fun b' s' c9 => ?_; (try clear c'); rename Cx _ _ _ => c'; refine oUnp2 ‹_› (Room.handled ‹_›) (mm0 _ _) fun s' c9 => ?_; (try clear c'); rename Cx _ _ _ => c'; refine rSw2b ?_; refine sL ‹_› (by kernel_rfl) (mm3 _ _ _ _ _) (pv6 _ _ _ _ _ _ _ _) (pt3 _ _ _ _ _) fun s' c9 => ?_; (try clear c'); rename Cx _ _ _ => c'; refine sL ‹_› (by kernel_rfl) (mm3 _ _ _ _ _) (pv5 _ _ _ _ _ _ _) (pt3 _ _ _ _ _) fun s' c9 => ?_; (try clear c'); rename Cx _ _ _ => c'; refine seqNext ‹_› ?_; refine seqCons fun Q9 hQ9 => ?_; refine wpAny_While ?_))
    obtain ⟨R, U, ti, tn, c'⟩ : ∃ R U ti tn, Cx s₀ s' ((U, Rs.obj (addObj R)) :: (R, Rs.lst []) :: (L, Rs.ns [("pat", some (.str (S pat) t0)), ("STAR", some (.ref star)), ("QUESTION_MARK", some (.str (S [46]) u)), ("res", some (.ref R)), ("add", some (.ref U)), ("i", some (.int (0 : Nat) ti)), ("n", some (.int pat.length tn)), ("c", none), ("j", none), ("stuff", none), ("chunks", none), ("k", none), ("chunk", none)]) :: T) :=
      ⟨_, _, _, _, c'.drop (List.sublist_cons_self ..)⟩
    refine whileX (fun n T' => Ex11 fun (ts1 ts2 : List Tk) (pv : List Value) (p : Bool) (ti : Tok) (o1 o2 o3 o4 o5 o6 : Option Value) => An6 (ts1 ++ ts2 = ts) (n = ts2.length) (PartsAre star pv (ts1.map Tk.out)) (okTs p ts2 = true) ((p = false → pv = [] ∨ ∃ x u, pv.getLast? = some (.str (S x) u))) (T' = (U, Rs.obj (addObj R)) :: (R, Rs.lst pv) :: (L, Rs.ns [("pat", some (.str (S pat) t0)), ("STAR", some (.ref star)), ("QUESTION_MARK", some (.str (S [46]) u)), ("res", some (.ref R)), ("add", some (.ref U)), ("i", some (.int ((spell ts1).length : Nat) ti)), ("n", some (.int pat.length tn)), ("c", o1), ("j", o2), ("stuff", o3), ("chunks", o4), ("k", o5), ("chunk", o6)]) :: T))
      (fun T' => Ex8 fun (pv : List Value) (ti : Tok) (o1 o2 o3 o4 o5 o6 : Option Value) => PartsAre star pv (ts.map Tk.out) ∧ T' = (U, Rs.obj (addObj R)) :: (R, Rs.lst pv) :: (L, Rs.ns [("pat", some (.str (S pat) t0)), ("STAR", some (.ref star)), ("QUESTION_MARK", some (.str (S [46]) u)), ("res", some (.ref R)), ("add", some (.ref U)), ("i", some (.int (pat.length : Nat) ti)), ("n", some (.int pat.length tn)), ("c", o1), ("j", o2), ("stuff", o3), ("chunks", o4), ("k", o5), ("chunk", o6)]) :: T)
      ?_ ?_ ts.length ⟨[], ts, [], false, ti, none, none, none, none, none, none, rfl, rfl, trivial, hts, fun _ => .inl rfl, rfl⟩ c'
    · intro n T' s₂ h70 c' Q8 E8 hQ8 hE8
      obtain ⟨ts1, ts2, pv, p, ti, o1, o2, o3, o4, o5, o6, hsplit, rfl, hpv, hok, hlast, rfl⟩ := h70
      have hpl : pat = spell ts1 ++ spell ts2 := by rw [← hpat, ← hsplit]; simp [spell]
      have hpvl : pv.length = ts1.length := by simpa using paLen hpv
      have hl2 := spell_le ts1
      have hpl2 := congrArg List.length hpl
      rw [List.length_append] at hpl2
      have hpz : pv.length ≤ sizeLine := by unfold sizeLine; (first | lia | omega)
      generalize hpre : spell ts1 = pre at *
      (with_reducible refine evI ‹_› (AtI.val (AtV.loc (by kernel_rfl) (mm2 _ _ _ _) (mm5 _ _ _ _ _ _ _))) (AtI.val (AtV.loc (by kernel_rfl) (mm2 _ _ _ _) (mm6 _ _ _ _ _ _ _ _))) (by constructor) (by with_unfolding_all rfl) fun s' c9 => ?_; (try clear c'); rename Cx _ _ _ => c')
      cases ts2 with
      | nil =>
        first | refine iteDF (by simp [spell] at hpl2; (first | lia | omega)) ?_ | rw [decide_eq_false (by simp [spell] at hpl2; (first | lia | omega))]
        skip
        rw [List.append_nil] at hsplit
        subst hsplit
        have e : pre.length = pat.length := by rw [hpl]; simp [spell]
        rw [e] at c'
        exact ⟨_, ⟨pv, ti, o1, o2, o3, o4, o5, o6, hpv, rfl⟩, c'⟩
      | cons tk r =>
        have hpl : pat = pre ++ (tk.sp ++ spell r) := by rw [hpl]; rfl
        have h1sp := tk.sp_pos
        have hlen : pat.length = pre.length + (tk.sp.length + (spell r).length) := by rw [hpl]; simp
        have hgetc : ∀ (j : Nat), j < tk.sp.length → pat[pre.length + j]? = tk.sp[j]? := fun j hj => by
          rw [hpl, List.getElem?_append_right (by (first | lia | omega)), Nat.add_sub_cancel_left, List.getElem?_append_left hj]
        first | refine iteDT (by (first | lia | omega)) ?_ | rw [decide_eq_true (by (first | lia | omega))]
        have hget0 := hgetc 0 (by (first | lia | omega))
        rw [Nat.add_zero] at hget0
        refine lfC hQ8 (fun C8 hC8 hQ8' => ?_)
        clear hQ8
        have done : ∀ (z : Int) (v : Value) (ti : Tok) (o1 o2 o3 o4 o5 o6 : Option Value) (s' : Shared) (p' : Bool), z = pre.length + tk.sp.length → PartsAre star [v] [tk.out] → okTs p' r = true → (p' = false → ∃ x u, v = .str (S x) u) →
            Cx s₀ s' ((U, Rs.obj (addObj R)) :: (R, Rs.lst (pv ++ [v])) :: (L, Rs.ns [("pat", some (.str (S pat) t0)), ("STAR", some (.ref star)), ("QUESTION_MARK", some (.str (S [46]) u)), ("res", some (.ref R)), ("add", some (.ref U)), ("i", some (.int z ti)), ("n", some (.int pat.length tn)), ("c", o1), ("j", o2), ("stuff", o3), ("chunks", o4), ("k", o5), ("chunk", o6)]) :: T) →
            C8 s' := by
          intro z v ti o1 o2 o3 o4 o5 o6 s' p' hz hv hok' hp' c'
          refine hC8 _ ⟨r.length, _, Nat.lt_succ_self _, ⟨ts1 ++ [tk], r, pv ++ [v], p', ti, o1, o2, o3, o4, o5, o6, by simp [hsplit], rfl, by rw [List.map_append]; exact paApp hpv hv, hok', fun h => .inr ?_, rfl⟩, ?_⟩
          · obtain ⟨x, u, rfl⟩ := hp' h
            exact ⟨x, u, by simp⟩
          · have e : z = ((spell (ts1 ++ [tk])).length : Int) := by rw [hz, ← hpre]; simp [spell]
            rw [e] at c'
            exact c'
        ((with_reducible refine seqCons fun Q9 hQ9 => ?_); refine wpAny_Assign_Name ?_ (hs := by first | rfl | kernel_rfl); (with_reducible refine evSub ‹_› (AtV.loc (by kernel_rfl) (mm2 _ _ _ _) (mm0 _ _)) (AtI.val (AtV.loc (by kernel_rfl) (mm2 _ _ _ _) (mm5 _ _ _ _ _ _ _))) fun t' s' c9 => ?_; (try clear c'); rename Cx _ _ _ => c'))
        cases tk with
        | star =>
          refine oItem c' pre.length rfl hget0 hzs rfl (fun _ => rfl) (fun t s' c' => ?_)
          have hok : p = false ∧ okTs true r = true := by simpa [okTs] using hok
          (with_reducible refine sL ‹_› (by kernel_rfl) (mm2 _ _ _ _) (pv7 _ _ _ _ _ _ _ _ _) (pt2 _ _ _ _) fun s' c9 => ?_; (try clear c'); rename Cx _ _ _ => c'; refine seqNext ‹_› ?_; refine asgI ‹_› (AtI.add (AtI.val (AtV.loc (by kernel_rfl) (mm2 _ _ _ _) (mm5 _ _ _ _ _ _ _))) AtI.const) (by first | rfl | kernel_rfl) fun t' => ?_; refine Sto.loc (by kernel_rfl) (mm2 _ _ _ _) (pv5 _ _ _ _ _ _ _) (pt2 _ _ _ _) ?_; intro s' c9; (try clear c'); rename Cx _ _ _ => c'; refine seqCons fun Q9 hQ9 => ?_; refine wpAny_If ?_; refine evS ‹_› (AtS.val (AtV.loc (by kernel_rfl) (mm2 _ _ _ _) (mm7 _ _ _ _ _ _ _ _ _))) (AtS.const q16) (by constructor) (by with_unfolding_all rfl) fun s' c9 => ?_; (try clear c'); rename Cx _ _ _ => c')
          first | refine iteDT rfl ?_ | rw [decide_eq_true rfl]
          (with_reducible refine seqCons fun Q9 hQ9 => ?_; refine wpAny_If ?_; refine isTrue_or ?_; refine isTrue_not ?_; refine rTest (by with_unfolding_all rfl) ?_; refine nL ‹_› (by kernel_rfl) (mm2 _ _ _ _) (mm3 _ _ _ _ _) ?_; refine oTruL ‹_› (Cx.lat c' (mm1 _ _ _)) (by first | assumption | wtm_at "zz_sz") fun s' c9 => ?_; (try clear c'); rename Cx _ _ _ => c')
          have hst : ∀ (b : Bool) (Q : Bool → Shared → Prop), True := fun _ _ => trivial
          rcases hlast hok.1 with rfl | ⟨x, ux, hlv⟩
          · rw [show (!!([] : List Value).isEmpty) = true from rfl]
            ((with_reducible refine iteT ?_; refine iteT ?_; refine seqCons fun Q9 hQ9 => ?_); refine wpAny_Expr_any ?_ (hi := by first | rfl | kernel_rfl) (hs := by first | rfl | kernel_rfl); (with_reducible refine rCallN ?_; refine nL ‹_› (by kernel_rfl) (mm2 _ _ _ _) (mm4 _ _ _ _ _ _) ?_; refine rAddC ‹_› (mm0 _ _) (by with_unfolding_all rfl) ?_; refine rMore (by with_unfolding_all rfl) ?_; refine nL ‹_› (by kernel_rfl) (mm2 _ _ _ _) (mm1 _ _ _) ?_; refine spliced_none ?_; refine ⟨Cx.obj ‹_› (mm0 _ _), ?_⟩; refine oAddC ‹_› (mm0 _ _) (mm1 _ _ _) (by first | assumption | wtm_at "zz_sz") (pt1 _ _ _) fun s' c9 => ?_; (try clear c'); rename Cx _ _ _ => c'; refine seqNext ‹_› ?_; refine wpAny_execs_nil ?_; refine seqNext ‹_› ?_; refine wpAny_execs_nil ?_; refine seqNext ‹_› ?_; refine wpAny_execs_nil ?_; refine lfNext ‹_› ?_))
            refine done _ _ _ _ _ _ _ _ _ _ true ?_ paStar hok.2 (fun h => by cases h) c'
            simp [Tk.sp]
          · have hne := isEmpty_of_last hlv
            rw [show (!!pv.isEmpty) = false by rw [hne]; rfl]
            (with_reducible refine iteF ?_; refine isTrue_or ?_; refine wpAny_isTrue_Compare1 ?_; refine evSub ‹_› (AtV.loc (by kernel_rfl) (mm2 _ _ _ _) (mm3 _ _ _ _ _)) (AtI.neg AtI.const) fun t' s' c9 => ?_; (try clear c'); rename Cx _ _ _ => c')
            rw [List.getLast?_eq_getElem?] at hlv
            refine oItemLneg (c'.lat ((mm1 _ _ _))) (by decide) (by have := (List.getElem?_eq_some_iff.mp hlv).1; (first | lia | omega)) (by decide) (v := .str (S x) ux) (by rw [← hlv]; congr 1; (first | lia | omega)) rfl ?_
            ((with_reducible refine nL ‹_› (by kernel_rfl) (mm2 _ _ _ _) (mm1 _ _ _) ?_; refine oIsNotS ?_; refine wpAny_truthy_bool ?_; refine iteT ?_; refine iteT ?_; refine seqCons fun Q9 hQ9 => ?_); refine wpAny_Expr_any ?_ (hi := by first | rfl | kernel_rfl) (hs := by first | rfl | kernel_rfl); (with_reducible refine rCallN ?_; refine nL ‹_› (by kernel_rfl) (mm2 _ _ _ _) (mm4 _ _ _ _ _ _) ?_; refine rAddC ‹_› (mm0 _ _) (by with_unfolding_all rfl) ?_; refine rMore (by with_unfolding_all rfl) ?_; refine nL ‹_› (by kernel_rfl) (mm2 _ _ _ _) (mm1 _ _ _) ?_; refine spliced_none ?_; refine ⟨Cx.obj ‹_› (mm0 _ _), ?_⟩; refine oAddC ‹_› (mm0 _ _) (mm1 _ _ _) (by first | assumption | wtm_at "zz_sz") (pt1 _ _ _) fun s' c9 => ?_; (try clear c'); rename Cx _ _ _ => c'; refine seqNext ‹_› ?_; refine wpAny_execs_nil ?_; refine seqNext ‹_› ?_; refine wpAny_execs_nil ?_; refine seqNext ‹_› ?_; refine wpAny_execs_nil ?_; refine lfNext ‹_› ?_))
            refine done _ _ _ _ _ _ _ _ _ _ true ?_ paStar hok.2 (fun h => by cases h) c'
            simp [Tk.sp]
        | q =>
          refine oItem c' pre.length rfl hget0 hzs rfl (fun _ => rfl) (fun t s' c' => ?_)
          have hok : okTs false r = true := by simpa [okTs, Tk.ok] using hok
          (with_reducible refine sL ‹_› (by kernel_rfl) (mm2 _ _ _ _) (pv7 _ _ _ _ _ _ _ _ _) (pt2 _ _ _ _) fun s' c9 => ?_; (try clear c'); rename Cx _ _ _ => c'; refine seqNext ‹_› ?_; refine asgI ‹_› (AtI.add (AtI.val (AtV.loc (by kernel_rfl) (mm2 _ _ _ _) (mm5 _ _ _ _ _ _ _))) AtI.const) (by first | rfl | kernel_rfl) fun t' => ?_; refine Sto.loc (by kernel_rfl) (mm2 _ _ _ _) (pv5 _ _ _ _ _ _ _) (pt2 _ _ _ _) ?_; intro s' c9; (try clear c'); rename Cx _ _ _ => c'; refine seqCons fun Q9 hQ9 => ?_; refine wpAny_If ?_; refine evS ‹_› (AtS.val (AtV.loc (by kernel_rfl) (mm2 _ _ _ _) (mm7 _ _ _ _ _ _ _ _ _))) (AtS.const q16) (by constructor) (by with_unfolding_all rfl) fun s' c9 => ?_; (try clear c'); rename Cx _ _ _ => c')
          first | refine iteDF (by decide) ?_ | rw [decide_eq_false (by decide)]
          (with_reducible refine seqCons fun Q9 hQ9 => ?_; refine wpAny_If ?_; refine evS ‹_› (AtS.val (AtV.loc (by kernel_rfl) (mm2 _ _ _ _) (mm7 _ _ _ _ _ _ _ _ _))) (AtS.const q6) (by constructor) (by with_unfolding_all rfl) fun s' c9 => ?_; (try clear c'); rename Cx _ _ _ => c')
          first | refine iteDT rfl ?_ | rw [decide_eq_true rfl]
          ((with_reducible refine seqCons fun Q9 hQ9 => ?_); refine wpAny_Expr_any ?_ (hi := by first | rfl | kernel_rfl) (hs := by first | rfl | kernel_rfl); (with_reducible refine rCallN ?_; refine nL ‹_› (by kernel_rfl) (mm2 _ _ _ _) (mm4 _ _ _ _ _ _) ?_; refine rAddC ‹_› (mm0 _ _) (by with_unfolding_all rfl) ?_; refine rMore (by with_unfolding_all rfl) ?_; refine nL ‹_› (by kernel_rfl) (mm2 _ _ _ _) (mm2 _ _ _ _) ?_; refine spliced_none ?_; refine ⟨Cx.obj ‹_› (mm0 _ _), ?_⟩; refine oAddC ‹_› (mm0 _ _) (mm1 _ _ _) (by first | assumption | wtm_at "zz_sz") (pt1 _ _ _) fun s' c9 => ?_; (try clear c'); rename Cx _ _ _ => c'; refine seqNext ‹_› ?_; refine wpAny_execs_nil ?_; refine seqNext ‹_› ?_; refine wpAny_execs_nil ?_; refine seqNext ‹_› ?_; refine wpAny_execs_nil ?_; refine lfNext ‹_› ?_))
          refine done _ _ _ _ _ _ _ _ _ _ false ?_ paStr hok (fun _ => ⟨_, _, rfl⟩) c'
          simp [Tk.sp]
        | one ch =>
          refine oItem c' pre.length rfl hget0 hzs rfl (fun _ => rfl) (fun t s' c' => ?_)
          have hok : ([46, 97, 98, 99].contains ch) = true ∧ okTs false r = true := by simpa [okTs, Tk.ok] using hok
          have hch : ch ∈ [46, 97, 98, 99] := by simpa using hok.1
          have hne : ch ≠ 42 ∧ ch ≠ 63 ∧ ch ≠ 91 ∧ ch < 128 := by
            simp only [List.mem_cons, List.not_mem_nil, or_false] at hch; (first | lia | omega)
          (with_reducible refine sL ‹_› (by kernel_rfl) (mm2 _ _ _ _) (pv7 _ _ _ _ _ _ _ _ _) (pt2 _ _ _ _) fun s' c9 => ?_; (try clear c'); rename Cx _ _ _ => c'; refine seqNext ‹_› ?_; refine asgI ‹_› (AtI.add (AtI.val (AtV.loc (by kernel_rfl) (mm2 _ _ _ _) (mm5 _ _ _ _ _ _ _))) AtI.const) (by first | rfl | kernel_rfl) fun t' => ?_; refine Sto.loc (by kernel_rfl) (mm2 _ _ _ _) (pv5 _ _ _ _ _ _ _) (pt2 _ _ _ _) ?_; intro s' c9; (try clear c'); rename Cx _ _ _ => c'; refine seqCons fun Q9 hQ9 => ?_; refine wpAny_If ?_; refine evS ‹_› (AtS.val (AtV.loc (by kernel_rfl) (mm2 _ _ _ _) (mm7 _ _ _ _ _ _ _ _ _))) (AtS.const q16) (by constructor) (by with_unfolding_all rfl) fun s' c9 => ?_; (try clear c'); rename Cx _ _ _ => c')
          first | refine iteDF (by simpa using hne.1) ?_ | rw [decide_eq_false (by simpa using hne.1)]
          (with_reducible refine seqCons fun Q9 hQ9 => ?_; refine wpAny_If ?_; refine evS ‹_› (AtS.val (AtV.loc (by kernel_rfl) (mm2 _ _ _ _) (mm7 _ _ _ _ _ _ _ _ _))) (AtS.const q6) (by constructor) (by with_unfolding_all rfl) fun s' c9 => ?_; (try clear c'); rename Cx _ _ _ => c')
          first | refine iteDF (by simpa using hne.2.1) ?_ | rw [decide_eq_false (by simpa using hne.2.1)]
          (with_reducible refine seqCons fun Q9 hQ9 => ?_; refine wpAny_If ?_; refine evS ‹_› (AtS.val (AtV.loc (by kernel_rfl) (mm2 _ _ _ _) (mm7 _ _ _ _ _ _ _ _ _))) (AtS.const q4) (by constructor) (by with_unfolding_all rfl) fun s' c9 => ?_; (try clear c'); rename Cx _ _ _ => c')
          first | refine iteDF (by simpa using hne.2.2.1) ?_ | rw [decide_eq_false (by simpa using hne.2.2.1)]
          obtain ⟨fe, hfe, Fe⟩ := G.fn dEsc (by simp [dAll])
          have hfe' : mg "escape" = some (.ref fe) := hfe
          ((with_reducible refine seqCons fun Q9 hQ9 => ?_); refine wpAny_Expr_any ?_ (hi := by first | rfl | kernel_rfl) (hs := by first | rfl | kernel_rfl); (with_reducible refine rCallN ?_; refine nL ‹_› (by kernel_rfl) (mm2 _ _ _ _) (mm4 _ _ _ _ _ _) ?_; refine rAddC ‹_› (mm0 _ _) (by with_unfolding_all rfl) ?_; refine rMore (by with_unfolding_all rfl) ?_; refine rCallN ?_; refine nG ‹_› ‹_› (by kernel_rfl) (by rfl) ‹_› ?_; refine fnV ‹_› ‹_› (Ats.cons (AtV.loc (by kernel_rfl) (mm2 _ _ _ _) (mm7 _ _ _ _ _ _ _ _ _)) Ats.nil) ?_))
          obtain ⟨d, fm, um, hmd, hd, hm, hfm⟩ := X.map
          refine esc_ok (mg := mg) hmd (hR.le (by decide)) (Fe.keeps c'.keep) (G.keeps c'.keep) hd hne.2.2.2 (let ⟨o, es, ep, ho, r⟩ := hm; ⟨o, es, ep, c'.keep _ _ ho, r⟩) (hfm ch hch) (fun t s' hkp => ?_)
          replace c' := c'.keeps hkp
          (with_reducible refine spliced_none ?_; refine ⟨Cx.obj ‹_› (mm0 _ _), ?_⟩; refine oAddC ‹_› (mm0 _ _) (mm1 _ _ _) (by first | assumption | wtm_at "zz_sz") (pt1 _ _ _) fun s' c9 => ?_; (try clear c'); rename Cx _ _ _ => c'; refine seqNext ‹_› ?_; refine wpAny_execs_nil ?_; refine seqNext ‹_› ?_; refine wpAny_execs_nil ?_; refine seqNext ‹_› ?_; refine wpAny_execs_nil ?_; refine seqNext ‹_› ?_; refine wpAny_execs_nil ?_; refine lfNext ‹_› ?_)
          refine done _ _ _ _ _ _ _ _ _ _ false ?_ paStr hok.2 (fun _ => ⟨_, _, rfl⟩) c'
          simp [Tk.sp]
        | grp st =>
          refine oItem c' pre.length rfl hget0 hzs rfl (fun _ => rfl) (fun tc s' c' => ?_)
          have hok : stuffs.contains st = true ∧ okTs false r = true := by simpa [okTs, Tk.ok] using hok
          obtain ⟨hst, hok⟩ := hok
          obtain ⟨hq, hs2, hs3, hn93, hn92, hsh⟩ := stuff_facts hst
          have hspl : (Tk.grp st).sp.length = st.length + 2 := by simp [Tk.sp]
          have hgs : ∀ (j : Nat), j < st.length → pat[pre.length + 1 + j]? = st[j]? := fun j hj => by
            have := hgetc (j + 1) (by (first | lia | omega))
            rw [show pre.length + 1 + j = pre.length + (j + 1) by (first | lia | omega), this]
            simp only [Tk.sp, List.singleton_append, List.cons_append, List.getElem?_cons_succ, List.nil_append]
            rw [List.getElem?_append_left hj]
          have hge : pat[pre.length + 1 + st.length]? = some 93 := by
            have := hgetc (st.length + 1) (by (first | lia | omega))
            rw [show pre.length + 1 + st.length = pre.length + (st.length + 1) by (first | lia | omega), this]
            simp [Tk.sp]
          (with_reducible refine sL ‹_› (by kernel_rfl) (mm2 _ _ _ _) (pv7 _ _ _ _ _ _ _ _ _) (pt2 _ _ _ _) fun s' c9 => ?_; (try clear c'); rename Cx _ _ _ => c'; refine seqNext ‹_› ?_; refine asgI ‹_› (AtI.add (AtI.val (AtV.loc (by kernel_rfl) (mm2 _ _ _ _) (mm5 _ _ _ _ _ _ _))) AtI.const) (by first | rfl | kernel_rfl) fun t' => ?_; refine Sto.loc (by kernel_rfl) (mm2 _ _ _ _) (pv5 _ _ _ _ _ _ _) (pt2 _ _ _ _) ?_; intro s' c9; (try clear c'); rename Cx _ _ _ => c'; refine seqCons fun Q9 hQ9 => ?_; refine wpAny_If ?_; refine evS ‹_› (AtS.val (AtV.loc (by kernel_rfl) (mm2 _ _ _ _) (mm7 _ _ _ _ _ _ _ _ _))) (AtS.const q16) (by constructor) (by with_unfolding_all rfl) fun s' c9 => ?_; (try clear c'); rename Cx _ _ _ => c')
          first | refine iteDF (by decide) ?_ | rw [decide_eq_false (by decide)]
          (with_reducible refine seqCons fun Q9 hQ9 => ?_; refine wpAny_If ?_; refine evS ‹_› (AtS.val (AtV.loc (by kernel_rfl) (mm2 _ _ _ _) (mm7 _ _ _ _ _ _ _ _ _))) (AtS.const q6) (by constructor) (by with_unfolding_all rfl) fun s' c9 => ?_; (try clear c'); rename Cx _ _ _ => c')
          first | refine iteDF (by decide) ?_ | rw [decide_eq_false (by decide)]
          (with_reducible refine seqCons fun Q9 hQ9 => ?_; refine wpAny_If ?_; refine evS ‹_› (AtS.val (AtV.loc (by kernel_rfl) (mm2 _ _ _ _) (mm7 _ _ _ _ _ _ _ _ _))) (AtS.const q4) (by constructor) (by with_unfolding_all rfl) fun s' c9 => ?_; (try clear c'); rename Cx _ _ _ => c')
          first | refine iteDT rfl ?_ | rw [decide_eq_true rfl]
          (with_reducible refine asgV ‹_› (AtV.loc (by kernel_rfl) (mm2 _ _ _ _) (mm5 _ _ _ _ _ _ _)) (by first | rfl | kernel_rfl) ?_; refine Sto.loc (by kernel_rfl) (mm2 _ _ _ _) (pv8 _ _ _ _ _ _ _ _ _ _) (pt2 _ _ _ _) ?_; intro s' c9; (try clear c'); rename Cx _ _ _ => c')
          refine seqCons ?_
          intro Q6 hQ6
          refine cut1 .next (fun s' => Ex3 fun (a : Nat) (ti tj : Tok) => a ≤ 1 ∧ Cx s₀ s' ((U, Rs.obj (addObj R)) :: (R, Rs.lst pv) :: (L, Rs.ns [("pat", some (.str (S pat) t0)), ("STAR", some (.ref star)), ("QUESTION_MARK", some (.str (S [46]) u)), ("res", some (.ref R)), ("add", some (.ref U)), ("i", some (.int ((pre.length : Int) + 1) ti)), ("n", some (.int pat.length tn)), ("c", some (.str (S [91]) tc)), ("j", some (.int ((pre.length : Int) + 1 + (a : Nat)) tj)), ("stuff", o3), ("chunks", o4), ("k", o5), ("chunk", o6)]) :: T)) ?_ ?_
          · (with_reducible refine wpAny_If ?_; refine isTrue_and ?_; refine evI ‹_› (AtI.val (AtV.loc (by kernel_rfl) (mm2 _ _ _ _) (mm8 _ _ _ _ _ _ _ _ _ _))) (AtI.val (AtV.loc (by kernel_rfl) (mm2 _ _ _ _) (mm6 _ _ _ _ _ _ _ _))) (by constructor) (by with_unfolding_all rfl) fun s' c9 => ?_; (try clear c'); rename Cx _ _ _ => c')
            first | refine iteDT (by (first | lia | omega)) ?_ | rw [decide_eq_true (by (first | lia | omega))]
            (with_reducible refine isTrue_and ?_; refine wpAny_isTrue_Compare1 ?_)
            refine evItem ‹_› (AtV.loc (by kernel_rfl) (mm2 _ _ _ _) (mm0 _ _)) (AtI.val (AtV.loc (by kernel_rfl) (mm2 _ _ _ _) (mm8 _ _ _ _ _ _ _ _ _ _))) (pre.length + 1) (by (first | lia | omega)) (hgs 0 (by (first | lia | omega)) |>.trans (List.getElem?_eq_getElem (by (first | lia | omega)))) hzs (fun _ => rfl) (fun _ => rfl) (fun t s' c' => ?_)
            (with_reducible refine kStrS q15 ‹_› fun t' s' c9 => ?_; (try clear c'); rename Cx _ _ _ => c'; refine oEqS ?_; refine wpAny_truthy_bool ?_)
            by_cases h33 : st[0] = 33
            · first | refine iteDT (by rw [h33]) ?_ | rw [decide_eq_true (by rw [h33])]
              (with_reducible refine isTrue_and_nil ?_; refine iteT ?_; refine asgI ‹_› (AtI.add (AtI.val (AtV.loc (by kernel_rfl) (mm2 _ _ _ _) (mm8 _ _ _ _ _ _ _ _ _ _))) AtI.const) (by first | rfl | kernel_rfl) fun t' => ?_; refine Sto.loc (by kernel_rfl) (mm2 _ _ _ _) (pv8 _ _ _ _ _ _ _ _ _ _) (pt2 _ _ _ _) ?_; intro s' c9; (try clear c'); rename Cx _ _ _ => c'; refine wpAny_execs_nil ?_)
              exact ⟨rfl, 1, _, _, Nat.le_refl _, c'⟩
            · first | refine iteDF (by simpa using h33) ?_ | rw [decide_eq_false (by simpa using h33)]
              (with_reducible refine iteF ?_; refine wpAny_execs_nil ?_)
              exact ⟨rfl, 0, _, _, Nat.zero_le _, by simpa using c'⟩
          rintro s' ⟨a, ti, tj, ha, c'⟩
          try dsimp only
          (with_reducible refine seqNext ‹_› ?_; refine seqCons fun Q9 hQ9 => ?_; refine wpAny_If ?_; refine isTrue_and ?_; refine evI ‹_› (AtI.val (AtV.loc (by kernel_rfl) (mm2 _ _ _ _) (mm8 _ _ _ _ _ _ _ _ _ _))) (AtI.val (AtV.loc (by kernel_rfl) (mm2 _ _ _ _) (mm6 _ _ _ _ _ _ _ _))) (by constructor) (by with_unfolding_all rfl) fun s' c9 => ?_; (try clear c'); rename Cx _ _ _ => c')
          first | refine iteDT (by (first | lia | omega)) ?_ | rw [decide_eq_true (by (first | lia | omega))]
          (with_reducible refine isTrue_and ?_; refine wpAny_isTrue_Compare1 ?_; refine evSub ‹_› (AtV.loc (by kernel_rfl) (mm2 _ _ _ _) (mm0 _ _)) (AtI.val (AtV.loc (by kernel_rfl) (mm2 _ _ _ _) (mm8 _ _ _ _ _ _ _ _ _ _))) fun t' s' c9 => ?_; (try clear c'); rename Cx _ _ _ => c')
          obtain ⟨ca, hca⟩ : ∃ x, st[a]? = some x := ⟨_, List.getElem?_eq_getElem (by (first | lia | omega))⟩
          have hca93 : ca ≠ 93 := fun e => hn93 (e ▸ List.mem_of_getElem? hca)
          refine oItem c' (pre.length + 1 + a) (by (first | lia | omega)) ((hgs a (by (first | lia | omega))).trans hca) hzs rfl (fun _ => rfl) (fun t s' c' => ?_)
          (with_reducible refine kStrS q3 ‹_› fun t' s' c9 => ?_; (try clear c'); rename Cx _ _ _ => c'; refine oEqS ?_; refine wpAny_truthy_bool ?_)
          first | refine iteDF (by simpa using hca93) ?_ | rw [decide_eq_false (by simpa using hca93)]
          (with_reducible refine iteF ?_; refine wpAny_execs_nil ?_; refine seqNext ‹_› ?_; refine seqCons fun Q9 hQ9 => ?_; refine wpAny_While ?_)
          refine whileX (fun n T' => Ex2 fun (a : Nat) (tj : Tok) => An3 (a ≤ st.length) (n = st.length - a) (T' = (U, Rs.obj (addObj R)) :: (R, Rs.lst pv) :: (L, Rs.ns [("pat", some (.str (S pat) t0)), ("STAR", some (.ref star)), ("QUESTION_MARK", some (.str (S [46]) u)), ("res", some (.ref R)), ("add", some (.ref U)), ("i", some (.int ((pre.length : Int) + 1) ti)), ("n", some (.int pat.length tn)), ("c", some (.str (S [91]) tc)), ("j", some (.int ((pre.length : Int) + 1 + (a : Nat)) tj)), ("stuff", o3), ("chunks", o4), ("k", o5), ("chunk", o6)]) :: T))
            (fun T' => ∃ (tj : Tok), T' = (U, Rs.obj (addObj R)) :: (R, Rs.lst pv) :: (L, Rs.ns [("pat", some (.str (S pat) t0)), ("STAR", some (.ref star)), ("QUESTION_MARK", some (.str (S [46]) u)), ("res", some (.ref R)), ("add", some (.ref U)), ("i", some (.int ((pre.length : Int) + 1) ti)), ("n", some (.int pat.length tn)), ("c", some (.str (S [91]) tc)), ("j", some (.int ((pre.length : Int) + 1 + (st.length : Nat)) tj)), ("stuff", o3), ("chunks", o4), ("k", o5), ("chunk", o6)]) :: T) ?_ ?_ _ ⟨a, tj, by (first | lia | omega), rfl, rfl⟩ c'
          · intro n T' s₃ h70 c' Q8 E8 hQ8 hE8
            obtain ⟨a, tj, ha, rfl, rfl⟩ := h70
            (with_reducible refine isTrue_and ?_; refine evI ‹_› (AtI.val (AtV.loc (by kernel_rfl) (mm2 _ _ _ _) (mm8 _ _ _ _ _ _ _ _ _ _))) (AtI.val (AtV.loc (by kernel_rfl) (mm2 _ _ _ _) (mm6 _ _ _ _ _ _ _ _))) (by constructor) (by with_unfolding_all rfl) fun s' c9 => ?_; (try clear c'); rename Cx _ _ _ => c')
            first | refine iteDT (by (first | lia | omega)) ?_ | rw [decide_eq_true (by (first | lia | omega))]
            (with_reducible refine isTrue_and ?_; refine wpAny_isTrue_Compare1 ?_; refine evSub ‹_› (AtV.loc (by kernel_rfl) (mm2 _ _ _ _) (mm0 _ _)) (AtI.val (AtV.loc (by kernel_rfl) (mm2 _ _ _ _) (mm8 _ _ _ _ _ _ _ _ _ _))) fun t' s' c9 => ?_; (try clear c'); rename Cx _ _ _ => c')
            by_cases hae : a = st.length
            · refine oItem c' (pre.length + 1 + st.length) (by (first | lia | omega)) hge hzs rfl (fun _ => rfl) (fun t s' c' => ?_)
              (with_reducible refine kStrS q3 ‹_› fun t' s' c9 => ?_; (try clear c'); rename Cx _ _ _ => c'; refine oNeS ?_; refine wpAny_truthy_bool ?_)
              first | refine iteDT rfl ?_ | rw [decide_eq_true rfl]
              (with_reducible refine iteNF ?_; refine iteF ?_)
              subst hae
              exact ⟨_, ⟨_, rfl⟩, c'⟩
            · obtain ⟨ca, hca⟩ : ∃ x, st[a]? = some x := ⟨_, List.getElem?_eq_getElem (by (first | lia | omega))⟩
              have hca93 : ca ≠ 93 := fun e => hn93 (e ▸ List.mem_of_getElem? hca)
              refine oItem c' (pre.length + 1 + a) (by (first | lia | omega)) ((hgs a (by (first | lia | omega))).trans hca) hzs rfl (fun _ => rfl) (fun t s' c' => ?_)
              (with_reducible refine kStrS q3 ‹_› fun t' s' c9 => ?_; (try clear c'); rename Cx _ _ _ => c'; refine oNeS ?_; refine wpAny_truthy_bool ?_)
              first | refine iteDF (by simpa using hca93) ?_ | rw [decide_eq_false (by simpa using hca93)]
              (with_reducible refine iteNT ?_; refine isTrue_and_nil ?_; refine iteT ?_; refine asgI ‹_› (AtI.add (AtI.val (AtV.loc (by kernel_rfl) (mm2 _ _ _ _) (mm8 _ _ _ _ _ _ _ _ _ _))) AtI.const) (by first | rfl | kernel_rfl) fun t' => ?_; refine Sto.loc (by kernel_rfl) (mm2 _ _ _ _) (pv8 _ _ _ _ _ _ _ _ _ _) (pt2 _ _ _ _) ?_; intro s' c9; (try clear c'); rename Cx _ _ _ => c'; refine wpAny_execs_nil ?_; refine lfNext ‹_› ?_)
              rw [show (pre.length : Int) + 1 + a + 1 = pre.length + 1 + ((a + 1 : Nat) : Int) by (first | lia | omega)] at c'
              exact ⟨_, _, by (first | lia | omega), ⟨a + 1, _, by (first | lia | omega), rfl, rfl⟩, c'⟩
          rintro T' s₃ ⟨tj, rfl⟩ c'
          (with_reducible refine seqNext ‹_› ?_; refine seqCons fun Q9 hQ9 => ?_; refine wpAny_If ?_; refine evI ‹_› (AtI.val (AtV.loc (by kernel_rfl) (mm2 _ _ _ _) (mm8 _ _ _ _ _ _ _ _ _ _))) (AtI.val (AtV.loc (by kernel_rfl) (mm2 _ _ _ _) (mm6 _ _ _ _ _ _ _ _))) (by constructor) (by with_unfolding_all rfl) fun s' c9 => ?_; (try clear c'); rename Cx _ _ _ => c')
          first | refine iteDF (by (first | lia | omega)) ?_ | rw [decide_eq_false (by (first | lia | omega))]
          ((with_reducible refine seqCons fun Q9 hQ9 => ?_); refine wpAny_Assign_Name ?_ (hs := by first | rfl | kernel_rfl); (with_reducible refine evSS ‹_› (AtS.val (AtV.loc (by kernel_rfl) (mm2 _ _ _ _) (mm0 _ _))) (AtI.val (AtV.loc (by kernel_rfl) (mm2 _ _ _ _) (mm5 _ _ _ _ _ _ _))) (AtI.val (AtV.loc (by kernel_rfl) (mm2 _ _ _ _) (mm8 _ _ _ _ _ _ _ _ _ _))) (by first | assumption | wtm_at "zz_sz") (by intro _ _; with_unfolding_all rfl) (by intro _ _; with_unfolding_all rfl) fun t' s' c9 => ?_; (try clear c'); rename Cx _ _ _ => c'; refine sL ‹_› (by kernel_rfl) (mm2 _ _ _ _) (pv9 _ _ _ _ _ _ _ _ _ _ _) (pt2 _ _ _ _) fun s' c9 => ?_; (try clear c'); rename Cx _ _ _ => c'; refine seqNext ‹_› ?_; refine seqCons fun Q9 hQ9 => ?_; refine wpAny_If ?_; refine evS ‹_› (AtS.const q5) (AtS.val (AtV.loc (by kernel_rfl) (mm2 _ _ _ _) (mm9 _ _ _ _ _ _ _ _ _ _ _))) (by constructor) (by with_unfolding_all rfl) fun s' c9 => ?_; (try clear c'); rename Cx _ _ _ => c'))
          have hcut : cutL pat (some ((pre.length : Int) + 1)) (some ((pre.length : Int) + 1 + (st.length : Nat))) = st := by
            have h1 := cut_at pat (pre.length + 1) st.length
            rw [show (((pre.length + 1 : Nat) : Int)) = (pre.length : Int) + 1 by (first | lia | omega)] at h1
            rw [h1, hpl]
            simp [Tk.sp]
          have hstz : st.length ≤ sizeLine := by unfold sizeLine; (first | lia | omega)
          rw [hcut] at c' ⊢
          refine cutIf .next (fun s' => Ex5 fun (tst : Tok) (i' o4 o5 o6 : Option Value) => Cx s₀ s' ((U, Rs.obj (addObj R)) :: (R, Rs.lst pv) :: (L, Rs.ns [("pat", some (.str (S pat) t0)), ("STAR", some (.ref star)), ("QUESTION_MARK", some (.str (S [46]) u)), ("res", some (.ref R)), ("add", some (.ref U)), ("i", i'), ("n", some (.int pat.length tn)), ("c", some (.str (S [91]) tc)), ("j", some (.int ((pre.length : Int) + 1 + (st.length : Nat)) tj)), ("stuff", some (.str (S st) tst)), ("chunks", o4), ("k", o5), ("chunk", o6)]) :: T)) ?_ ?_
          · rcases hsh with ⟨hn45, _⟩ | ⟨x, z, rfl, hxz, hx33, hx94, hx91, hx45, hz45⟩
            · rw [show st.contains 45 = false by simpa using hn45]
              ((with_reducible refine iteNT ?_; refine seqCons fun Q9 hQ9 => ?_); refine wpAny_Assign_Name ?_ (hs := by first | rfl | kernel_rfl); (with_reducible refine rMeth (by with_unfolding_all rfl) ?_; refine nL ‹_› (by kernel_rfl) (mm2 _ _ _ _) (mm9 _ _ _ _ _ _ _ _ _ _ _) ?_))
              (with_reducible refine GM.replace ?_)
              (with_reducible refine rM1s (by with_unfolding_all rfl) ?_; refine rMore (by with_unfolding_all rfl) ?_; refine kStrS q13 ‹_› fun t' s' c9 => ?_; (try clear c'); rename Cx _ _ _ => c'; refine rMore (by with_unfolding_all rfl) ?_; refine kStrS q19 ‹_› fun t' s' c9 => ?_; (try clear c'); rename Cx _ _ _ => c'; refine spliced_none ?_)
              refine replaceNone (occNone hn92) ?_
              (with_reducible refine sL ‹_› (by kernel_rfl) (mm2 _ _ _ _) (pv9 _ _ _ _ _ _ _ _ _ _ _) (pt2 _ _ _ _) fun s' c9 => ?_; (try clear c'); rename Cx _ _ _ => c'; refine seqNext ‹_› ?_; refine wpAny_execs_nil ?_)
              exact ⟨rfl, _, _, _, _, _, c'⟩
            · rw [show [x, 45, z].contains 45 = true by simp]
              ((with_reducible refine iteNF ?_; refine seqCons fun Q9 hQ9 => ?_); refine wpAny_Assign_Name ?_ (hs := by first | rfl | kernel_rfl); (with_reducible refine List_ ?_; refine spliced_none ?_; refine oNewL ‹_› (by exact Nat.le_of_ble_eq_true rfl) fun b' s' c9 => ?_; (try clear c'); rename Cx _ _ _ => c'; refine sL ‹_› (by kernel_rfl) (mm3 _ _ _ _ _) (pv10 _ _ _ _ _ _ _ _ _ _ _ _) (pt3 _ _ _ _ _) fun s' c9 => ?_; (try clear c'); rename Cx _ _ _ => c'; refine seqNext ‹_› ?_; refine seqCons fun Q9 hQ9 => ?_); refine wpAny_Assign_Name ?_ (hs := by first | rfl | kernel_rfl); (with_reducible refine IfExp_ ?_; refine wpAny_isTrue_Compare1 ?_))
              refine evItem ‹_› (AtV.loc (by kernel_rfl) (mm3 _ _ _ _ _) (mm0 _ _)) (AtI.val (AtV.loc (by kernel_rfl) (mm3 _ _ _ _ _) (mm5 _ _ _ _ _ _ _))) (pre.length + 1) (by (first | lia | omega)) ((hgs 0 (by simp)).trans rfl) hzs (fun _ => rfl) (fun _ => rfl) (fun t s' c' => ?_)
              (with_reducible refine kStrS q15 ‹_› fun t' s' c9 => ?_; (try clear c'); rename Cx _ _ _ => c'; refine oEqS ?_; refine wpAny_truthy_bool ?_)
              first | refine iteDF (by simpa using hx33) ?_ | rw [decide_eq_false (by simpa using hx33)]
              (with_reducible refine evN ‹_› (AtI.add (AtI.val (AtV.loc (by kernel_rfl) (mm3 _ _ _ _ _) (mm5 _ _ _ _ _ _ _))) AtI.const) fun t' s' c9 => ?_; (try clear c'); rename Cx _ _ _ => c'; refine sL ‹_› (by kernel_rfl) (mm3 _ _ _ _ _) (pv11 _ _ _ _ _ _ _ _ _ _ _ _ _) (pt3 _ _ _ _ _) fun s' c9 => ?_; (try clear c'); rename Cx _ _ _ => c'; refine seqNext ‹_› ?_; refine seqCons fun Q9 hQ9 => ?_; refine wpAny_While ?_)
              generalize b' = C at *
              refine whileX (fun n T' => ∃ (ti tk tst : Tok), (n = 1 ∧ T' = (C, Rs.lst []) :: (U, Rs.obj (addObj R)) :: (R, Rs.lst pv) :: (L, Rs.ns [("pat", some (.str (S pat) t0)), ("STAR", some (.ref star)), ("QUESTION_MARK", some (.str (S [46]) u)), ("res", some (.ref R)), ("add", some (.ref U)), ("i", some (.int ((pre.length : Int) + 1) ti)), ("n", some (.int pat.length tn)), ("c", some (.str (S [91]) tc)), ("j", some (.int ((pre.length : Int) + 1 + ([x, 45, z].length : Nat)) tj)), ("stuff", some (.str (S [x, 45, z]) tst)), ("chunks", some (.ref C)), ("k", some (.int ((pre.length : Int) + 1 + 1) tk)), ("chunk", o6)]) :: T) ∨ (∃ tx, n = 0 ∧ T' = (C, Rs.lst [.str (S [x]) tx]) :: (U, Rs.obj (addObj R)) :: (R, Rs.lst pv) :: (L, Rs.ns [("pat", some (.str (S pat) t0)), ("STAR", some (.ref star)), ("QUESTION_MARK", some (.str (S [46]) u)), ("res", some (.ref R)), ("add", some (.ref U)), ("i", some (.int ((pre.length + 2 : Nat) + 1) ti)), ("n", some (.int pat.length tn)), ("c", some (.str (S [91]) tc)), ("j", some (.int ((pre.length : Int) + 1 + ([x, 45, z].length : Nat)) tj)), ("stuff", some (.str (S [x, 45, z]) tst)), ("chunks", some (.ref C)), ("k", some (.int ((pre.length + 2 : Nat) + 3) tk)), ("chunk", o6)]) :: T))
                (fun T' => False) ?_ (fun _ _ h => h.elim) 1 ⟨_, _, _, .inl ⟨rfl, rfl⟩⟩ c'
              rintro n T' s₃ ⟨ti, tk, tst, ⟨rfl, rfl⟩ | ⟨tx, rfl, rfl⟩⟩ c'
              all_goals intro Q8 E8 hQ8 hE8
              · ((with_reducible refine rTest (by with_unfolding_all rfl) ?_; refine kBool ?_; refine wpAny_truthy_bool ?_; refine iteT ?_; refine seqCons fun Q9 hQ9 => ?_); refine wpAny_Assign_Name ?_ (hs := by first | rfl | kernel_rfl); (with_reducible refine rMeth (by with_unfolding_all rfl) ?_; refine nL ‹_› (by kernel_rfl) (mm3 _ _ _ _ _) (mm0 _ _) ?_; refine gmFind ?_; refine rM1s (by with_unfolding_all rfl) ?_; refine rMore (by with_unfolding_all rfl) ?_; refine kStrS q5 ‹_› fun t' s' c9 => ?_; (try clear c'); rename Cx _ _ _ => c'; refine rMore (by with_unfolding_all rfl) ?_; refine nL ‹_› (by kernel_rfl) (mm3 _ _ _ _ _) (mm11 _ _ _ _ _ _ _ _ _ _ _ _ _) ?_; refine rMore (by with_unfolding_all rfl) ?_; refine nL ‹_› (by kernel_rfl) (mm3 _ _ _ _ _) (mm8 _ _ _ _ _ _ _ _ _ _) ?_; refine spliced_none ?_))
                refine oFind4i c' (pre.length + 2) (pre.length + 4) (by (first | lia | omega)) (by simp; (first | lia | omega)) (by simp at hspl; (first | lia | omega)) (fun t' s' c' => ?_)
                rw [findL_here (by (first | lia | omega)) ((hgs 1 (by simp)).trans rfl)]
                try dsimp only
                (with_reducible refine sL ‹_› (by kernel_rfl) (mm3 _ _ _ _ _) (pv11 _ _ _ _ _ _ _ _ _ _ _ _ _) (pt3 _ _ _ _ _) fun s' c9 => ?_; (try clear c'); rename Cx _ _ _ => c'; refine seqNext ‹_› ?_; refine seqCons fun Q9 hQ9 => ?_; refine wpAny_If ?_; refine evI ‹_› (AtI.val (AtV.loc (by kernel_rfl) (mm3 _ _ _ _ _) (mm11 _ _ _ _ _ _ _ _ _ _ _ _ _))) AtI.const (by constructor) (by with_unfolding_all rfl) fun s' c9 => ?_; (try clear c'); rename Cx _ _ _ => c')
                first | refine iteDF (by (first | lia | omega)) ?_ | rw [decide_eq_false (by (first | lia | omega))]
                have hc1 : cutL pat (some ((pre.length : Int) + 1)) (some ((pre.length + 2 : Nat) : Int)) = [x] := by
                  have h1 := cut_range pat (pre.length + 1) (pre.length + 2)
                  rw [show (((pre.length + 1 : Nat) : Int)) = (pre.length : Int) + 1 by (first | lia | omega)] at h1
                  rw [h1, hpl, show pre.length + 2 - (pre.length + 1) = 1 by (first | lia | omega)]
                  simp [Tk.sp]
                ((with_reducible refine wpAny_execs_nil ?_; refine seqNext ‹_› ?_; refine seqCons fun Q9 hQ9 => ?_); refine wpAny_Expr_any ?_ (hi := by first | rfl | kernel_rfl) (hs := by first | rfl | kernel_rfl); (with_reducible refine rMeth (by with_unfolding_all rfl) ?_; refine nL ‹_› (by kernel_rfl) (mm3 _ _ _ _ _) (mm10 _ _ _ _ _ _ _ _ _ _ _ _) ?_; refine gmApp (Cx.lat c' (mm0 _ _)) ?_; refine rM1s (by with_unfolding_all rfl) ?_; refine rMore (by with_unfolding_all rfl) ?_; refine evSS ‹_› (AtS.val (AtV.loc (by kernel_rfl) (mm3 _ _ _ _ _) (mm0 _ _))) (AtI.val (AtV.loc (by kernel_rfl) (mm3 _ _ _ _ _) (mm5 _ _ _ _ _ _ _))) (AtI.val (AtV.loc (by kernel_rfl) (mm3 _ _ _ _ _) (mm11 _ _ _ _ _ _ _ _ _ _ _ _ _))) (by first | assumption | wtm_at "zz_sz") (by intro _ _; with_unfolding_all rfl) (by intro _ _; with_unfolding_all rfl) fun t' s' c9 => ?_; (try clear c'); rename Cx _ _ _ => c'; refine spliced_none ?_; refine oApp ‹_› (mm0 _ _) (pt0 _ _) (by first | assumption | wtm_at "zz_sz") fun s' c9 => ?_; (try clear c'); rename Cx _ _ _ => c'; refine seqNext ‹_› ?_; refine asgI ‹_› (AtI.add (AtI.val (AtV.loc (by kernel_rfl) (mm3 _ _ _ _ _) (mm11 _ _ _ _ _ _ _ _ _ _ _ _ _))) AtI.const) (by first | rfl | kernel_rfl) fun t' => ?_; refine Sto.loc (by kernel_rfl) (mm3 _ _ _ _ _) (pv5 _ _ _ _ _ _ _) (pt3 _ _ _ _ _) ?_; intro s' c9; (try clear c'); rename Cx _ _ _ => c'; refine asgI ‹_› (AtI.add (AtI.val (AtV.loc (by kernel_rfl) (mm3 _ _ _ _ _) (mm11 _ _ _ _ _ _ _ _ _ _ _ _ _))) AtI.const) (by first | rfl | kernel_rfl) fun t' => ?_; refine Sto.loc (by kernel_rfl) (mm3 _ _ _ _ _) (pv11 _ _ _ _ _ _ _ _ _ _ _ _ _) (pt3 _ _ _ _ _) ?_; intro s' c9; (try clear c'); rename Cx _ _ _ => c'; refine wpAny_execs_nil ?_; refine lfNext ‹_› ?_))
                rw [hc1] at c'
                exact ⟨0, _, Nat.lt_succ_self _, ⟨_, _, _, .inr ⟨_, rfl, rfl⟩⟩, c'⟩
              · ((with_reducible refine rTest (by with_unfolding_all rfl) ?_; refine kBool ?_; refine wpAny_truthy_bool ?_; refine iteT ?_; refine seqCons fun Q9 hQ9 => ?_); refine wpAny_Assign_Name ?_ (hs := by first | rfl | kernel_rfl); (with_reducible refine rMeth (by with_unfolding_all rfl) ?_; refine nL ‹_› (by kernel_rfl) (mm3 _ _ _ _ _) (mm0 _ _) ?_; refine gmFind ?_; refine rM1s (by with_unfolding_all rfl) ?_; refine rMore (by with_unfolding_all rfl) ?_; refine kStrS q5 ‹_› fun t' s' c9 => ?_; (try clear c'); rename Cx _ _ _ => c'; refine rMore (by with_unfolding_all rfl) ?_; refine nL ‹_› (by kernel_rfl) (mm3 _ _ _ _ _) (mm11 _ _ _ _ _ _ _ _ _ _ _ _ _) ?_; refine rMore (by with_unfolding_all rfl) ?_; refine nL ‹_› (by kernel_rfl) (mm3 _ _ _ _ _) (mm8 _ _ _ _ _ _ _ _ _ _) ?_; refine spliced_none ?_))
                refine oFind4i c' (pre.length + 5) (pre.length + 4) (by (first | lia | omega)) (by simp; (first | lia | omega)) (by simp at hspl; (first | lia | omega)) (fun t' s' c' => ?_)
                rw [findL_out (by (first | lia | omega))]
                try dsimp only
                (with_reducible refine sL ‹_› (by kernel_rfl) (mm3 _ _ _ _ _) (pv11 _ _ _ _ _ _ _ _ _ _ _ _ _) (pt3 _ _ _ _ _) fun s' c9 => ?_; (try clear c'); rename Cx _ _ _ => c'; refine seqNext ‹_› ?_; refine seqCons fun Q9 hQ9 => ?_; refine wpAny_If ?_; refine evI ‹_› (AtI.val (AtV.loc (by kernel_rfl) (mm3 _ _ _ _ _) (mm11 _ _ _ _ _ _ _ _ _ _ _ _ _))) AtI.const (by constructor) (by with_unfolding_all rfl) fun s' c9 => ?_; (try clear c'); rename Cx _ _ _ => c')
                first | refine iteDT (by (first | lia | omega)) ?_ | rw [decide_eq_true (by (first | lia | omega))]
                ((with_reducible refine seqCons fun Q9 hQ9 => ?_; refine wpAny_Break ?_; refine seqBrk ‹_› ?_; refine seqBrk ‹_› ?_; refine lfBrk ‹_› ?_; refine seqNext ‹_› ?_; refine seqCons fun Q9 hQ9 => ?_); refine wpAny_Assign_Name ?_ (hs := by first | rfl | kernel_rfl); (with_reducible refine evSS ‹_› (AtS.val (AtV.loc (by kernel_rfl) (mm3 _ _ _ _ _) (mm0 _ _))) (AtI.val (AtV.loc (by kernel_rfl) (mm3 _ _ _ _ _) (mm5 _ _ _ _ _ _ _))) (AtI.val (AtV.loc (by kernel_rfl) (mm3 _ _ _ _ _) (mm8 _ _ _ _ _ _ _ _ _ _))) (by first | assumption | wtm_at "zz_sz") (by intro _ _; with_unfolding_all rfl) (by intro _ _; with_unfolding_all rfl) fun t' s' c9 => ?_; (try clear c'); rename Cx _ _ _ => c'; refine sL ‹_› (by kernel_rfl) (mm3 _ _ _ _ _) (pv12 _ _ _ _ _ _ _ _ _ _ _ _ _ _) (pt3 _ _ _ _ _) fun s' c9 => ?_; (try clear c'); rename Cx _ _ _ => c'; refine seqNext ‹_› ?_; refine seqCons fun Q9 hQ9 => ?_; refine wpAny_If ?_; refine rTest (by with_unfolding_all rfl) ?_; refine nL ‹_› (by kernel_rfl) (mm3 _ _ _ _ _) (mm12 _ _ _ _ _ _ _ _ _ _ _ _ _ _) ?_))
                have hc1 : cutL pat (some (((pre.length + 2 : Nat) : Int) + 1)) (some ((pre.length : Int) + 1 + ([x, 45, z].length : Nat))) = [z] := by
                  have h1 := cut_range pat (pre.length + 3) (pre.length + 4)
                  rw [show (((pre.length + 3 : Nat) : Int)) = ((pre.length + 2 : Nat) : Int) + 1 by (first | lia | omega), show ((pre.length + 4 : Nat) : Int) = (pre.length : Int) + 1 + ([x, 45, z].length : Nat) by simp; (first | lia | omega)] at h1
                  rw [h1, hpl, show pre.length + 4 - (pre.length + 3) = 1 by (first | lia | omega)]
                  simp [Tk.sp]
                rw [hc1] at c' ⊢
                (with_reducible refine oTruSS ‹_› (by first | assumption | wtm_at "zz_sz") fun s' c9 => ?_; (try clear c'); rename Cx _ _ _ => c')
                rw [show (![z].isEmpty) = true from rfl]
                ((with_reducible refine iteT ?_; refine seqCons fun Q9 hQ9 => ?_); refine wpAny_Expr_any ?_ (hi := by first | rfl | kernel_rfl) (hs := by first | rfl | kernel_rfl); (with_reducible refine rMeth (by with_unfolding_all rfl) ?_; refine nL ‹_› (by kernel_rfl) (mm3 _ _ _ _ _) (mm10 _ _ _ _ _ _ _ _ _ _ _ _) ?_; refine gmApp (Cx.lat c' (mm0 _ _)) ?_; refine rM1s (by with_unfolding_all rfl) ?_; refine rMore (by with_unfolding_all rfl) ?_; refine nL ‹_› (by kernel_rfl) (mm3 _ _ _ _ _) (mm12 _ _ _ _ _ _ _ _ _ _ _ _ _ _) ?_; refine spliced_none ?_; refine oApp ‹_› (mm0 _ _) (pt0 _ _) (by first | assumption | wtm_at "zz_sz") fun s' c9 => ?_; (try clear c'); rename Cx _ _ _ => c'; refine seqNext ‹_› ?_; refine wpAny_execs_nil ?_; refine seqNext ‹_› ?_; refine seqCons fun Q9 hQ9 => ?_); refine wpAny_For ?_ (hs := by intro _; rfl); (with_reducible refine rCallN ?_; refine nB ‹_› ‹_› (by kernel_rfl) (by rfl) (by rfl) (mm1 _ _ _) ?_; refine rT1 (by with_unfolding_all rfl) ?_; refine rMore (by with_unfolding_all rfl) ?_; refine wpAny_BinOp ?_; refine rCallN ?_; refine nB ‹_› ‹_› (by kernel_rfl) (by rfl) (by rfl) (mm0 _ _) ?_; refine blV ‹_› (Ats.cons (AtV.loc (by kernel_rfl) (mm3 _ _ _ _ _) (mm10 _ _ _ _ _ _ _ _ _ _ _ _)) Ats.nil) ?_; refine oLenL ‹_› (Cx.lat c' (mm0 _ _)) (by first | assumption | wtm_at "zz_sz") fun t' s' c9 => ?_; (try clear c'); rename Cx _ _ _ => c'; refine kInt ‹_› fun t' s' c9 => ?_; (try clear c'); rename Cx _ _ _ => c'; refine oSub ‹_› fun t' s' c9 => ?_; (try clear c'); rename Cx _ _ _ => c'; refine rMore (by with_unfolding_all rfl) ?_; refine kInt ‹_› fun t' s' c9 => ?_; (try clear c'); rename Cx _ _ _ => c'; refine rMore (by with_unfolding_all rfl) ?_; refine evN ‹_› (AtI.neg AtI.const) fun t' s' c9 => ?_; (try clear c'); rename Cx _ _ _ => c'; refine spliced_none ?_))
                refine rangeIterD (m := 1) c' (by decide) (fun it s' c' => ?_)
                obtain ⟨tz, c'⟩ : ∃ tz, Cx s₀ s' ((it, .obj (rIt (1 : Nat) (1 : Nat) (-1))) :: (C, Rs.lst [.str (S [x]) tx, .str (S [z]) tz]) :: (U, Rs.obj (addObj R)) :: (R, Rs.lst pv) :: (L, Rs.ns [("pat", some (.str (S pat) t0)), ("STAR", some (.ref star)), ("QUESTION_MARK", some (.str (S [46]) u)), ("res", some (.ref R)), ("add", some (.ref U)), ("i", some (.int ((pre.length + 2 : Nat) + 1) ti)), ("n", some (.int pat.length tn)), ("c", some (.str (S [91]) tc)), ("j", some (.int ((pre.length : Int) + 1 + ([x, 45, z].length : Nat)) tj)), ("stuff", some (.str (S [x, 45, z]) tst)), ("chunks", some (.ref C)), ("k", _), ("chunk", some (.str (S [z]) tz))]) :: T) := ⟨_, c'⟩
                refine forW (walkD (m := 1) hR.handled) (fun k T' => ∃ (o5 : Option Value), T' = (C, Rs.lst [.str (S [x]) tx, .str (S [z]) tz]) :: (U, Rs.obj (addObj R)) :: (R, Rs.lst pv) :: (L, Rs.ns [("pat", some (.str (S pat) t0)), ("STAR", some (.ref star)), ("QUESTION_MARK", some (.str (S [46]) u)), ("res", some (.ref R)), ("add", some (.ref U)), ("i", some (.int ((pre.length + 2 : Nat) + 1) ti)), ("n", some (.int pat.length tn)), ("c", some (.str (S [91]) tc)), ("j", some (.int ((pre.length : Int) + 1 + ([x, 45, z].length : Nat)) tj)), ("stuff", some (.str (S [x, 45, z]) tst)), ("chunks", some (.ref C)), ("k", o5), ("chunk", some (.str (S [z]) tz))]) :: T)
                  (fun _ _ _ _ _ => trivial) ?_ ?_ ⟨_, rfl⟩ c' (fun _ => rfl)
                · intro k v T' s₃ hk h70 h71 c' Q8 E8 hQ8 hE8
                  obtain ⟨tk, rfl⟩ := h70
                  obtain ⟨o5, rfl⟩ := h71
                  obtain rfl : k = 0 := by (first | lia | omega)
                  refine wpAny_assign_Name ?_
                  (with_reducible refine sL ‹_› (by kernel_rfl) (mm4 _ _ _ _ _ _) (pv11 _ _ _ _ _ _ _ _ _ _ _ _ _) (pt4 _ _ _ _ _ _) fun s' c9 => ?_; (try clear c'); rename Cx _ _ _ => c'; refine seqCons fun Q9 hQ9 => ?_; refine wpAny_If ?_; refine wpAny_isTrue_Compare1 ?_; refine Subscript_ ?_; refine evSub ‹_› (AtV.loc (by kernel_rfl) (mm4 _ _ _ _ _ _) (mm10 _ _ _ _ _ _ _ _ _ _ _ _)) (AtI.sub (AtI.val (AtV.loc (by kernel_rfl) (mm4 _ _ _ _ _ _) (mm11 _ _ _ _ _ _ _ _ _ _ _ _ _))) AtI.const) fun t' s' c9 => ?_; (try clear c'); rename Cx _ _ _ => c')
                  refine oItemL (v := .str (S [x]) tx) (c'.lat ((mm1 _ _ _))) (by decide) (by decide) rfl rfl ?_
                  (with_reducible refine evN ‹_› (AtI.neg AtI.const) fun t' s' c9 => ?_; (try clear c'); rename Cx _ _ _ => c')
                  refine oItemLast c' (ch := x) rfl (by wtm_at "zz_sz") rfl (fun _ => rfl) (fun t s' c' => ?_)
                  (with_reducible refine Subscript_ ?_; refine evSub ‹_› (AtV.loc (by kernel_rfl) (mm4 _ _ _ _ _ _) (mm10 _ _ _ _ _ _ _ _ _ _ _ _)) (AtI.val (AtV.loc (by kernel_rfl) (mm4 _ _ _ _ _ _) (mm11 _ _ _ _ _ _ _ _ _ _ _ _ _))) fun t' s' c9 => ?_; (try clear c'); rename Cx _ _ _ => c')
                  refine oItemL (v := .str (S [z]) tz) (c'.lat ((mm1 _ _ _))) (by decide) (by decide) rfl rfl ?_
                  (with_reducible refine kInt ‹_› fun t' s' c9 => ?_; (try clear c'); rename Cx _ _ _ => c')
                  refine oItem c' 0 rfl (ch := z) rfl (by wtm_at "zz_sz") rfl (fun _ => rfl) (fun t s' c' => ?_)
                  (with_reducible refine oGtS ?_; refine wpAny_truthy_bool ?_)
                  first | refine iteDF (by rw [List.cons_lt_cons_iff]; simp; (first | lia | omega)) ?_ | rw [decide_eq_false (by rw [List.cons_lt_cons_iff]; simp; (first | lia | omega))]
                  (with_reducible refine wpAny_execs_nil ?_; refine seqNext ‹_› ?_; refine wpAny_execs_nil ?_; refine lfNext ‹_› ?_)
                  exact ⟨_, ⟨_, rfl⟩, c'⟩
                · rintro T' s₃ ⟨o5, rfl⟩ c'
                  ((with_reducible refine seqNext ‹_› ?_; refine seqCons fun Q9 hQ9 => ?_); refine wpAny_Assign_Name ?_ (hs := by first | rfl | kernel_rfl); (with_reducible refine rMeth (by with_unfolding_all rfl) ?_; refine kStrS q5 ‹_› fun t' s' c9 => ?_; (try clear c'); rename Cx _ _ _ => c'; refine gmJoin ?_; refine rM1s (by with_unfolding_all rfl) ?_; refine rMore (by with_unfolding_all rfl) ?_))
                  refine wpAny_mono (genJoin (cd := cd) (P := P) (l := C) (ls := [[x], [z]]) (vs := [.str (S [x]) tx, .str (S [z]) tz]) (cl := []) c' G hR.d hR.handled rfl rfl rfl X.hd X.bu (by simp only [List.mem_cons]; simp [hP]) ((mm0 _ _)) (.cons _ _ (.cons _ _ .nil)) (by simp) (joinOk_of_weight (by simp) (by simp)) rfl (by with_unfolding_all rfl) (by decide +kernel) (by decide +kernel) (by decide +kernel) rfl (fun _ => by with_unfolding_all rfl) (fun Q h => ?_) ?_ (fun t s' c' => ?_)) (fun v s₁ h => spliced_none h) (fun _ _ e => e)
                  · (with_reducible refine nL ‹_› (by kernel_rfl) (mm3 _ _ _ _ _) (mm10 _ _ _ _ _ _ _ _ _ _ _ _) ?_)
                    exact h
                  · intro A' E' s₂ m₂ C2 code y u2 hh' hns hm hy
                    have hy2 : 92 ∉ y ∧ 45 ∉ y := by
                      simp only [List.mem_cons, List.not_mem_nil, or_false] at hn92 hy
                      rcases hy with rfl | rfl
                      · simp; (first | lia | omega)
                      · simp; (first | lia | omega)
                    refine MethodCall_ ?_ (he := by with_unfolding_all rfl)
                    refine MethodCall_ ?_ (he := by with_unfolding_all rfl)
                    refine wpAny_Name (wpAny_loadName_local rfl (by kernel_rfl) hns hm ?_) rfl
                    (with_reducible refine GM.replace ?_)
                    refine rM1s (by with_unfolding_all rfl) ?_
                    refine rMore (by with_unfolding_all rfl) (Constant_str ?_)
                    refine rMore (by with_unfolding_all rfl) (Constant_str ?_)
                    refine spliced_none ?_
                    refine replaceNone (by rw [q13]; exact occNone hy2.1) ?_
                    (with_reducible refine GM.replace ?_)
                    refine rM1s (by with_unfolding_all rfl) ?_
                    refine rMore (by with_unfolding_all rfl) (Constant_str ?_)
                    refine rMore (by with_unfolding_all rfl) (Constant_str ?_)
                    refine spliced_none ?_
                    refine replaceNone (by rw [q5]; exact occNone hy2.2) ?_
                    exact ⟨⟨_, rfl⟩, _, _, rfl, fun _ _ e => e⟩
                  · have e : joinL [45] [[x], [z]] = [x, 45, z] := rfl
                    rw [e]
                    (with_reducible refine sL ‹_› (by kernel_rfl) (mm3 _ _ _ _ _) (pv9 _ _ _ _ _ _ _ _ _ _ _) (pt3 _ _ _ _ _) fun s' c9 => ?_; (try clear c'); rename Cx _ _ _ => c'; refine seqNext ‹_› ?_; refine wpAny_execs_nil ?_)
                    exact ⟨rfl, _, _, _, _, _, c'.tail rfl⟩
          rintro s' ⟨tst, i', o4, o5, o6, c'⟩
          try dsimp only
          obtain ⟨p, hre, hpat2⟩ := X.re
          ((with_reducible refine seqNext ‹_› ?_; refine seqCons fun Q9 hQ9 => ?_); refine wpAny_Assign_Name ?_ (hs := by first | rfl | kernel_rfl); (with_reducible refine rMeth (by with_unfolding_all rfl) ?_; refine nG ‹_› ‹_› (by kernel_rfl) (by rfl) ‹_› ?_))
          refine gmSub (hpat2.keeps c'.keep) ?_
          (with_reducible refine rM1s (by with_unfolding_all rfl) ?_; refine rMore (by with_unfolding_all rfl) ?_)
          refine oLam c' G rfl rfl X.hd X.bu (by simp only [List.mem_cons]; simp [hP]) rfl (by with_unfolding_all rfl) (fun fl s' c' => ?_)
          (with_reducible refine rMore (by with_unfolding_all rfl) ?_; refine nL ‹_› (by kernel_rfl) (mm3 _ _ _ _ _) (mm9 _ _ _ _ _ _ _ _ _ _ _) ?_; refine spliced_none ?_)
          obtain ⟨ol, hol, hocl⟩ := c'.sat List.mem_cons_self
          refine call_sub_quiet (op := ol) (hpat2.keeps c'.keep) hol hocl hq (by (first | lia | omega)) (by (first | lia | omega)) (fun h' t' tk hk => ?_)
          replace c' := (c'.grow tk hk).tail rfl
          change wpAny _ _ (storeName _ _ (.str (S st) t')) _ _ _
          (with_reducible refine sL ‹_› (by kernel_rfl) (mm2 _ _ _ _) (pv9 _ _ _ _ _ _ _ _ _ _ _) (pt2 _ _ _ _) fun s' c9 => ?_; (try clear c'); rename Cx _ _ _ => c'; refine seqNext ‹_› ?_; refine asgI ‹_› (AtI.add (AtI.val (AtV.loc (by kernel_rfl) (mm2 _ _ _ _) (mm8 _ _ _ _ _ _ _ _ _ _))) AtI.const) (by first | rfl | kernel_rfl) fun t' => ?_; refine Sto.loc (by kernel_rfl) (mm2 _ _ _ _) (pv5 _ _ _ _ _ _ _) (pt2 _ _ _ _) ?_; intro s' c9; (try clear c'); rename Cx _ _ _ => c'; refine seqCons fun Q9 hQ9 => ?_; refine wpAny_If ?_; refine isTrue_not ?_; refine rTest (by with_unfolding_all rfl) ?_; refine nL ‹_› (by kernel_rfl) (mm2 _ _ _ _) (mm9 _ _ _ _ _ _ _ _ _ _ _) ?_; refine oTruSS ‹_› (by first | assumption | wtm_at "zz_sz") fun s' c9 => ?_; (try clear c'); rename Cx _ _ _ => c')
          have hne := isEmpty_of_len hs2
          rw [show (!!st.isEmpty) = false by rw [hne]; rfl]
          (with_reducible refine iteF ?_; refine seqCons fun Q9 hQ9 => ?_; refine wpAny_If ?_; refine evS ‹_› (AtS.val (AtV.loc (by kernel_rfl) (mm2 _ _ _ _) (mm9 _ _ _ _ _ _ _ _ _ _ _))) (AtS.const q15) (by constructor) (by with_unfolding_all rfl) fun s' c9 => ?_; (try clear c'); rename Cx _ _ _ => c')
          first | refine iteDF (by rintro rfl; simp at hs2) ?_ | rw [decide_eq_false (by rintro rfl; simp at hs2)]
          (with_reducible refine seqCons fun Q9 hQ9 => ?_; refine wpAny_If ?_; refine wpAny_isTrue_Compare1 ?_; refine evSub ‹_› (AtV.loc (by kernel_rfl) (mm2 _ _ _ _) (mm9 _ _ _ _ _ _ _ _ _ _ _)) AtI.const fun t' s' c9 => ?_; (try clear c'); rename Cx _ _ _ => c')
          obtain ⟨x0, st1, hst1⟩ := cons_of_len hs2
          have hx0 : st[0]? = some x0 := by rw [hst1]; rfl
          have hcv : (conv st).length ≤ 3 := by
            unfold conv; split
            · simp; (first | lia | omega)
            · exact hs3
          refine oItem c' 0 rfl hx0 hstz rfl (fun _ => rfl) (fun t s' c' => ?_)
          (with_reducible refine kStrS q15 ‹_› fun t' s' c9 => ?_; (try clear c'); rename Cx _ _ _ => c'; refine oEqS ?_; refine wpAny_truthy_bool ?_)
          refine cutIf .next (fun s' => Ex2 fun (ti tst : Tok) => Cx s₀ s' ((U, Rs.obj (addObj R)) :: (R, Rs.lst pv) :: (L, Rs.ns [("pat", some (.str (S pat) t0)), ("STAR", some (.ref star)), ("QUESTION_MARK", some (.str (S [46]) u)), ("res", some (.ref R)), ("add", some (.ref U)), ("i", some (.int ((pre.length : Int) + 1 + (st.length : Nat) + 1) ti)), ("n", some (.int pat.length tn)), ("c", some (.str (S [91]) tc)), ("j", some (.int ((pre.length : Int) + 1 + (st.length : Nat)) tj)), ("stuff", some (.str (S (conv st)) tst)), ("chunks", o4), ("k", o5), ("chunk", o6)]) :: T)) ?_ ?_
          · by_cases h33 : x0 = 33
            · first | refine iteDT (by rw [h33]) ?_ | rw [decide_eq_true (by rw [h33])]
              ((with_reducible refine seqCons fun Q9 hQ9 => ?_); refine wpAny_Assign_Name ?_ (hs := by first | rfl | kernel_rfl); (with_reducible refine wpAny_BinOp ?_; refine kStrS q14 ‹_› fun t' s' c9 => ?_; (try clear c'); rename Cx _ _ _ => c'; refine evSN ‹_› (AtS.val (AtV.loc (by kernel_rfl) (mm2 _ _ _ _) (mm9 _ _ _ _ _ _ _ _ _ _ _))) AtI.const (by first | assumption | wtm_at "zz_sz") (by intro _ _; with_unfolding_all rfl) (by intro _ _; with_unfolding_all rfl) fun t' s' c9 => ?_; (try clear c'); rename Cx _ _ _ => c'))
              have hct : cutL st (some 1) none = st.tail := by rw [hst1, cut_tail]; rfl
              have e : conv st = [94] ++ st.tail := by unfold conv; rw [if_pos (by rw [hst1, h33]; rfl)]; rfl
              rw [hct]
              have hst2 : st.tail.length ≤ 3 := by rw [List.length_tail]; (first | lia | omega)
              (with_reducible refine oCatS ‹_› (by first | assumption | wtm_at "zz_sz") fun t' s' c9 => ?_; (try clear c'); rename Cx _ _ _ => c'; refine sL ‹_› (by kernel_rfl) (mm2 _ _ _ _) (pv9 _ _ _ _ _ _ _ _ _ _ _) (pt2 _ _ _ _) fun s' c9 => ?_; (try clear c'); rename Cx _ _ _ => c'; refine seqNext ‹_› ?_; refine wpAny_execs_nil ?_)
              exact ⟨rfl, _, _, by rw [e]; exact c'⟩
            · first | refine iteDF (by simpa using h33) ?_ | rw [decide_eq_false (by simpa using h33)]
              (with_reducible refine seqCons fun Q9 hQ9 => ?_; refine wpAny_If ?_; refine wpAny_isTrue_Compare1 ?_)
              refine evItem ‹_› (AtV.loc (by kernel_rfl) (mm2 _ _ _ _) (mm9 _ _ _ _ _ _ _ _ _ _ _)) AtI.const 0 rfl hx0 hstz (fun _ => rfl) (fun _ => rfl) (fun t s' c' => ?_)
              (with_reducible refine Tuple_ ?_; refine rMore (by with_unfolding_all rfl) ?_; refine kStrS q14 ‹_› fun t' s' c9 => ?_; (try clear c'); rename Cx _ _ _ => c'; refine rMore (by with_unfolding_all rfl) ?_; refine kStrS q4 ‹_› fun t' s' c9 => ?_; (try clear c'); rename Cx _ _ _ => c'; refine spliced_none ?_; refine oNewT ‹_› (by exact Nat.le_of_ble_eq_true rfl) fun b' s' c9 => ?_; (try clear c'); rename Cx _ _ _ => c')
              refine oInT2 (ls := [[94], [91]]) c' ((mm0 _ _)) (.cons _ _ (.cons _ _ .nil)) ?_
              have e : conv st = st := by unfold conv; rw [if_neg (by rw [hst1]; simpa using h33)]
              have hc2 : [[94], [91]].contains [x0] = false := by
                rcases hsh with ⟨_, h1, h2⟩ | ⟨x, z, h0, hxz, hx33, hx94, hx91, _⟩
                · rw [hst1] at h1 h2
                  simp at h1 h2
                  simp; (first | lia | omega)
                · rw [hst1] at h0
                  cases h0
                  simp; (first | lia | omega)
              rw [hc2]
              (with_reducible refine wpAny_truthy_bool ?_; refine iteF ?_; refine wpAny_execs_nil ?_; refine seqNext ‹_› ?_; refine wpAny_execs_nil ?_)
              exact ⟨rfl, _, _, by rw [e]; exact c'.tail rfl⟩
          rintro s' ⟨ti, tst, c'⟩
          try dsimp only
          ((with_reducible refine seqNext ‹_› ?_; refine seqCons fun Q9 hQ9 => ?_); refine wpAny_Expr_any ?_ (hi := by first | rfl | kernel_rfl) (hs := by first | rfl | kernel_rfl); (with_reducible refine rCallN ?_; refine nL ‹_› (by kernel_rfl) (mm2 _ _ _ _) (mm4 _ _ _ _ _ _) ?_; refine rAddC ‹_› (mm0 _ _) (by with_unfolding_all rfl) ?_; refine rMore (by with_unfolding_all rfl) ?_; refine rJoined ?_; refine rPart ?_; refine kStrS q4 ‹_› fun t' s' c9 => ?_; (try clear c'); rename Cx _ _ _ => c'; refine ⟨_, _, rfl, (by first | assumption | wtm_at "zz_sz" | omega), ?_⟩; refine rPart ?_; refine rFmt ?_; refine nL ‹_› (by kernel_rfl) (mm2 _ _ _ _) (mm9 _ _ _ _ _ _ _ _ _ _ _) ?_; refine oFmt ‹_› (by first | assumption | wtm_at "zz_sz" | omega) fun t' s' c9 => ?_; (try clear c'); rename Cx _ _ _ => c'; refine ⟨_, _, rfl, (by first | assumption | wtm_at "zz_sz" | omega), ?_⟩; refine rPartE ?_; refine rPart ?_; refine kStrS q3 ‹_› fun t' s' c9 => ?_; (try clear c'); rename Cx _ _ _ => c'; refine ⟨_, _, rfl, (by first | assumption | wtm_at "zz_sz" | omega), ?_⟩; refine rPart0 ‹_› (by first | assumption | wtm_at "zz_sz" | omega) fun t' s' c9 => ?_; (try clear c'); rename Cx _ _ _ => c'; refine spliced_none ?_; refine ⟨Cx.obj ‹_› (mm0 _ _), ?_⟩; refine oAddC ‹_› (mm0 _ _) (mm1 _ _ _) (by first | assumption | wtm_at "zz_sz") (pt1 _ _ _) fun s' c9 => ?_; (try clear c'); rename Cx _ _ _ => c'; refine seqNext ‹_› ?_; refine wpAny_execs_nil ?_; refine seqNext ‹_› ?_; refine wpAny_execs_nil ?_; refine seqNext ‹_› ?_; refine wpAny_execs_nil ?_; refine seqNext ‹_› ?_; refine wpAny_execs_nil ?_; refine seqNext ‹_› ?_; refine wpAny_execs_nil ?_; refine seqNext ‹_› ?_; refine wpAny_execs_nil ?_; refine seqNext ‹_› ?_; refine wpAny_execs_nil ?_; refine lfNext ‹_› ?_))
          refine done _ _ _ _ _ _ _ _ _ _ false ?_ paStr hok (fun _ => ⟨_, _, rfl⟩) c'
          rw [hspl]; (first | lia | omega)
    · rintro T' s₂ ⟨pv, ti, o1, o2, o3, o4, o5, o6, hpv, rfl⟩ c'
      (with_reducible refine seqNext ‹_› ?_; refine seqCons fun Q9 hQ9 => ?_; refine wpAny_Assert_holds ?_; refine evI ‹_› (AtI.val (AtV.loc (by kernel_rfl) (mm2 _ _ _ _) (mm5 _ _ _ _ _ _ _))) (AtI.val (AtV.loc (by kernel_rfl) (mm2 _ _ _ _) (mm6 _ _ _ _ _ _ _ _))) (by constructor) (by with_unfolding_all rfl) fun s' c9 => ?_; (try clear c'); rename Cx _ _ _ => c')
      first | refine iteDT rfl ?_ | rw [decide_eq_true rfl]
      ((with_reducible refine andT ?_; refine seqNext ‹_› ?_; refine seqCons fun Q9 hQ9 => ?_; refine wpAny_Return_some ?_; refine nL ‹_› (by kernel_rfl) (mm2 _ _ _ _) (mm3 _ _ _ _ _) ?_; refine seqRet ‹_› ?_; refine finRet ‹_› ?_); dsimp only)
      exact hQ _ _ _ hpv (c'.drop (.cons _ (.cons_cons _ (.cons _ (List.Sublist.refl _)))))
end
section
set_option maxRecDepth 100000
open PySem PySem.W PyProof.Rows PySem.Calls
theorem lk_object_new : typeLookup (.type "object") "__new__" = pure (some (.builtin "object.__new__")) := by rw [typeLookup_type, builtinLookup_eq_fast]; kernel_rfl
theorem slot_object_init : Slot "object" "__init__" "object.__init__" :=
  .of (owner := "object") (n := "__init__") (by rw [typeLookup_type, builtinLookup_eq_fast]; kernel_rfl) (by decide +kernel) (by decide +kernel) (by decide +kernel)
    (by first | exact .inl (by decide +kernel) | exact .inr (by decide +kernel)) (by rw [isSubtype_type]; kernel_rfl)
theorem mro_obj : mroOf (.type "object") = pure [.type "object"] := by rw [mroOf_type]; kernel_rfl
theorem called_object : TypeCalled "object" "object.__new__" "object.__init__" :=
  ⟨by decide +kernel, by decide +kernel, ⟨_, _, mro_obj⟩, madeBy_type mro_obj lk_object_new (by decide +kernel), by decide +kernel, by rw [isSubtype_type]; kernel_rfl, slot_object_init⟩
theorem typeCall_object : checkTypeCall "object" ⟨[], []⟩ = pure () := by kernel_rfl
theorem newCall_object : checkBuiltinCall "object.__new__" ⟨[.type "object"], []⟩ = pure () := by kernel_rfl
theorem args_object_init1 (obj : Value) : argsOk "object.__init__" ⟨[obj], []⟩ := by unfold argsOk; kernel_rfl
theorem object_new_meets : Meets (Builtin.«object.__new__» ⟨[.type "object"], []⟩) (fun _ R s => R (.ok (.ret (Value.ref s.heap.objs.size))) { s with heap := s.heap.push { cls := .type "object", data := .plain } }) :=
  .of_wp fun prog w A R s h => by
    obtain ⟨hp, g, d, tk, os⟩ := s
    have hm := called_object.made
    unfold Builtin.«object.__new__»
    refine wpAny_bind (wpAny_of_eq (a := true) (by first | rfl | kernel_rfl) ?_)
    repeat (any_goals (first | assumption | wp_step))
    exact ⟨_, rfl, h⟩
section
variable {prog : Program} {w : World} {A : Around} {E : Value → Shared → Prop} {s₀ s : Shared} {T : Tab}
theorem oObject {Q : Value → Shared → Prop} (c : Cx s₀ s T) (h : ∀ a s', Cx s₀ s' ((a, .obj { cls := .type "object", data := .plain }) :: T) → Q (.ref a) s') : wpAny (model prog w) A (call (.type "object") []) Q E s :=
  callType_meets called_object typeCall_object newCall_object F.entry_object_new F.entry_object_init object_new_meets
    (Q₁ := fun obj s₁ => s₁.TypeIs obj "object" ∧ Q obj s₁) (show wants _ _ _ _ from ⟨⟨_, Heap.get?_push_size _ rfl, rfl⟩, h _ _ (c.push rfl rfl)⟩) fun obj s₁ hq => ⟨hq.1, args_object_init1 _, _, Meets.of_wp fun prog w A R s (hs : R (.ok (.ret .none)) s) => wpAny_pure ⟨_, rfl, hs⟩, rfl, hq.2⟩
end
end
section
set_option maxRecDepth 100000
set_option maxHeartbeats 4000000
open PySem PySem.W PyProof.Rows PySem.Calls
theorem stuffs_len {st : List Nat} (h : stuffs.contains st = true) : (conv st).length ≤ 3 ∧ st.length ≤ 3 := by
  obtain ⟨_, _, h3, _⟩ := stuff_facts h
  refine ⟨?_, h3⟩
  unfold conv; split
  · simp; (first | lia | omega)
  · exact h3
theorem out_len : ∀ {p : Bool} {ts : List Tk}, okTs p ts = true → ∀ x, some x ∈ ts.map Tk.out → x.length ≤ 20
  | _, [], _, x, hx => by simp at hx
  | p, .star :: r, h, x, hx => by
    simp only [okTs, Bool.and_eq_true] at h
    simp only [List.map_cons, List.mem_cons, Tk.out, reduceCtorEq, false_or] at hx
    exact out_len h.2 x hx
  | p, .q :: r, h, x, hx => by
    simp only [okTs, Bool.and_eq_true] at h
    simp only [List.map_cons, List.mem_cons, Tk.out, Option.some.injEq] at hx
    rcases hx with rfl | hx
    · decide
    · exact out_len h.2 x hx
  | p, .one c :: r, h, x, hx => by
    simp only [okTs, Bool.and_eq_true] at h
    simp only [List.map_cons, List.mem_cons, Tk.out, Option.some.injEq] at hx
    rcases hx with rfl | hx
    · unfold escF; split <;> simp
    · exact out_len h.2 x hx
  | p, .grp st :: r, h, x, hx => by
    simp only [okTs, Bool.and_eq_true] at h
    simp only [List.map_cons, List.mem_cons, Tk.out, Option.some.injEq] at hx
    rcases hx with rfl | hx
    · have := stuffs_len (st := st) h.1
      simp; (first | lia | omega)
    · exact out_len h.2 x hx
theorem out_adj : ∀ {p : Bool} {ts : List Tk}, okTs p ts = true → (p = true → (ts.map Tk.out)[0]? ≠ some none) ∧ ∀ i : Nat, (ts.map Tk.out)[i]? = some none → (ts.map Tk.out)[i + 1]? ≠ some none
  | _, [], _ => by simp
  | p, .star :: r, h => by
    simp only [okTs, Bool.and_eq_true, Bool.not_eq_true'] at h
    have ih := out_adj h.2
    refine ⟨fun hp => (by rw [h.1] at hp; cases hp), fun i hi => ?_⟩
    cases i with
    | zero => simpa using ih.1 rfl
    | succ i => simpa using ih.2 i (by simpa using hi)
  | p, .q :: r, h => by
    simp only [okTs, Bool.and_eq_true, Bool.not_eq_true'] at h
    have ih := out_adj h.2
    refine ⟨fun hp => (by simp [Tk.out]), fun i hi => ?_⟩
    cases i with
    | zero => simp [Tk.out] at hi
    | succ i => simpa using ih.2 i (by simpa using hi)
  | p, .one c :: r, h => by
    simp only [okTs, Bool.and_eq_true, Bool.not_eq_true'] at h
    have ih := out_adj h.2
    refine ⟨fun hp => (by simp [Tk.out]), fun i hi => ?_⟩
    cases i with
    | zero => simp [Tk.out] at hi
    | succ i => simpa using ih.2 i (by simpa using hi)
  | p, .grp c :: r, h => by
    simp only [okTs, Bool.and_eq_true, Bool.not_eq_true'] at h
    have ih := out_adj h.2
    refine ⟨fun hp => (by simp [Tk.out]), fun i hi => ?_⟩
    cases i with
    | zero => simp [Tk.out] at hi
    | succ i => simpa using ih.2 i (by simpa using hi)
theorem translate_ok {mg mb : Str → Option Value} {w : World} {cd P f : Addr} {A : Around} {Q E : Value → Shared → Prop} {s₀ s : Shared} {T : Tab} {ts : List Tk} {t0 : Tok}
    (hA : Room A 8) (X : Top1 w mg mb s₀.heap cd P) (F : FnAt s₀.heap dTr f) (c0 : Cx s₀ s T) (hP : (P, tabR) ∈ T) (hz : (spell ts).length ≤ 1000) (hz2 : ts.length ≤ 20) (hts : okTs false ts = true)
    (hQ : ∀ t s', Cx s₀ s' T → Q (.str (S (joinF (ts.map Tk.out))) t) s') : wpAny (model PW w) A (call (.ref f) [.str (S (spell ts)) t0]) Q E s := by
    have G := X.g
    refine callD (binds := [("pat", .str (S (spell ts)) t0)]) [("pat", .str (S (spell ts)) t0)] [] ["STAR", "parts"] [] ["pat", "STAR", "parts"] _ [] (ks2 := []) hA.d (F.keeps c0.keep) (G.keeps c0.keep).lim (fun _ _ _ => by kernel_rfl) (by kernel_rfl) (by kernel_rfl) (by kernel_rfl)
      (by kernel_rfl) (by kernel_rfl) (by decide +kernel) (by decide +kernel) (by kernel_rfl) (by decide +kernel) rfl (by kernel_rfl) (by kernel_rfl) (by kernel_rfl) (by kernel_rfl) ?_
    intro L code as s₁ has c
    simp only [List.map_cons, List.map_nil, List.cons_append, List.nil_append, List.zip_nil_right, List.zip_nil_left] at c ⊢
    replace c := c0.trans c
    simp only [List.cons_append, List.nil_append] at c
    have hR : Room (A.deeper (envC dTr L f code [])) 7 := Room.deeper hA
    obtain ⟨f2, hf2, F2⟩ := G.fn dTr_ (by simp [dAll])
    obtain ⟨f3, hf3, F3⟩ := G.fn dJoin (by simp [dAll])
    have hf2' : mg "_translate" = some (.ref f2) := hf2
    have hf3' : mg "_join_translated_parts" = some (.ref f3) := hf3
    generalize hA9 : A.deeper _ = A9 at hR ⊢
    refine ent ?_
    intro Q9 E9 hQ9 hE9
    refine seqCons ?_
    intro Q7 hQ7
    (refine wpAny_Assign_Name ?_ (hs := by first | rfl | kernel_rfl); (with_reducible refine rCallN ?_; refine nB ‹_› ‹_› (by kernel_rfl) (by rfl) (by rfl) (mm9 _ _ _ _ _ _ _ _ _ _ _) ?_; refine callWith_type0 ?_))
    refine oObject c (fun star s' c' => ?_)
    ((with_reducible refine sL ‹_› (by kernel_rfl) (mm1 _ _ _) (pv1 _ _ _) (pt1 _ _ _) fun s' c9 => ?_; (try clear c'); rename Cx _ _ _ => c'; refine seqNext ‹_› ?_; refine seqCons fun Q9 hQ9 => ?_); refine wpAny_Assign_Name ?_ (hs := by first | rfl | kernel_rfl); (with_reducible refine rCallN ?_; refine nG ‹_› ‹_› (by kernel_rfl) (by rfl) ‹_› ?_; refine rFn ‹_› (by with_unfolding_all rfl) ?_; refine rMore (by with_unfolding_all rfl) ?_; refine nL ‹_› (by kernel_rfl) (mm1 _ _ _) (mm0 _ _) ?_; refine rMore (by with_unfolding_all rfl) ?_; refine nL ‹_› (by kernel_rfl) (mm1 _ _ _) (mm1 _ _ _) ?_; refine rMore (by with_unfolding_all rfl) ?_; refine kStrS q12 ‹_› fun t' s' c9 => ?_; (try clear c'); rename Cx _ _ _ => c'; refine spliced_none ?_; refine ⟨Cx.keep ‹_›, ?_⟩))
    refine tr_ok (hR.le (by decide)) X F2 hf2' c' (by simp only [List.mem_cons]; simp [hP]) hz hts (fun b vs s' hvs c' => ?_)
    (with_reducible refine sL ‹_› (by kernel_rfl) (mm2 _ _ _ _) (pv2 _ _ _ _) (pt2 _ _ _ _) fun s' c9 => ?_; (try clear c'); rename Cx _ _ _ => c'; refine seqNext ‹_› ?_; refine seqCons fun Q9 hQ9 => ?_; refine wpAny_Return_some ?_; refine rCallN ?_; refine nG ‹_› ‹_› (by kernel_rfl) (by rfl) ‹_› ?_; refine fnV ‹_› ‹_› (Ats.cons (AtV.loc (by kernel_rfl) (mm2 _ _ _ _) (mm2 _ _ _ _)) (Ats.cons (AtV.loc (by kernel_rfl) (mm2 _ _ _ _) (mm1 _ _ _)) Ats.nil)) ?_)
    refine join_ok (mg := mg) (hR.le (by decide)) (F3.keeps c'.keep) (G.keeps c'.keep) (c'.lat ((mm0 _ _))) hvs (by simpa using hz2) (out_len hts) (out_adj hts).2 (fun t s' hkp => ?_)
    replace c' := c'.keeps hkp
    ((with_reducible refine seqRet ‹_› ?_; refine finRet ‹_› ?_); dsimp only)
    exact hQ _ _ (c'.drop ((List.Sublist.cons _ (List.Sublist.cons _ (List.Sublist.cons _ (List.Sublist.refl _))))))
end
section
set_option maxRecDepth 100000
open PySem PySem.W PyProof.Rows PySem.Calls
section
variable {prog : Program} {w : World} {A : Around} {E : Value → Shared → Prop} {s₀ s : Shared} {T T' : Tab} {a b : Addr} {v : Value} {env : Env} {pos : Pos} {x : Str} {elt iter : Expr} {ifs : List Expr} {scope : Scope} {cl : List (Str × Addr)}
/-- a comprehension over items of any kind -/
theorem readyAny {α : Type} {it : Addr} {itv : Value} {items : List α} {V : α → Value → Prop} {r : Nat → Rs} {P : Nat → Value → Prop} {L : Heap → Prop} {K : Addr → List Value → Shared → Prop} (p : α → Bool) (B : List α → List Value → Prop)
    (W : Walk prog w A s₀ it r items.length P L) (hP : ∀ k v, k < items.length → P k v → ∃ xi, items[k]? = some xi ∧ V xi v) (hz : items.length ≤ sizeLine) (e : itv = .ref it) (c : Cx s₀ s ((it, r 0) :: T)) (hL : ∀ s, Cx s₀ s T → L s.heap)
    (h0 : B [] [])
    (turn : ∀ C D it r' acc pre xi v s E, xi ∈ items → V xi v → B pre acc → Cx s₀ s ((C, .ns [(x, some v)]) :: (D, .lst acc) :: (it, r') :: T) →
      wpAny (model prog w) A (testsOf ifs (cEnv scope cl C env)) (fun ok s₃ => ok = p xi ∧ (if ok = true then wpAny (model prog w) A (eval elt (cEnv scope cl C env)) (fun y s₄ => B (pre ++ [xi]) (acc ++ [y]) ∧ Cx s₀ s₄ ((C, .ns [(x, some v)]) :: (D, .lst acc) :: (it, r') :: T)) E s₃
        else Cx s₀ s₃ ((C, .ns [(x, some v)]) :: (D, .lst acc) :: (it, r') :: T))) E s)
    (hK : ∀ D vs s', B (items.filter p) vs → Cx s₀ s' ((D, .lst vs) :: T) → K D vs s') :
    CompReady prog w A s₀ env scope cl x ifs elt itv s K := by
  exact ⟨it, r, items.length, P, L, T, fun k acc => B ((items.take k).filter p) acc, e, W, hz, c, hL, h0, fun C D => turnAny p B hP turn, fun D ys s' hG _ c' => hK D ys s' (by rwa [List.take_length] at hG) c'⟩
theorem readyListA {l : Addr} {vs : List Value} {items : List (List Nat)} {K : Addr → List Value → Shared → Prop} (p : List Nat → Bool) (B : List (List Nat) → List Value → Prop) (c : Cx s₀ s T) (hh : A.handled = none) (hl : ∀ s, Cx s₀ s T → LstAt s.heap l vs) (hs : StrsAre vs (items.map S)) (hz : items.length ≤ sizeLine)
    (h0 : B [] [])
    (turn : ∀ C D it r' acc pre xi v s E, xi ∈ items → (∃ t, v = .str (S xi) t) → B pre acc → Cx s₀ s ((C, .ns [(x, some v)]) :: (D, .lst acc) :: (it, r') :: T) →
      wpAny (model prog w) A (testsOf ifs (cEnv scope cl C env)) (fun ok s₃ => ok = p xi ∧ (if ok = true then wpAny (model prog w) A (eval elt (cEnv scope cl C env)) (fun y s₄ => B (pre ++ [xi]) (acc ++ [y]) ∧ Cx s₀ s₄ ((C, .ns [(x, some v)]) :: (D, .lst acc) :: (it, r') :: T)) E s₃
        else Cx s₀ s₃ ((C, .ns [(x, some v)]) :: (D, .lst acc) :: (it, r') :: T))) E s)
    (hK : ∀ D vs s', B (items.filter p) vs → Cx s₀ s' ((D, .lst vs) :: T) → K D vs s') :
    wpAny (model prog w) A (pyIter (.ref l)) (fun itv s₂ => CompReady prog w A s₀ env scope cl x ifs elt itv s₂ K) E s := by
  refine iterL c (hl _ c) fun it s' c' => ?_
  have hW := walkL (prog := prog) (w := w) (s₀ := s₀) (it := it) (l := l) (vs := vs) hh
  have e : vs.length = items.length := by simpa using saLen hs
  rw [e] at hW
  refine readyAny (V := fun xi v => ∃ t, v = .str (S xi) t) p B hW (fun k v hk hv => ?_) hz rfl c' hl h0 turn hK
  obtain ⟨t', h1⟩ := saGet hs (i := k) (y := S items[k]) (by simp [hk])
  rw [hv] at h1
  exact ⟨_, List.getElem?_eq_getElem hk, t', Option.some.inj h1⟩
theorem oSumL {vs : List Value} {ns : List Int} {Q : Value → Shared → Prop} (c : Cx s₀ s T) (hh : A.handled = none) (hl : LstAt s.heap a vs) (hs : IntsAre vs ns) (h : ∀ n t s', Cx s₀ s' T → Q (.int n t) s') : wpAny (model prog w) A (call (.builtin "sum") [.ref a]) Q E s := by
  obtain ⟨xs, hx⟩ := hs.allInts.items
  have hl' : s.heap.IsList a (intItems xs) := hx ▸ hl.list
  exact sum_intListG hh hl' fun h' tk t' hk => h _ _ _ (c.grow tk hk)
theorem oAbs {i : Int} {t : Tok} {Q : Value → Shared → Prop} (c : Cx s₀ s T) (h : ∀ t s', Cx s₀ s' T → Q (.int (i.natAbs : Nat) t) s') : wpAny (model prog w) A (call (.builtin "abs") [.int i t]) Q E s := by
  refine call_abs_int fun u tk => ?_
  rw [show (if i < 0 then -i else i) = ((i.natAbs : Nat) : Int) by split <;> (first | lia | omega)]
  exact h u _ (c.tok tk)
theorem oItemT {value slice : Expr} {vs : List Value} {k : Nat} {u : Tok} {Q : Value → Shared → Prop} (c : Cx s₀ s T) (hl : (a, Rs.tup vs) ∈ T) (hx : vs[k]? = some v) (hz : vs.length ≤ 1000) (h : Q v s)
    (hs : subscripted slice false (.ref a) (.int (k : Nat) u) = operate [.ref a, .int (k : Nat) u] (getItem (.ref a) (.int (k : Nat) u)) := by with_unfolding_all rfl) : wpAny (model prog w) A (subscriptTail value slice (.ref a) (.int (k : Nat) u)) Q E s := by
  have hk := (List.getElem?_eq_some_iff.mp hx).1
  have h1 : -(2 ^ 63 : Int) ≤ (k : Int) := by (first | lia | omega)
  have h2 : (k : Int) < 2 ^ 63 := by (first | lia | omega)
  refine item_tupleT (k := (k : Int)) (j := k) (c.tup hl) h1 h2 ?_ hx h hs
  unfold seqIndex?
  have : ¬ ((k : Int) < 0) := by (first | lia | omega)
  simp only [this, if_false]
  simp [hk]
theorem isl {vs : List Value} (c : Cx s₀ s T) (h : s₀.heap.IsList a vs.toArray) : s.heap.IsList a vs.toArray := let ⟨o, ho, r⟩ := h; ⟨o, c.keep _ _ ho, r⟩
theorem oCutStep {value slice : Expr} {vs : List Value} {ns : List Int} {k : Nat} {t u : Tok} {ops : List Value} {Q : Value → Shared → Prop} (c : Cx s₀ s T) (hl : s.heap.IsList a vs.toArray) (hs : IntsAre vs ns) (hz : vs.length ≤ 1000)
    (hsu : subscripted slice false (.ref a) (.ref s.heap.objs.size) = operate ops (getItem (.ref a) (.ref s.heap.objs.size))) (ht : ∀ r, letTemporaryGo value (.ref a) r = pure ())
    (h : ∀ b s' ws ms, IntsAre ws ms → Cx s₀ s' ((b, .lst ws) :: T) → Q (.ref b) s') :
    wpAny (model prog w) A (subscriptTail value slice (.ref a) (.ref s.heap.objs.size)) Q E { s with heap := s.heap.push { cls := .type "slice", data := .fields #[.int (k : Nat) t, .none, .int 4 u] } } := by
  refine subscriptTail_ops (Heap.IsList.typeIs (s := { s with heap := s.heap.push { cls := .type "slice", data := .fields #[.int (k : Nat) t, .none, .int 4 u] } }) (hl.push _)) list_getitem_lookup
    (wpAny_getItem_list_slice (hl.push _) (Heap.IsSliceOf.new ..) (.int _ _) .none (.int _ _) (by decide) ?_ (by unfold sizeLine; simp; (first | lia | omega))) hsu ht
  have c1 := c.pushG { cls := .type "slice", data := .fields #[.int (k : Nat) t, .none, .int 4 u] }
  have c2 := c1.push (r := .lst (pick vs (some (k : Int)) none (some 4))) (o := { cls := .type "list", data := .seq (slicePick vs.toArray (some (k : Int)) none (some 4)) }) rfl ⟨_, by simp [pick]; rfl⟩
  exact h _ _ _ _ (hs.pick _ _ _) c2
theorem oItemT4 {value slice : Expr} {k : Nat} {u t0 t1 t2 t3 : Tok} {i0 i1 i2 i3 : Int} {Q : Value → Shared → Prop} (c : Cx s₀ s T) (hl : (a, Rs.tup [.int i0 t0, .int i1 t1, .int i2 t2, .int i3 t3]) ∈ T) (hk : k < 4)
    (h : ∀ n t, (n = i0 ∨ n = i1 ∨ n = i2 ∨ n = i3) → Q (.int n t) s)
    (hs : subscripted slice false (.ref a) (.int (k : Nat) u) = operate [.ref a, .int (k : Nat) u] (getItem (.ref a) (.int (k : Nat) u)) := by with_unfolding_all rfl) : wpAny (model prog w) A (subscriptTail value slice (.ref a) (.int (k : Nat) u)) Q E s := by
  obtain rfl | rfl | rfl | rfl : k = 0 ∨ k = 1 ∨ k = 2 ∨ k = 3 := by (first | lia | omega)
  · exact oItemT c hl rfl (by simp) (h _ _ (.inl rfl)) hs
  · exact oItemT c hl rfl (by simp) (h _ _ (.inr (.inl rfl))) hs
  · exact oItemT c hl rfl (by simp) (h _ _ (.inr (.inr (.inl rfl)))) hs
  · exact oItemT c hl rfl (by simp) (h _ _ (.inr (.inr (.inr rfl)))) hs
theorem oIdxLS {vs : List Value} {ls : List (List Nat)} {y : List Nat} {t : Tok} {Q : Value → Shared → Prop} (c : Cx s₀ s T) (hl : LstAt s.heap a vs) (hs : StrsAre vs (ls.map S)) (hz : ls.length ≤ 1000) (hm : y ∈ ls) (h : ∀ t s', Cx s₀ s' T → Q (.int (ls.idxOf y : Nat) t) s') : wpAny (model prog w) A (call (.builtin "list.index") [.ref a, .str (S y) t]) Q E s := by
  obtain ⟨n, ho⟩ := hl
  have hlen : vs.length = ls.length := by simpa using saLen hs
  have hj := List.idxOf_lt_length_iff.mpr hm
  have hjs : ls.idxOf y < vs.toArray.size := by simpa [hlen] using hj
  refine call_meets F.slot_list_index ⟨_, ho, rfl⟩ F.entry_list_index (F.args_list_index_2 _ _) (MeetsSeq.list_index a vs.toArray n (.str (S y) t) (isX (S y)) (isX_gives hs (S y) t) (ls.idxOf y) hjs (by (first | lia | omega)) ?_ (fun m hm h1 => ?_)) ⟨ho, h _ _ (c.tok _)⟩
  · rw [isX_at hs]; simp [List.getElem?_eq_getElem hj]
  · rw [isX_at hs]
    have hm' : m < ls.length := by (first | lia | omega)
    have := List.not_of_lt_findIdx (p := (· == y)) (xs := ls) (i := m) h1
    simp [List.getElem?_eq_getElem hm']
    simpa using this
theorem gmIdxL {vs : List Value} {pl : Sem Bool} {Q : Value × List Value → Shared → Prop} (hl : LstAt s.heap a vs) (h : Q (.builtin "list.index", [.ref a]) s) : wpAny (model prog w) A (getMethod (.ref a) "index" pl) Q E s :=
  getMethod_list_of F.slot_list_index F.type_list_index hl.list (noDict hl) h
/-- no item falls -/
noncomputable def riseL : List (List Nat) → Prop := List.Pairwise fun a b => ¬ b < a
theorem rise_of {ls : List (List Nat)} (h : sortedS (ls.map S) = true) : riseL ls := by
  have key : ∀ (ls : List (List Nat)) (p : List Nat), risingS (S p) (ls.map S) = true → riseL (p :: ls) := fun ls => by
    induction ls with
    | nil => intro p _; exact List.pairwise_singleton _ _
    | cons x r ih =>
      intro p h
      simp only [List.map_cons, risingS, Bool.and_eq_true, Bool.not_eq_true', S_toList, ltCps_eq, decide_eq_false_iff_not] at h
      have h2 := ih x h.2
      refine List.pairwise_cons.mpr ⟨fun y hy => ?_, h2⟩
      rcases List.mem_cons.mp hy with rfl | hy
      · exact h.1
      · have h3 := (List.pairwise_cons.mp h2).1 y hy
        intro h4
        exact h.1 (List.lt_of_le_of_lt (List.not_lt.mp h3) h4)
  cases ls with
  | nil => exact List.Pairwise.nil
  | cons x r => exact key r x h
theorem permS {ss : List Str} {ls : List (List Nat)} (h : ss.Perm (ls.map S)) : ∃ ls' : List (List Nat), ss = ls'.map S ∧ ls'.Perm ls := by
  refine ⟨ss.map (fun y => y.cps.toList), ?_, ?_⟩
  · rw [List.map_map]
    conv => lhs; rw [← List.map_id ss]
    exact List.map_congr_left fun y _ => (S_of y).symm
  · have := h.map (fun y : Str => y.cps.toList)
    rw [List.map_map] at this
    have e : ((fun y : Str => y.cps.toList) ∘ S) = id := by funext l; simp [S]
    rwa [e, List.map_id] at this
theorem oSortL {vs : List Value} {ls : List (List Nat)} {Q : Value → Shared → Prop} (c : Cx s₀ s T) (hl : LstAt s.heap a vs) (hs : StrsAre vs (ls.map S)) (hz : ls.length < 64)
    (h : ∀ b s' ws ms, StrsAre ws (ms.map S) → ms.Perm ls → riseL ms → Cx s₀ s' ((b, .lst ws) :: T) → Q (.ref b) s') : wpAny (model prog w) A (call (.builtin "sorted") [.ref a]) Q E s := by
  have hlen : vs.length = ls.length := by simpa using saLen hs
  refine sorted_strs hl.list hs (by (first | lia | omega)) fun out ss' h1 h2 h3 => ?_
  obtain ⟨ms, rfl, hp⟩ := permS h2
  obtain ⟨e, he⟩ := sortedAll_at s.heap vs out
  have c2 := c.new (a := s.heap.objs.size + 1) (h' := sortedAll s.heap vs out) s.toks (r := .lst out.toList) (o := seqObj "list" out e) ?_ (fun b o hb => sortedAll_old hb) he ⟨e, by rfl⟩
  · exact h _ _ _ ms h1 hp (rise_of h3) c2
  · cases g : s.heap.get? (s.heap.objs.size + 1) with
    | none => rfl
    | some o => exact absurd (Heap.lt_size g) (Nat.not_lt.mpr (Nat.le_succ _))
theorem eqAtLists {a b : Addr} {vs ws : List Value} {xs ys : List (List Nat)} (hne : a ≠ b) (hu : A.units < cLine) (hl : LstAt s.heap a vs) (hb : LstAt s.heap b ws) (hx : StrsAre vs (xs.map S)) (hy : StrsAre ws (ys.map S)) : SeqAt.EqAt A s (.ref a) (.ref b) (decide (xs = ys)) := by
  refine SeqAt.EqAt.of_refs hne ?_
  intro prog w E Q h
  exact oEqLL (prog := prog) (w := w) (E := E) hu hl hb hx hy h
theorem oNeT2 {t1 t2 a1 b1 a2 b2 : Addr} {va wa vb wb : List Value} {xa ya xb yb : List (List Nat)} {Q : Value → Shared → Prop} (hu : A.units + 10 < cLine) (h1 : IsTup s.heap t1 #[.ref a1, .ref b1]) (h2 : IsTup s.heap t2 #[.ref a2, .ref b2]) (na : a1 ≠ a2) (nb : b1 ≠ b2)
    (la1 : LstAt s.heap a1 va) (la2 : LstAt s.heap a2 wa) (lb1 : LstAt s.heap b1 vb) (lb2 : LstAt s.heap b2 wb) (sa1 : StrsAre va (xa.map S)) (sa2 : StrsAre wa (ya.map S)) (sb1 : StrsAre vb (xb.map S)) (sb2 : StrsAre wb (yb.map S))
    (h : Q (.bool (!(decide (xa = ya) && decide (xb = yb)))) s) : wpAny (model prog w) A (compareOp .NotEq (.ref t1) (.ref t2)) Q E s := by
  have hu1 : A.in1.units < cLine := by show A.units + 1 < _; (first | lia | omega)
  refine EqBoolInt.of_rcne (SeqAt.RcNeAt.tuples (e := fun j => if j = 0 then decide (xa = ya) else decide (xb = yb)) h1 h2 (by (first | lia | omega)) (fun j h1 h2 => ?_)) ?_
  · have hj : j = 0 ∨ j = 1 := by simp at h1; (first | lia | omega)
    rcases hj with rfl | rfl
    · exact eqAtLists na hu1 la1 la2 sa1 sa2
    · exact eqAtLists nb hu1 lb1 lb2 sb1 sb2
  · simpa [List.range_succ] using h
theorem oIsNotB {c d : Bool} {Q : Value → Shared → Prop} (h : Q (.bool (c != d)) s) : wpAny (model prog w) A (compareOp .IsNot (.bool c) (.bool d)) Q E s := isnot_bool h
theorem oIsB {c d : Bool} {Q : Value → Shared → Prop} (h : Q (.bool (c == d)) s) : wpAny (model prog w) A (compareOp .Is (.bool c) (.bool d)) Q E s := is_bool h
theorem oModN {n m : Nat} {t u : Tok} {i j : Int} {Q : Value → Shared → Prop} (c : Cx s₀ s T) (hi : i = (n : Nat)) (hj : j = (m : Nat)) (hm : 0 < m) (h : ∀ t s', Cx s₀ s' T → Q (.int ((n % m : Nat) : Int) t) s') : wpAny (model prog w) A (binaryOp .Mod (.int i t) (.int j u)) Q E s := by
  subst hi hj
  exact oMod c (by (first | lia | omega)) (by simpa using h)
theorem oDivN {n m : Nat} {t u : Tok} {i j : Int} {Q : Value → Shared → Prop} (c : Cx s₀ s T) (hi : i = (n : Nat)) (hj : j = (m : Nat)) (hm : 0 < m) (hm2 : m < 1000) (h : ∀ t s', Cx s₀ s' T → Q (.int ((n / m : Nat) : Int) t) s') : wpAny (model prog w) A (binaryOp .FloorDiv (.int i t) (.int j u)) Q E s := by
  subst hi hj
  exact oDiv c (by (first | lia | omega)) (PyProof.noPylong_small (by (first | lia | omega))) (by simpa using h)
end
end
section
set_option maxRecDepth 100000
open PySem PySem.W PyProof.Rows PySem.Calls
section
variable {elt i0 i1 i2 : Expr} {x y z : Str} {px py pz : Pos} {scope : Scope} {pos : Pos} {env : Env} {it acc : Value}
abbrev lc3 (elt i0 i1 i2 : Expr) (x y z : Str) (px py pz : Pos) (scope : Scope) (pos : Pos) : Expr := .ListComp elt [⟨.Name x px, i0, [], 0⟩, ⟨.Name y py, i1, [], 0⟩, ⟨.Name z pz, i2, [], 0⟩] scope pos
theorem flatT0 : compTurn (lc3 elt i0 i1 i2 x y z px py pz scope pos) 0 it acc env = (standAt i0.pos >>= fun _ => pyNext it >>= fun r => match r with
      | none => pure (.done .next)
      | some v => letOwnedTupleGo (.Name x px) it v >>= fun _ => assign (.Name x px) env v >>= fun _ =>
        eval i1 env >>= fun xv => standAt i1.pos >>= fun _ => foldedSetIterable i1 env xv >>= fun xv => holding [xv] (pyIter xv) >>= fun itv => runOwn (.compStart (lc3 elt i0 i1 i2 x y z px py pz scope pos) 1 itv acc env) env >>= fun _ =>
          again (.compLoop (lc3 elt i0 i1 i2 x y z px py pz scope pos) 0 it acc env)) := by rfl
theorem turn0 : compTurn (lc3 elt i0 i1 i2 x y z px py pz scope pos) 0 it acc env = (standAt i0.pos >>= fun _ => pyNext it >>= fun r => match r with
      | none => pure (.done .next)
      | some v => letOwnedTupleGo (.Name x px) it v >>= fun _ => assign (.Name x px) env v >>= fun _ =>
        (eval i1 env >>= fun xv => standAt i1.pos >>= fun _ => foldedSetIterable i1 env xv >>= fun xv => holding [xv] (pyIter xv) >>= fun itv => runOwn (.compStart (lc3 elt i0 i1 i2 x y z px py pz scope pos) 1 itv acc env) env >>= fun _ => pure ()) >>= fun _ =>
          again (.compLoop (lc3 elt i0 i1 i2 x y z px py pz scope pos) 0 it acc env)) := by
  rw [flatT0]
  simp only [bind_assoc, pure_bind]
theorem flatT1 : compTurn (lc3 elt i0 i1 i2 x y z px py pz scope pos) 1 it acc env = (standAt i1.pos >>= fun _ => pyNext it >>= fun r => match r with
      | none => pure (.done .next)
      | some v => letOwnedTupleGo (.Name y py) it v >>= fun _ => assign (.Name y py) env v >>= fun _ =>
        eval i2 env >>= fun xv => standAt i2.pos >>= fun _ => foldedSetIterable i2 env xv >>= fun xv => holding [xv] (pyIter xv) >>= fun itv => runOwn (.compStart (lc3 elt i0 i1 i2 x y z px py pz scope pos) 2 itv acc env) env >>= fun _ =>
          again (.compLoop (lc3 elt i0 i1 i2 x y z px py pz scope pos) 1 it acc env)) := by rfl
theorem turn1 : compTurn (lc3 elt i0 i1 i2 x y z px py pz scope pos) 1 it acc env = (standAt i1.pos >>= fun _ => pyNext it >>= fun r => match r with
      | none => pure (.done .next)
      | some v => letOwnedTupleGo (.Name y py) it v >>= fun _ => assign (.Name y py) env v >>= fun _ =>
        (eval i2 env >>= fun xv => standAt i2.pos >>= fun _ => foldedSetIterable i2 env xv >>= fun xv => holding [xv] (pyIter xv) >>= fun itv => runOwn (.compStart (lc3 elt i0 i1 i2 x y z px py pz scope pos) 2 itv acc env) env >>= fun _ => pure ()) >>= fun _ =>
          again (.compLoop (lc3 elt i0 i1 i2 x y z px py pz scope pos) 1 it acc env)) := by
  rw [flatT1]
  simp only [bind_assoc, pure_bind]
theorem turn2 : compTurn (lc3 elt i0 i1 i2 x y z px py pz scope pos) 2 it acc env = (standAt i2.pos >>= fun _ => pyNext it >>= fun r => match r with
      | none => pure (.done .next)
      | some v => letOwnedTupleGo (.Name z pz) it v >>= fun _ => assign (.Name z pz) env v >>= fun _ =>
        (eval elt env >>= fun x => call (.builtin "list.append") [acc, x] >>= fun _ => pure ()) >>= fun _ =>
          again (.compLoop (lc3 elt i0 i1 i2 x y z px py pz scope pos) 2 it acc env)) := by rfl
end
section
variable {prog : Program} {w : World} {A : Around} {E : Value → Shared → Prop} {s₀ s : Shared} {T T' : Tab} {R : Result → Shared → Prop}
  {elt i0 i1 i2 : Expr} {x y z : Str} {px py pz : Pos} {scope : Scope} {pos : Pos} {env : Env} {it : Addr} {acc : Value} {n : Nat} {r : Nat → Rs} {P : Nat → Value → Prop} {L : Heap → Prop}
theorem start3 {d : Nat} (hd : d < 3) {itv : Value} (h0 : codeAny (model prog w) A (.compLoop (lc3 elt i0 i1 i2 x y z px py pz scope pos) d itv acc env) R s)
    (h : wpAny (model prog w) A (pyIter itv) (fun it' s' => codeAny (model prog w) A (.compLoop (lc3 elt i0 i1 i2 x y z px py pz scope pos) d it' acc env) R s') (notedBy (model prog w) A env fun x s' => R (.error x) s') s) :
    codeAny (model prog w) A (.compStart (lc3 elt i0 i1 i2 x y z px py pz scope pos) d itv acc env) R s := by
  refine codeAny_of_tree ?_
  have hcl : ∃ g, (clausesOf (lc3 elt i0 i1 i2 x y z px py pz scope pos))[d]? = some g ∧ g.is_async = 0 := by
    obtain rfl | rfl | rfl : d = 0 ∨ d = 1 ∨ d = 2 := by (first | lia | omega)
    all_goals exact ⟨_, rfl, rfl⟩
  obtain ⟨g, hg, ha⟩ := hcl
  show wpAny _ _ ((compStart (lc3 elt i0 i1 i2 x y z px py pz scope pos) d itv acc env).onRaise (fun x => do noteFrame x env; standAt theWindowsPlace)) _ _ s
  refine wpAny_notedAt ?_
  unfold compStart
  rw [hg]
  simp only [Option.elim, ha, bne_self_eq_false, Bool.false_eq_true, if_false]
  refine wpAny_bind (wpAny_askSetting (wpAny_ite ?_))
  split
  · first
      | exact wpAny_bind (wpAny_pure (wpAny_pure (And.intro rfl h0)))
      | exact wpAny_pure (And.intro rfl h0)
  · first
      | exact wpAny_bind (wpAny_rule (wpAny_bind (wpAny_standAt (wpAny_bind (wpAny_mono h (fun it' s' h' => wpAny_pure (And.intro rfl h')) fun _ _ x => x)))))
      | (refine wpAny_bind (wpAny_rule ?_); show wpAny _ _ (standAt g.iter.pos >>= _) _ _ s; exact wpAny_bind (wpAny_standAt (wpAny_bind (wpAny_mono h (fun it' s' h' => wpAny_pure (And.intro rfl h')) fun _ _ x => x))))
/-- one loop of the nest, by what holds of the table after k items -/
theorem loopW {e : Expr} {d : Nat} {target : Expr} {ipos : Pos} {body : Sem Unit} (hq : (Code.compLoop e d (.ref it) acc env).quiet = true)
    (hturn : compTurn e d (.ref it) acc env = (standAt ipos >>= fun _ => pyNext (.ref it) >>= fun r => match r with
      | none => pure (.done .next)
      | some v => letOwnedTupleGo target (.ref it) v >>= fun _ => assign target env v >>= fun _ => body >>= fun _ => again (.compLoop e d (.ref it) acc env)))
    (hden : (model prog w).den (.compLoop e d (.ref it) acc env) = (compTurn e d (.ref it) acc env).onRaise (fun x => do noteFrame x env; theTreesLotGoes x))
    (hund : A.under (.compLoop e d (.ref it) acc env) = A)
    (W : Walk prog w A s₀ it r n P L) (Inv : Nat → Tab → Prop) (hL : ∀ k T s, Inv k T → Cx s₀ s ((it, r k) :: T) → L s.heap) (ht : ∀ v, letOwnedTupleGo target (.ref it) v = pure ())
    (turn : ∀ k v T s E, k < n → P k v → Inv k T → Cx s₀ s ((it, r (k + 1)) :: T) → wpAny (model prog w) A (assign target env v) (fun _ s₂ => wpAny (model prog w) A body (fun _ s₃ => Nx s₀ (Inv (k + 1)) (it, r (k + 1)) s₃) E s₂) E s)
    (h0 : Inv 0 T) (c : Cx s₀ s ((it, r 0) :: T)) (hR : ∀ T s, Inv n T → Cx s₀ s T → R (.ok .next) s) : codeAny (model prog w) A (.compLoop e d (.ref it) acc env) R s := by
  refine codeAny_loop hq (fun m s => ∃ k T, k + m = n ∧ Inv k T ∧ Cx s₀ s ((it, r k) :: T)) (fun m s hI => ?_) n ⟨0, T, by (first | lia | omega), h0, c⟩
  rw [hden, hund]
  refine wpAny_noted ?_
  rw [hturn]
  obtain ⟨k, T, hk, hI, c⟩ := hI
  refine wpAny_bind (wpAny_standAt (wpAny_bind ?_))
  by_cases hm : m = 0
  · have hkn : k = n := by (first | lia | omega)
    subst hkn
    exact W.done T s _ _ c (hL _ _ _ hI c) fun s' c' => wpAny_pure (hR T s' hI c')
  · refine W.item k T s _ _ (by (first | lia | omega)) c (hL _ _ _ hI c) fun v s' hP c' => ?_
    refine wpAny_bind (wpAny_of_eq (ht v) ?_)
    refine wpAny_bind (wpAny_mono (turn k v T s' _ (by (first | lia | omega)) hP hI c') (fun _ s₂ h₂ => wpAny_bind (wpAny_mono h₂ (fun _ s₃ h₃ => ?_) fun _ _ h' => h')) fun _ _ h' => h')
    obtain ⟨T', i, c''⟩ := h₃
    exact wpAny_pure ⟨rfl, m - 1, by (first | lia | omega), k + 1, T', by (first | lia | omega), i, c''⟩
noncomputable def inner3 (ys : List Nat) (a b : Nat) : List (List Nat) := ys.map fun c => [a, b, c]
noncomputable def inner2 (ys : List Nat) (a : Nat) : List (List Nat) := ys.flatMap (inner3 ys a)
noncomputable def names3 (ys : List Nat) : List (List Nat) := ys.flatMap (inner2 ys)
theorem flat_take {α β : Type} (f : α → List β) {l : List α} {k : Nat} {a : α} (h : l[k]? = some a) : (l.take (k + 1)).flatMap f = (l.take k).flatMap f ++ f a := by
  rw [List.take_add_one, h]; simp
theorem len_names3 (ys : List Nat) (h : ys.length = 3) : (names3 ys).length = 27 := by
  match ys, h with
  | [a, b, c], _ => rfl
theorem len_inner2 (ys : List Nat) (h : ys.length = 3) (a : Nat) : (inner2 ys a).length = 9 := by
  match ys, h with
  | [_, b, c], _ => rfl
theorem len_flat (ys zs : List Nat) (f : Nat → List (List Nat)) (n : Nat) (hf : ∀ a, (f a).length = n) : (zs.flatMap f).length = zs.length * n := by
  induction zs with
  | nil => simp
  | cons a r ih => rw [List.flatMap_cons, List.length_append, ih, hf, List.length_cons, Nat.add_mul]; (first | lia | omega)
theorem Around.mark_none (A : Around) (h : A.handled = none) : (A.mark none).handled = none := by
  first | exact h | rfl | (unfold Around.mark; simpa using h)
theorem compW3 {Q : Value → Shared → Prop} {cl : List (Str × Addr)} {ys : List Nat} (hclos : closureFor scope env = pure cl) (hcell : ∀ y ∈ scope.names, y.2 ≠ .cell) (hkind : scope.kind = .function)
    (hnames : ∀ y ∈ scope.names, y.2 = .local → scope.names.lookup y.1 = some .local) (hx : scope.names.lookup x = some .local) (hy : scope.names.lookup y = some .local) (hz : scope.names.lookup z = some .local)
    (nxy : x ≠ y) (nxz : x ≠ z) (nyz : y ≠ z) (hh : A.handled = none) (hl3 : ys.length = 3) (hasc : ys.all (· < 128) = true) (c : Cx s₀ s T)
    (e0 : ∀ Q : Value → Shared → Prop, (∀ t s', Cx s₀ s' T → Q (.str (S ys) t) s') → wpAny (model prog w) A (eval i0 env) Q E s)
    (e1 : ∀ A' C U E' s (Q : Value → Shared → Prop), A'.handled = none → (∀ p ∈ T, p ∈ U) → Cx s₀ s U → (∀ t s', Cx s₀ s' U → Q (.str (S ys) t) s') → wpAny (model prog w) A' (eval i1 (cEnv scope cl C env)) Q E' s)
    (e2 : ∀ A' C U E' s (Q : Value → Shared → Prop), A'.handled = none → (∀ p ∈ T, p ∈ U) → Cx s₀ s U → (∀ t s', Cx s₀ s' U → Q (.str (S ys) t) s') → wpAny (model prog w) A' (eval i2 (cEnv scope cl C env)) Q E' s)
    (he : ∀ A' C U E' s (Q : Value → Shared → Prop) a b d ta tb td, A'.handled = none → (C, Rs.ns [(x, some (.str (S [a]) ta)), (y, some (.str (S [b]) tb)), (z, some (.str (S [d]) td))]) ∈ U → Cx s₀ s U → (∀ t s', Cx s₀ s' U → Q (.str (S [a, b, d]) t) s') → wpAny (model prog w) A' (eval elt (cEnv scope cl C env)) Q E' s)
    (hK : ∀ D vs s', StrsAre vs ((names3 ys).map S) → Cx s₀ s' ((D, .lst vs) :: T) → Q (.ref D) s')
    (hs0 : ∀ x env, foldedSetIterable i0 env x = pure x) (hs1 : ∀ x env, foldedSetIterable i1 env x = pure x) (hs2 : ∀ x env, foldedSetIterable i2 env x = pure x) :
    wpAny (model prog w) A (eval (lc3 elt i0 i1 i2 x y z px py pz scope pos) env) Q E s := by
  rw [eval_ListComp]
  have hyc : (S ys).cps.all (· < 128) = true := by simpa [S] using hasc
  have hget : ∀ (k : Nat) (v : Value), (∃ c t, (S ys).cps[k]? = some c ∧ v = .str ⟨#[c]⟩ t) → ∃ c t, ys[k]? = some c ∧ v = .str (S [c]) t := fun k v ⟨c, t, h1, h2⟩ => ⟨c, t, by rwa [S_get] at h1, h2⟩
  have hsz : (S ys).cps.size = ys.length := S_size ys
  refine wpAny_comprehension_free (use := none) rfl (fun x => hs0 x env) hclos hkind hnames (e0 _ fun t s₁ c₁ => iterS c₁ hyc fun it0 s₂ c₂ => ?_)
  refine oNewL c₂ (Nat.zero_le _) fun D s₃ c₃ => ?_
  refine wpAny_newFunctionEnv hcell (by intro y hy; simp at hy) (fun h₁ hns hsb => ?_) hkind
  have c₄ : Cx s₀ { s₃ with heap := h₁, toks := s₃.toks + ([] : List (Str × Value)).length } ((s₃.heap.objs.size, .ns [(x, none), (y, none), (z, none)]) :: (D, .lst []) :: (it0, siRs (S ys) t 0) :: T) := by
    obtain ⟨o, es, ep, ho, hd, hkk, hf⟩ := hns
    refine c₃.new _ ?_ (fun b o e => hsb.extBut b o (Nat.ne_of_lt (Heap.lt_size e)) (Heap.get?_push_of_some _ e)) ho ⟨by simp [nxy, nxz, nyz], es, ep, hd, hkk, fun nm => (hf nm).trans ?_⟩
    · cases e : s₃.heap.get? s₃.heap.objs.size with
      | none => rfl
      | some z => exact absurd (Heap.lt_size e) (Nat.lt_irrefl _)
    · show none = _
      rw [fr_cons, fr_cons, fr_cons]; split <;> first | rfl | (split <;> first | rfl | (split <;> rfl))
  generalize s₃.heap.objs.size = C at *
  have c₅ : Cx s₀ { s₃ with heap := h₁, toks := s₃.toks + ([] : List (Str × Value)).length } ((it0, siRs (S ys) t 0) :: (C, .ns [(x, none), (y, none), (z, none)]) :: (D, .lst []) :: T) :=
    ⟨c₄.same, c₄.keep, fun p hp => c₄.own p (by simp only [List.mem_cons] at hp ⊢; rcases hp with h | h | h | h <;> simp [h]), by
      have := c₄.nd
      simp only [List.map_cons, List.nodup_cons, List.mem_cons, not_or] at this ⊢
      obtain ⟨⟨a1, a2, a3⟩, ⟨b1, b2⟩, d1, d⟩ := this
      exact ⟨⟨fun e => a2 e.symm, fun e => b1 e.symm, d1⟩, ⟨a1, a3⟩, b2, d⟩⟩
  clear c₄
  have kx : (cEnv scope cl C env).kindOf x = some .local := lookup_relabel_local hx
  have ky : (cEnv scope cl C env).kindOf y = some .local := lookup_relabel_local hy
  have kz : (cEnv scope cl C env).kindOf z = some .local := lookup_relabel_local hz
  have kk : (cEnv scope cl C env).scope.kind = .function := by simp [cEnv, relabel, hkind]
  change codeAny (model prog w) A (.compStart (lc3 elt i0 i1 i2 x y z px py pz scope pos) 0 (.ref it0) (.ref D) (cEnv scope cl C env)) (compPost (model prog w) A E none Q (.ref D) C) _
  have W0 := walkS (prog := prog) (w := w) (s₀ := s₀) (it := it0) (y := S ys) (t := t) hh
  rw [hsz] at W0
  have main : ∀ s, Cx s₀ s ((it0, siRs (S ys) t 0) :: (C, .ns [(x, none), (y, none), (z, none)]) :: (D, .lst []) :: T) →
      codeAny (model prog w) A (.compLoop (lc3 elt i0 i1 i2 x y z px py pz scope pos) 0 (.ref it0) (.ref D) (cEnv scope cl C env)) (compPost (model prog w) A E none Q (.ref D) C) s := by
    intro s c
    refine loopW rfl turn0 rfl rfl W0 (fun k T' => Ex4 fun acc ox oy oz => StrsAre acc (((ys.take k).flatMap (inner2 ys)).map S) ∧ T' = (C, .ns [(x, ox), (y, oy), (z, oz)]) :: (D, .lst acc) :: T) (fun _ _ _ _ _ => trivial) (fun _ => rfl) ?_ ⟨[], none, none, none, .nil, rfl⟩ c ?_
    · rintro k v T' s E hk hv ⟨acc, ox, oy, oz, hacc, rfl⟩ c
      obtain ⟨a, ta, ha, rfl⟩ := hget k v hv
      refine wpAny_assign_Name (storeL c kk kx (.tail _ (.head _)) (.head _ _) (.tail _ (.head _ _)) fun s c => ?_)
      refine wpAny_bind (e1 A C _ _ s _ hh (fun p hp => .tail _ (.tail _ (.tail _ hp))) c fun t1 s c => ?_)
      refine wpAny_bind (wpAny_standAt ?_)
      rw [hs1]
      refine wpAny_bind (wpAny_pure (wpAny_bind (wpAny_holding (iterS c hyc fun it1 s c => ?_))))
      refine wpAny_bind (wpAny_runOwn ?_)
      have hh1 := Around.mark_none A hh
      have W1 := walkS (prog := prog) (w := w) (s₀ := s₀) (it := it1) (y := S ys) (t := t1) hh1
      rw [hsz] at W1
      have loop1 : ∀ s, Cx s₀ s ((it1, siRs (S ys) t1 0) :: (it0, siRs (S ys) t (k + 1)) :: (C, .ns [(x, some (.str (S [a]) ta)), (y, oy), (z, oz)]) :: (D, .lst acc) :: T) →
          codeAny (model prog w) (A.mark none) (.compLoop (lc3 elt i0 i1 i2 x y z px py pz scope pos) 1 (.ref it1) (.ref D) (cEnv scope cl C env)) (fun r s' => match r with
            | .ok f => wpAny (model prog w) A (pure () : Sem Unit) (fun _ s₃ => Nx s₀ (fun T' => Ex4 fun acc ox oy oz => StrsAre acc (((ys.take (k + 1)).flatMap (inner2 ys)).map S) ∧ T' = (C, .ns [(x, ox), (y, oy), (z, oz)]) :: (D, .lst acc) :: T) (it0, siRs (S ys) t (k + 1)) s₃) E s'
            | .error e => cameBackBy (model prog w) A (cEnv scope cl C env) E e s') s := by
        intro s c
        refine loopW rfl turn1 rfl rfl W1 (fun j T' => Ex3 fun acc oy oz => StrsAre acc (((ys.take k).flatMap (inner2 ys) ++ (ys.take j).flatMap (inner3 ys a)).map S) ∧ T' = (it0, siRs (S ys) t (k + 1)) :: (C, .ns [(x, some (.str (S [a]) ta)), (y, oy), (z, oz)]) :: (D, .lst acc) :: T)
          (fun _ _ _ _ _ => trivial) (fun _ => rfl) ?_ ⟨acc, oy, oz, by simpa using hacc, rfl⟩ c ?_
        · rintro j v T' s E hj hv ⟨acc, oy, oz, hacc, rfl⟩ c
          obtain ⟨b, tb, hb, rfl⟩ := hget j v hv
          refine wpAny_assign_Name (storeL c kk ky (.tail _ (.tail _ (.head _))) (.tail _ (.head _ _)) (.tail _ (.tail _ (.head _ _))) fun s c => ?_)
          refine wpAny_bind (e2 _ C _ _ s _ hh1 (fun p hp => .tail _ (.tail _ (.tail _ (.tail _ hp)))) c fun t2 s c => ?_)
          refine wpAny_bind (wpAny_standAt ?_)
          rw [hs2]
          refine wpAny_bind (wpAny_pure (wpAny_bind (wpAny_holding (iterS c hyc fun it2 s c => ?_))))
          refine wpAny_bind (wpAny_runOwn ?_)
          have hh2 := Around.mark_none _ hh1
          have W2 := walkS (prog := prog) (w := w) (s₀ := s₀) (it := it2) (y := S ys) (t := t2) hh2
          rw [hsz] at W2
          have loop2 : ∀ s, Cx s₀ s ((it2, siRs (S ys) t2 0) :: (it1, siRs (S ys) t1 (j + 1)) :: (it0, siRs (S ys) t (k + 1)) :: (C, .ns [(x, some (.str (S [a]) ta)), (y, some (.str (S [b]) tb)), (z, oz)]) :: (D, .lst acc) :: T) →
              codeAny (model prog w) ((A.mark none).mark none) (.compLoop (lc3 elt i0 i1 i2 x y z px py pz scope pos) 2 (.ref it2) (.ref D) (cEnv scope cl C env)) (fun r s' => match r with
                | .ok f => wpAny (model prog w) (A.mark none) (pure () : Sem Unit) (fun _ s₃ => Nx s₀ (fun T' => Ex3 fun acc oy oz => StrsAre acc (((ys.take k).flatMap (inner2 ys) ++ (ys.take (j + 1)).flatMap (inner3 ys a)).map S) ∧ T' = (it0, siRs (S ys) t (k + 1)) :: (C, .ns [(x, some (.str (S [a]) ta)), (y, oy), (z, oz)]) :: (D, .lst acc) :: T) (it1, siRs (S ys) t1 (j + 1)) s₃) E s'
                | .error e => cameBackBy (model prog w) (A.mark none) (cEnv scope cl C env) E e s') s := by
            intro s c
            refine loopW rfl turn2 rfl rfl W2 (fun i T' => Ex2 fun acc oz => StrsAre acc (((ys.take k).flatMap (inner2 ys) ++ (ys.take j).flatMap (inner3 ys a) ++ (ys.take i).map (fun c => [a, b, c])).map S) ∧ T' = (it1, siRs (S ys) t1 (j + 1)) :: (it0, siRs (S ys) t (k + 1)) :: (C, .ns [(x, some (.str (S [a]) ta)), (y, some (.str (S [b]) tb)), (z, oz)]) :: (D, .lst acc) :: T)
              (fun _ _ _ _ _ => trivial) (fun _ => rfl) ?_ ⟨acc, oz, by simpa using hacc, rfl⟩ c ?_
            · rintro i v T' s E hi hv ⟨acc, oz, hacc, rfl⟩ c
              obtain ⟨d, td, hd, rfl⟩ := hget i v hv
              refine wpAny_assign_Name (storeL c kk kz (.tail _ (.tail _ (.tail _ (.head _)))) (.tail _ (.tail _ (.head _ _))) (.tail _ (.tail _ (.tail _ (.head _ _)))) fun s c => ?_)
              refine wpAny_bind (he _ C _ _ s _ a b d ta tb td hh2 (.tail _ (.tail _ (.tail _ (.head _)))) c fun tt s c => ?_)
              have hal : acc.length ≤ 1000 := by
                have h1 := saLen hacc
                rw [List.length_map, List.length_append, List.length_append, len_flat ys _ _ 9 (len_inner2 ys hl3), len_flat ys _ _ 3 (fun b => by simp [inner3, hl3]), List.length_map, List.length_take, List.length_take, List.length_take] at h1
                (first | lia | omega)
              refine wpAny_bind (oApp c (.tail _ (.tail _ (.tail _ (.tail _ (.head _))))) (.tail _ (.tail _ (.tail _ (.tail _ (.head _ _))))) (by unfold sizeLine; (first | lia | omega)) fun s c => ?_)
              refine wpAny_pure ⟨_, ⟨_, _, ?_, rfl⟩, c⟩
              have e : (ys.take (i + 1)).map (fun c => [a, b, c]) = (ys.take i).map (fun c => [a, b, c]) ++ [[a, b, d]] := by rw [List.take_add_one, hd]; simp
              rw [e, ← List.append_assoc]
              exact saApp1 hacc
            · rintro T' s ⟨acc, oz, hacc, rfl⟩ c
              rw [List.take_length] at hacc
              refine wpAny_pure ⟨_, ⟨acc, _, _, ?_, rfl⟩, c⟩
              rw [flat_take (inner3 ys a) hb, ← List.append_assoc]
              exact hacc
          exact start3 (by decide) (loop2 s (by simpa using c)) (W2.self 0 _ s _ _ (by simpa using c) (loop2 s (by simpa using c)))
        · rintro T' s ⟨acc, oy, oz, hacc, rfl⟩ c
          rw [List.take_length] at hacc
          refine wpAny_pure ⟨_, ⟨acc, _, _, _, ?_, rfl⟩, c⟩
          rw [flat_take (inner2 ys) ha]
          exact hacc
      exact start3 (by decide) (loop1 s (by simpa using c)) (W1.self 0 _ s _ _ (by simpa using c) (loop1 s (by simpa using c)))
    · rintro T' s ⟨acc, ox, oy, oz, hacc, rfl⟩ c
      rw [List.take_length] at hacc
      exact ⟨_, c.ns List.mem_cons_self, fun h' hs' => hK D acc _ hacc (c.lose _ hs'.extBut)⟩
  exact start3 (by decide) (main _ c₅) (W0.self 0 _ _ _ _ c₅ (main _ c₅))
end
/-! a comprehension that is stored under a local name -/
section
variable {prog : Program} {w : World} {A : Around} {E : Value → Shared → Prop} {s₀ s : Shared} {T T' : Tab} {a b : Addr} {v : Value} {env : Env} {pos : Pos} {x y : Str} {px py : Pos} {elt iter : Expr} {ifs : List Expr} {scope : Scope} {cl : List (Str × Addr)}
theorem compUse {spos : Pos} {Q : Flow → Shared → Prop} (hsw : swapsWith (.ListComp elt [⟨.Name x px, iter, ifs, 0⟩] scope pos) (some (.Name y py)) spos.line env = pure true)
    (hclos : closureFor scope env = pure cl) (hcell : ∀ y ∈ scope.names, y.2 ≠ .cell) (hkind : scope.kind = .function)
    (hnames : ∀ y ∈ scope.names, y.2 = .local → scope.names.lookup y.1 = some .local) (hx : scope.names.lookup x = some .local) (hk : okN .local env y = true)
    (h : wpAny (model prog w) A (eval iter env) (fun xv s₁ => wpAny (model prog w) A (pyIter xv) (fun itv s₂ => UseReady prog w A s₀ env scope cl x ifs elt y itv s₂ (fun s' => Q .next s')) E s₁) E s)
    (hs : ∀ x, foldedSetIterable iter env x = pure x := by intro _; rfl) :
    wpAny (model prog w) A (exec (.Assign [.Name y py] (.ListComp elt [⟨.Name x px, iter, ifs, 0⟩] scope pos) spos) env) Q E s :=
  let ⟨k1, k2, _, _⟩ := okN_parts hk
  compUseW hsw hclos hcell hkind hnames hx k1 k2 h hs
theorem useAny {α : Type} {it : Addr} {itv : Value} {items : List α} {V : α → Value → Prop} {r : Nat → Rs} {P : Nat → Value → Prop} {L : Heap → Prop} {K : Shared → Prop} {l : List (Str × Option Value)} (p : α → Bool) (B : List α → List Value → Prop)
    (W : Walk prog w A s₀ it r items.length P L) (hP : ∀ k v, k < items.length → P k v → ∃ xi, items[k]? = some xi ∧ V xi v) (hz : items.length ≤ sizeLine) (e : itv = .ref it) (c : Cx s₀ s ((it, r 0) :: T)) (hL : ∀ s, Cx s₀ s T → L s.heap)
    (h0 : B [] []) (hl : (env.locals, Rs.ns l) ∈ T)
    (turn : ∀ C D it r' acc pre xi v s E, xi ∈ items → V xi v → B pre acc → Cx s₀ s ((C, .ns [(x, some v)]) :: (D, .lst acc) :: (it, r') :: T) →
      wpAny (model prog w) A (testsOf ifs (cEnv scope cl C env)) (fun ok s₃ => ok = p xi ∧ (if ok = true then wpAny (model prog w) A (eval elt (cEnv scope cl C env)) (fun y s₄ => B (pre ++ [xi]) (acc ++ [y]) ∧ Cx s₀ s₄ ((C, .ns [(x, some v)]) :: (D, .lst acc) :: (it, r') :: T)) E s₃
        else Cx s₀ s₃ ((C, .ns [(x, some v)]) :: (D, .lst acc) :: (it, r') :: T))) E s)
    (hK : ∀ D vs, B (items.filter p) vs → ∃ l' T', PutV y (.ref D) l l' ∧ Put env.locals (.ns l') T T' ∧ ∀ s', Cx s₀ s' ((D, .lst vs) :: T') → K s') :
    UseReady prog w A s₀ env scope cl x ifs elt y itv s K := by
  exact ⟨it, r, items.length, P, L, T, fun k acc => B ((items.take k).filter p) acc, l, e, W, hz, c, hL, h0, fun C D => turnAny p B hP turn, hl, fun D ys hG _ => hK D ys (by rwa [List.take_length] at hG)⟩
theorem useListA {lt : Addr} {vs : List Value} {items : List (List Nat)} {K : Shared → Prop} {l : List (Str × Option Value)} (p : List Nat → Bool) (B : List (List Nat) → List Value → Prop) (c : Cx s₀ s T) (hh : A.handled = none) (hlt : ∀ s, Cx s₀ s T → LstAt s.heap lt vs) (hs : StrsAre vs (items.map S)) (hz : items.length ≤ sizeLine)
    (h0 : B [] []) (hl : (env.locals, Rs.ns l) ∈ T)
    (turn : ∀ C D it r' acc pre xi v s E, xi ∈ items → (∃ t, v = .str (S xi) t) → B pre acc → Cx s₀ s ((C, .ns [(x, some v)]) :: (D, .lst acc) :: (it, r') :: T) →
      wpAny (model prog w) A (testsOf ifs (cEnv scope cl C env)) (fun ok s₃ => ok = p xi ∧ (if ok = true then wpAny (model prog w) A (eval elt (cEnv scope cl C env)) (fun y s₄ => B (pre ++ [xi]) (acc ++ [y]) ∧ Cx s₀ s₄ ((C, .ns [(x, some v)]) :: (D, .lst acc) :: (it, r') :: T)) E s₃
        else Cx s₀ s₃ ((C, .ns [(x, some v)]) :: (D, .lst acc) :: (it, r') :: T))) E s)
    (hK : ∀ D vs, B (items.filter p) vs → ∃ l' T', PutV y (.ref D) l l' ∧ Put env.locals (.ns l') T T' ∧ ∀ s', Cx s₀ s' ((D, .lst vs) :: T') → K s') :
    wpAny (model prog w) A (pyIter (.ref lt)) (fun itv s₂ => UseReady prog w A s₀ env scope cl x ifs elt y itv s₂ K) E s := by
  refine iterL c (hlt _ c) fun it s' c' => ?_
  have hW := walkL (prog := prog) (w := w) (s₀ := s₀) (it := it) (l := lt) (vs := vs) hh
  have e : vs.length = items.length := by simpa using saLen hs
  rw [e] at hW
  refine useAny (V := fun xi v => ∃ t, v = .str (S xi) t) p B hW (fun k v hk hv => ?_) hz rfl c' hlt h0 hl turn hK
  obtain ⟨t', h1⟩ := saGet hs (i := k) (y := S items[k]) (by simp [hk])
  rw [hv] at h1
  exact ⟨_, List.getElem?_eq_getElem hk, t', Option.some.inj h1⟩
theorem useRange2 {n : Nat} {it : Addr} {K : Shared → Prop} {l : List (Str × Option Value)} (p : Nat → Bool) (B : List Nat → List Value → Prop) (c : Cx s₀ s ((it, .obj (rIt 0 n 1)) :: T)) (hh : A.handled = none) (hz : n ≤ 1000)
    (h0 : B [] []) (hl : (env.locals, Rs.ns l) ∈ T)
    (turn : ∀ C D it r' acc pre xi v s E, xi ∈ List.range n → (∃ t, v = .int (xi : Nat) t) → B pre acc → Cx s₀ s ((C, .ns [(x, some v)]) :: (D, .lst acc) :: (it, r') :: T) →
      wpAny (model prog w) A (testsOf ifs (cEnv scope cl C env)) (fun ok s₃ => ok = p xi ∧ (if ok = true then wpAny (model prog w) A (eval elt (cEnv scope cl C env)) (fun y s₄ => B (pre ++ [xi]) (acc ++ [y]) ∧ Cx s₀ s₄ ((C, .ns [(x, some v)]) :: (D, .lst acc) :: (it, r') :: T)) E s₃
        else Cx s₀ s₃ ((C, .ns [(x, some v)]) :: (D, .lst acc) :: (it, r') :: T))) E s)
    (hK : ∀ D vs, B ((List.range n).filter p) vs → ∃ l' T', PutV y (.ref D) l l' ∧ Put env.locals (.ns l') T T' ∧ ∀ s', Cx s₀ s' ((D, .lst vs) :: T') → K s') :
    UseReady prog w A s₀ env scope cl x ifs elt y (.ref it) s K := by
  have hW := walkR1 (prog := prog) (w := w) (s₀ := s₀) (it := it) (n := n) hh
  have e : n = (List.range n).length := by simp
  refine useAny (items := List.range n) (V := fun xi v => ∃ t, v = .int (xi : Nat) t) p B (by rw [← e]; exact hW) (fun k v hk hv => ?_) (by unfold sizeLine; simp; (first | lia | omega)) rfl (by simpa using c) (fun _ _ => trivial) h0 hl turn hK
  obtain ⟨t, rfl⟩ := hv
  exact ⟨k, List.getElem?_range (by simpa using hk), t, rfl⟩
theorem readyRange2 {n : Nat} {it : Addr} {K : Addr → List Value → Shared → Prop} (p : Nat → Bool) (B : List Nat → List Value → Prop) (c : Cx s₀ s ((it, .obj (rIt 0 n 1)) :: T)) (hh : A.handled = none) (hz : n ≤ 1000)
    (h0 : B [] [])
    (turn : ∀ C D it r' acc pre xi v s E, xi ∈ List.range n → (∃ t, v = .int (xi : Nat) t) → B pre acc → Cx s₀ s ((C, .ns [(x, some v)]) :: (D, .lst acc) :: (it, r') :: T) →
      wpAny (model prog w) A (testsOf ifs (cEnv scope cl C env)) (fun ok s₃ => ok = p xi ∧ (if ok = true then wpAny (model prog w) A (eval elt (cEnv scope cl C env)) (fun y s₄ => B (pre ++ [xi]) (acc ++ [y]) ∧ Cx s₀ s₄ ((C, .ns [(x, some v)]) :: (D, .lst acc) :: (it, r') :: T)) E s₃
        else Cx s₀ s₃ ((C, .ns [(x, some v)]) :: (D, .lst acc) :: (it, r') :: T))) E s)
    (hK : ∀ D vs s', B ((List.range n).filter p) vs → Cx s₀ s' ((D, .lst vs) :: T) → K D vs s') :
    CompReady prog w A s₀ env scope cl x ifs elt (.ref it) s K := by
  have hW := walkR1 (prog := prog) (w := w) (s₀ := s₀) (it := it) (n := n) hh
  have e : n = (List.range n).length := by simp
  refine readyAny (items := List.range n) (V := fun xi v => ∃ t, v = .int (xi : Nat) t) p B (by rw [← e]; exact hW) (fun k v hk hv => ?_) (by unfold sizeLine; simp; (first | lia | omega)) rfl (by simpa using c) (fun _ _ => trivial) h0 turn hK
  obtain ⟨t, rfl⟩ := hv
  exact ⟨k, List.getElem?_range (by simpa using hk), t, rfl⟩
theorem Cx.perm (c : Cx s₀ s T) (h : T.Perm T') : Cx s₀ s T' := ⟨c.same, c.keep, fun p hp => c.own p (h.mem_iff.mpr hp), (h.map _).nodup_iff.mp c.nd⟩
end
theorem cutIfR {M : Model} {α : Type} {A : Around} {b : Bool} {x y : Sem α} {Q : α → Shared → Prop} {E : Value → Shared → Prop} {s : Shared} (R : α → Shared → Prop)
    (h : if b = true then wpAny M A x R E s else wpAny M A y R E s) (h2 : ∀ v s', R v s' → Q v s') : if b = true then wpAny M A x Q E s else wpAny M A y Q E s := by
  cases b
  · exact wpAny_mono h h2 fun _ _ e => e
  · exact wpAny_mono h h2 fun _ _ e => e
theorem oItemT2S {prog : Program} {w : World} {A : Around} {E : Value → Shared → Prop} {s₀ s : Shared} {T : Tab} {a : Addr} {value slice : Expr} {k : Nat} {u t0 t1 : Tok} {y0 y1 : List Nat} {Q : Value → Shared → Prop} (c : Cx s₀ s T) (hl : (a, Rs.tup [.str (S y0) t0, .str (S y1) t1]) ∈ T) (hk : k < 2)
    (h : ∀ t, Q (.str (S (if k = 0 then y0 else y1)) t) s)
    (hs : subscripted slice false (.ref a) (.int (k : Nat) u) = operate [.ref a, .int (k : Nat) u] (getItem (.ref a) (.int (k : Nat) u)) := by with_unfolding_all rfl) : wpAny (model prog w) A (subscriptTail value slice (.ref a) (.int (k : Nat) u)) Q E s := by
  obtain rfl | rfl : k = 0 ∨ k = 1 := by (first | lia | omega)
  · exact oItemT c hl rfl (by simp) (h _) hs
  · exact oItemT c hl rfl (by simp) (h _) hs
end
section
set_option maxRecDepth 100000
open PySem PySem.W PyProof.Rows PySem.Calls
noncomputable def innerF (n : Nat) : Nat := if n % 2 + n / 2 % 2 = 2 then 1 else 1 + n / 4 % 2
noncomputable def signsF (n : Nat) : List Nat := if n / 12 % 2 = 0 then [97, 98, 99] else [42, 46, 63]
noncomputable def setsF (sg : List Nat) : List (List Nat) := [[sg[0]?.getD 0], [sg[1]?.getD 0], [sg[2]?.getD 0], sg.take 2, sg.drop 1, [sg[0]?.getD 0, sg[2]?.getD 0], sg]
noncomputable def oldF (sg : List Nat) (x : Nat) : List Nat := (setsF sg)[x % 7]?.getD []
noncomputable def newF (sg : List Nat) (x : Nat) : List Nat := if x % 7 < 6 then (setsF sg)[x % 7 - x % 7 % 3 + x / 7 % 3]?.getD [] else sg
noncomputable def complF (sg m : List Nat) : List Nat := sg.filter fun c => !m.contains c
noncomputable def pairF (sg : List Nat) (x : Nat) : List Nat × List Nat × Nat := (oldF sg x ++ complF sg (oldF sg x), newF sg x ++ complF sg (newF sg x), (oldF sg x).length)
noncomputable def keptP (hd tl : Nat) (olds : List (List Nat)) (nm : List Nat) : Bool :=
  ((decide (hd = 0) || (olds[0]?.getD []).contains (nm[0]?.getD 0)) && (decide (tl = 0) || (olds.getLast?.getD []).contains (nm[2]?.getD 0))) &&
    fitsF (cutL olds (some (hd : Int)) (some ((olds.length : Int) - tl))) (cutL nm (some (hd : Int)) (some ((3 : Int) - tl)))
/-- how an item is spelled -/
noncomputable def tkF (m sg : List Nat) (way : Nat) : Tk :=
  if way = 1 ∧ m.length < 3 then .grp ([33] ++ complF sg m)
  else if way = 2 ∧ m.length = 3 then .grp [sg[0]?.getD 0, 45, sg[2]?.getD 0]
  else if m.length = 3 then .q
  else if way = 0 ∧ m.length = 1 ∧ ¬ (m = [42] ∨ m = [63]) then .one (m[0]?.getD 0)
  else .grp (cutL m (some (-1)) none ++ cutL m none (some 1))
noncomputable def starred : List Tk → List Tk
  | [] => []
  | [t] => [t]
  | t :: r => t :: .star :: starred r
noncomputable def toksF (hd tl : Nat) (ts : List Tk) : List Tk := (if hd = 1 then [] else [.star]) ++ starred ts ++ (if tl = 1 then [] else [.star])
/-- front, end -/
noncomputable def edgeF (n : Nat) : List (List Nat) := if n = 1 then [] else [[]]
noncomputable def gapped : List (List Nat) → List (List Nat)
  | [] => []
  | [t] => [t]
  | t :: r => t :: [] :: gapped r
noncomputable def rowF (hd tl : Nat) (sets : List (List Nat)) : List (List Nat) := (if hd = 1 then [] else [[]]) ++ gapped sets ++ (if tl = 1 then [] else [[]])
noncomputable def readF (sg : List Nat) (ts : List Tk) : List (List Nat) := readGo sg (joinBody (ts.map Tk.out) ++ [41, 92, 90]).length (joinBody (ts.map Tk.out) ++ [41, 92, 90])
noncomputable def goodSg (sg : List Nat) : Prop := sg = [97, 98, 99] ∨ sg = [42, 46, 63]
theorem good_asc {sg : List Nat} (h : goodSg sg) : sg.all (· < 128) = true ∧ sg.length = 3 := by
  rcases h with rfl | rfl <;> exact ⟨rfl, rfl⟩
/-- what is so of each set -/
theorem sets_facts {sg : List Nat} (h : goodSg sg) : ∀ m ∈ setsF sg, 1 ≤ m.length ∧ m.length ≤ 3 ∧ (m ++ complF sg m).length = 3 ∧ (∀ c ∈ sg, c ∈ m ++ complF sg m) ∧
    ∀ way ≤ 2, (tkF m sg way).sp = spellF m sg way ∧ (tkF m sg way).ok = true ∧ (tkF m sg way).sp.length ≤ 5 := by
  have key : ∀ sg ∈ [[97, 98, 99], [42, 46, 63]], ∀ m ∈ setsF sg, 1 ≤ m.length ∧ m.length ≤ 3 ∧ (m ++ complF sg m).length = 3 ∧ (∀ c ∈ sg, c ∈ m ++ complF sg m) ∧
    ∀ way ∈ List.range 3, (tkF m sg way).sp = spellF m sg way ∧ (tkF m sg way).ok = true ∧ (tkF m sg way).sp.length ≤ 5 := by decide +kernel
  intro m hm
  obtain ⟨a, b, c, d, e⟩ := key sg (by rcases h with rfl | rfl <;> simp) m hm
  exact ⟨a, b, c, d, fun way hw => e way (List.mem_range.mpr (by (first | lia | omega)))⟩
theorem old_mem (sg : List Nat) (x : Nat) : oldF sg x ∈ setsF sg := by
  have hl : (setsF sg).length = 7 := rfl
  have h : x % 7 < (setsF sg).length := by rw [hl]; (first | lia | omega)
  unfold oldF
  rw [List.getElem?_eq_getElem h]
  exact List.getElem_mem h
theorem new_mem (sg : List Nat) (x : Nat) : newF sg x ∈ setsF sg := by
  have hl : (setsF sg).length = 7 := rfl
  unfold newF
  split
  · have h : x % 7 - x % 7 % 3 + x / 7 % 3 < (setsF sg).length := by rw [hl]; (first | lia | omega)
    rw [List.getElem?_eq_getElem h]
    exact List.getElem_mem h
  · simp [setsF]
/-! where a walk stops -/
/-! law's cells' places -/
set_option genInjectivity false in
set_option genSizeOf false in
structure LC where
  due : Addr
  moved : Addr
  row : Addr
  kept : Addr
  names : Addr
  new : Addr
  old : Addr
  pairs : Addr
  olds : Addr
  signs : Addr
  tail : Addr
  head : Addr
  script : Addr
@[reducible] noncomputable def cellsOf (ad : LC) : List (Str × Addr) := [("due", ad.due), ("moved", ad.moved), ("row", ad.row), ("kept", ad.kept), ("names", ad.names), ("new", ad.new), ("old", ad.old), ("pairs", ad.pairs), ("olds", ad.olds), ("signs", ad.signs), ("tail", ad.tail), ("head", ad.head), ("script", ad.script)]
theorem lc_of {as : List Addr} (h : as.length = 13) : ∃ ad : LC, as = [ad.due, ad.moved, ad.row, ad.kept, ad.names, ad.new, ad.old, ad.pairs, ad.olds, ad.signs, ad.tail, ad.head, ad.script] := by
  obtain ⟨x0, as, rfl⟩ := List.exists_cons_of_length_eq_add_one h
  replace h := Nat.succ.inj h
  obtain ⟨x1, as, rfl⟩ := List.exists_cons_of_length_eq_add_one h
  replace h := Nat.succ.inj h
  obtain ⟨x2, as, rfl⟩ := List.exists_cons_of_length_eq_add_one h
  replace h := Nat.succ.inj h
  obtain ⟨x3, as, rfl⟩ := List.exists_cons_of_length_eq_add_one h
  replace h := Nat.succ.inj h
  obtain ⟨x4, as, rfl⟩ := List.exists_cons_of_length_eq_add_one h
  replace h := Nat.succ.inj h
  obtain ⟨x5, as, rfl⟩ := List.exists_cons_of_length_eq_add_one h
  replace h := Nat.succ.inj h
  obtain ⟨x6, as, rfl⟩ := List.exists_cons_of_length_eq_add_one h
  replace h := Nat.succ.inj h
  obtain ⟨x7, as, rfl⟩ := List.exists_cons_of_length_eq_add_one h
  replace h := Nat.succ.inj h
  obtain ⟨x8, as, rfl⟩ := List.exists_cons_of_length_eq_add_one h
  replace h := Nat.succ.inj h
  obtain ⟨x9, as, rfl⟩ := List.exists_cons_of_length_eq_add_one h
  replace h := Nat.succ.inj h
  obtain ⟨x10, as, rfl⟩ := List.exists_cons_of_length_eq_add_one h
  replace h := Nat.succ.inj h
  obtain ⟨x11, as, rfl⟩ := List.exists_cons_of_length_eq_add_one h
  replace h := Nat.succ.inj h
  obtain ⟨x12, as, rfl⟩ := List.exists_cons_of_length_eq_add_one h
  replace h := Nat.succ.inj h
  cases List.eq_nil_of_length_eq_zero h
  exact ⟨⟨x0, x1, x2, x3, x4, x5, x6, x7, x8, x9, x10, x11, x12⟩, rfl⟩
theorem Cx.ne2 {s₀ s : Shared} {T : Tab} {i j : Nat} {a b : Addr} {p q : Rs} (c : Cx s₀ s T) (hi : T[i]? = some (a, p)) (hj : T[j]? = some (b, q)) (hij : i ≠ j) : a ≠ b := fun e => by
  have h1 : (T.map (·.1))[i]? = some a := by rw [List.getElem?_map, hi]; rfl
  have h2 : (T.map (·.1))[j]? = some b := by rw [List.getElem?_map, hj]; rfl
  exact hij ((List.getElem?_inj (List.getElem?_eq_some_iff.mp h1).1 c.nd).mp (by rw [h1, h2, e]))
end
section
set_option maxRecDepth 100000
open PySem
theorem spell_app (a b : List Tk) : spell (a ++ b) = spell a ++ spell b := by simp [spell]
theorem spell_starred : ∀ (r : List Tk) (t : Tk), spell (starred (t :: r)) = t.sp ++ (r.map fun t => [42] ++ t.sp).flatten
  | [], t => by simp [starred, spell]
  | u :: r, t => by
    have e : starred (t :: u :: r) = t :: .star :: starred (u :: r) := rfl
    have e2 : spell (t :: .star :: starred (u :: r)) = t.sp ++ ([42] ++ spell (starred (u :: r))) := by simp [spell, Tk.sp]
    rw [e, e2, spell_starred r u]
    simp
theorem join_toks {ts : List Tk} (h : ts ≠ []) (hd tl : Nat) : joinL [42] (edgeF hd ++ ts.map Tk.sp ++ edgeF tl) = spell (toksF hd tl ts) := by
  cases ts with
  | nil => exact absurd rfl h
  | cons t r =>
    unfold toksF edgeF
    rw [spell_app, spell_app, spell_starred]
    have key : ∀ r : List Tk, ((r.map Tk.sp).map ([42] ++ ·)).flatten = (r.map fun t => [42] ++ t.sp).flatten := fun r => by rw [List.map_map]; rfl
    by_cases h1 : hd = 1 <;> by_cases h2 : tl = 1 <;> simp only [h1, h2, if_true, if_false, List.nil_append, List.append_nil, List.map_cons, List.cons_append, joinL, List.map_append, List.flatten_append, key, List.map_nil, List.flatten_cons, List.flatten_nil]
    all_goals (simp [spell, Tk.sp]; try rfl)
noncomputable def Tk.plain : Tk → Bool
  | .star => false
  | t => t.ok
theorem ok_one {p : Bool} {t : Tk} {r : List Tk} (h : t.plain = true) : okTs p (t :: r) = okTs false r := by
  cases t with
  | star => cases h
  | q => simp [okTs, Tk.ok]
  | one c => have : (Tk.one c).ok = true := h; simp [okTs, this]
  | grp st => have : (Tk.grp st).ok = true := h; simp [okTs, this]
theorem ok_starred : ∀ (ts : List Tk), ts ≠ [] → (∀ t ∈ ts, t.plain = true) → ∀ (p : Bool) (e : List Tk), okTs p (starred ts ++ e) = okTs false e
  | [], h, _, _, _ => absurd rfl h
  | [t], _, hp, p, e => by rw [starred, List.singleton_append, ok_one (hp t (by simp))]
  | t :: u :: r, _, hp, p, e => by
    have e1 : starred (t :: u :: r) = t :: .star :: starred (u :: r) := rfl
    rw [e1, List.cons_append, ok_one (hp t (by simp)), List.cons_append]
    show (!false && okTs true (starred (u :: r) ++ e)) = _
    rw [ok_starred (u :: r) (by simp) (fun t ht => hp t (List.mem_cons_of_mem _ ht))]
    simp
theorem ok_toks {ts : List Tk} (h : ts ≠ []) (hp : ∀ t ∈ ts, t.plain = true) (hd tl : Nat) : okTs false (toksF hd tl ts) = true := by
  unfold toksF
  have e : okTs false (if tl = 1 then [] else [.star]) = true := by split <;> rfl
  split
  · rw [List.nil_append, ok_starred ts h hp]; exact e
  · rw [List.append_assoc, List.singleton_append]
    show (!false && okTs true (starred ts ++ _)) = true
    rw [ok_starred ts h hp, e]; rfl
theorem len_starred : ∀ ts : List Tk, (starred ts).length ≤ 2 * ts.length
  | [] => by simp [starred]
  | [t] => by simp [starred]
  | t :: u :: r => by
    have := len_starred (u :: r)
    simp only [starred, List.length_cons] at this ⊢; (first | lia | omega)
theorem len_toks (hd tl : Nat) (ts : List Tk) : (toksF hd tl ts).length ≤ 2 * ts.length + 2 := by
  have := len_starred ts
  unfold toksF
  rw [List.length_append, List.length_append]
  split <;> split <;> simp <;> (first | lia | omega)
theorem spell_len {b : Nat} : ∀ {ts : List Tk}, (∀ t ∈ ts, t.sp.length ≤ b) → (spell ts).length ≤ ts.length * b
  | [], _ => by simp [spell]
  | t :: r, h => by
    have h1 := h t (by simp)
    have h2 := spell_len (ts := r) fun u hu => h u (List.mem_cons_of_mem _ hu)
    have e : spell (t :: r) = t.sp ++ spell r := by simp [spell]
    rw [e, List.length_append, List.length_cons, Nat.add_mul]; (first | lia | omega)
theorem sp_starred {b : Nat} (hb : 1 ≤ b) : ∀ {ts : List Tk}, (∀ t ∈ ts, t.sp.length ≤ b) → ∀ t ∈ starred ts, t.sp.length ≤ b
  | [], _, t, ht => by simp [starred] at ht
  | [u], h, t, ht => by simp [starred] at ht; exact h t (by simp [ht])
  | u :: v :: r, h, t, ht => by
    have e1 : starred (u :: v :: r) = u :: .star :: starred (v :: r) := rfl
    rw [e1] at ht
    rcases List.mem_cons.mp ht with rfl | ht
    · exact h _ (by simp)
    · rcases List.mem_cons.mp ht with rfl | ht
      · exact hb
      · exact sp_starred hb (fun t ht => h t (List.mem_cons_of_mem _ ht)) t ht
theorem sp_toks {b : Nat} (hb : 1 ≤ b) {ts : List Tk} (h : ∀ t ∈ ts, t.sp.length ≤ b) (hd tl : Nat) : ∀ t ∈ toksF hd tl ts, t.sp.length ≤ b := by
  intro t ht
  unfold toksF at ht
  rcases List.mem_append.mp ht with ht | ht
  · rcases List.mem_append.mp ht with ht | ht
    · split at ht
      · cases ht
      · simp at ht; subst ht; exact hb
    · exact sp_starred hb h t ht
  · split at ht
    · cases ht
    · simp at ht; subst ht; exact hb
/-! the length of the text -/
theorem somes_behind (ps : Parts) : (somes ps).length + (behind ps).length = ps.length := by
  induction ps with
  | nil => rfl
  | cons p r ih => cases p with
    | none => simp [somes, behind]
    | some x => simp [somes, behind]; (first | lia | omega)
theorem somes_sub {ps : Parts} {b : Nat} (h : ∀ x, some x ∈ ps → x.length ≤ b) : (somes ps).flatten.length ≤ (somes ps).length * b := flat_len (somes_len h)
theorem behind_mem {ps : Parts} {q : Option (List Nat)} (h : q ∈ behind ps) : q ∈ ps := by
  induction ps with
  | nil => exact h
  | cons p r ih => cases p with
    | none => exact h
    | some x => exact List.mem_cons_of_mem _ (ih h)
theorem jGo_len {b : Nat} : ∀ (n : Nat) (ps : Parts), (∀ x, some x ∈ ps → x.length ≤ b) → (jGo n ps).length ≤ ps.length * (b + 7)
  | 0, _, _ => by simp [jGo]
  | _ + 1, [], _ => by simp [jGo]
  | n + 1, p :: rest, h => by
    have h' : ∀ x, some x ∈ rest → x.length ≤ b := fun x hx => h x (List.mem_cons_of_mem _ hx)
    have h1 := somes_sub h'
    have h2 := somes_behind rest
    have h3 := jGo_len n (behind rest) fun x hx => h' x (behind_mem hx)
    have h4 : (somes rest).length * b ≤ (somes rest).length * (b + 7) := Nat.mul_le_mul_left _ (by (first | lia | omega))
    have h5 : (somes rest).length * (b + 7) + (behind rest).length * (b + 7) = rest.length * (b + 7) := by rw [← Nat.add_mul, h2]
    rw [List.length_cons, Nat.add_mul]
    unfold jGo
    split
    · simp; (first | lia | omega)
    · split
      · simp only [List.length_append, List.length_cons, List.length_nil]; (first | lia | omega)
      · simp only [List.length_append, List.length_cons, List.length_nil]; (first | lia | omega)
theorem joinF_len {b : Nat} {ps : Parts} (h : ∀ x, some x ∈ ps → x.length ≤ b) : (joinF ps).length ≤ 7 + ps.length * (b + 7) := by
  have h1 := somes_sub h
  have h2 := somes_behind ps
  have h3 := jGo_len ps.length (behind ps) fun x hx => h x (behind_mem hx)
  have h4 : (somes ps).length * b ≤ (somes ps).length * (b + 7) := Nat.mul_le_mul_left _ (by (first | lia | omega))
  have h5 : (somes ps).length * (b + 7) + (behind ps).length * (b + 7) = ps.length * (b + 7) := by rw [← Nat.add_mul, h2]
  simp only [joinF, joinBody, List.length_append, List.length_cons, List.length_nil]; (first | lia | omega)
/-! reading back -/
noncomputable def Reads (sg text : List Nat) (row : List (List Nat)) : Prop := ∀ n, text.length ≤ n → readGo sg n text = row
theorem reads_end (sg : List Nat) : Reads sg [41, 92, 90] [] := fun n _ => by
  cases n with
  | zero => rfl
  | succ n => rw [readGo_succ, if_pos (by decide)]
theorem reads_step {sg text rest : List Nat} {x : Option (List Nat)} {row : List (List Nat)} (hs : readStep sg text = (x, rest)) (h3 : 3 < text.length) (hl : rest.length < text.length) (h : Reads sg rest row) : Reads sg text (x.toList ++ row) := fun n hn => by
  obtain ⟨m, rfl⟩ : ∃ m, n = m + 1 := ⟨n - 1, by (first | lia | omega)⟩
  rw [readGo_succ, if_neg (by (first | lia | omega)), hs, h m (by (first | lia | omega))]
noncomputable def Tail (rest : List Nat) : Prop := 3 ≤ rest.length ∧ rest.head? ≠ some 42
noncomputable def Piece (sg pc m : List Nat) : Prop := ∀ rest, Tail rest → readStep sg (pc ++ rest) = (some m, rest) ∧ pc ≠ []
theorem reads_piece {sg pc m rest : List Nat} {row : List (List Nat)} (hp : Piece sg pc m) (ht : Tail rest) (h : Reads sg rest row) : Reads sg (pc ++ rest) (m :: row) := by
  obtain ⟨h1, h2⟩ := hp rest ht
  have := List.length_pos_iff.mpr h2
  exact reads_step h1 (by have := ht.1; simp only [List.length_append]; (first | lia | omega)) (by simp only [List.length_append]; (first | lia | omega)) h
theorem reads_gap {sg rest : List Nat} {row : List (List Nat)} (h3 : 3 ≤ rest.length) (h : Reads sg rest row) : Reads sg (40 :: 63 :: 62 :: 46 :: 42 :: 63 :: rest) ([] :: row) :=
  reads_step (x := some []) (by simp [readStep]) (by simp only [List.length_cons]; (first | lia | omega)) (by simp only [List.length_cons]; (first | lia | omega)) h
theorem reads_star {sg rest : List Nat} {row : List (List Nat)} (h3 : 3 ≤ rest.length) (h : Reads sg rest row) : Reads sg (46 :: 42 :: rest) ([] :: row) :=
  reads_step (x := some []) (by simp [readStep]) (by simp only [List.length_cons]; (first | lia | omega)) (by simp only [List.length_cons]; (first | lia | omega)) h
theorem reads_close {sg rest : List Nat} {row : List (List Nat)} (h3 : 3 ≤ rest.length) (h : Reads sg rest row) : Reads sg (41 :: rest) row :=
  reads_step (x := none) (by simp [readStep]) (by simp only [List.length_cons]; (first | lia | omega)) (by simp only [List.length_cons]; (first | lia | omega)) h
theorem tail_cons {c : Nat} {rest : List Nat} (h : c ≠ 42) (h3 : 2 ≤ rest.length) : Tail (c :: rest) := ⟨by simp; (first | lia | omega), by simpa using h⟩
/-- what each spelling is -/
noncomputable def saysOk (sg m : List Nat) (t : Tk) : Bool := t.plain && match t with
  | .q => decide (m = sg)
  | .one c => decide (m = [c]) && c != 40 && c != 41 && c != 91 && c != 92
  | .grp st => decide (setOf sg (conv st) = m) && !(conv st).contains 93
  | .star => false
theorem says_all : ([[97, 98, 99], [42, 46, 63]].all fun sg => (setsF sg).all fun m => (List.range 3).all fun w => saysOk sg m (tkF m sg w)) = true := by decide +kernel
theorem says {sg m : List Nat} {w : Nat} (hsg : goodSg sg) (hm : m ∈ setsF sg) (hw : w ≤ 2) : saysOk sg m (tkF m sg w) = true := by
  have h := List.all_eq_true.mp says_all sg (by rcases hsg with rfl | rfl <;> simp)
  have h := List.all_eq_true.mp h m hm
  exact List.all_eq_true.mp h w (List.mem_range.mpr (by (first | lia | omega)))
theorem plain_of {sg m : List Nat} {t : Tk} (h : saysOk sg m t = true) : t.plain = true := by
  unfold saysOk at h
  exact (Bool.and_eq_true_iff.mp h).1
theorem piece_of {sg m : List Nat} {t : Tk} (h : saysOk sg m t = true) : ∃ pc, t.out = some pc ∧ Piece sg pc m ∧ pc.head? ≠ some 42 := by
  unfold saysOk at h
  obtain ⟨hp, h⟩ := Bool.and_eq_true_iff.mp h
  cases t with
  | star => cases hp
  | q =>
    have : m = sg := by simpa using h
    subst this
    refine ⟨[46], rfl, fun rest ht => ⟨?_, by simp⟩, by simp⟩
    have h2 : rest.take 1 ≠ [42] := fun e => ht.2 (by cases rest <;> simp_all)
    simp [readStep, h2]
  | one c =>
    simp only [Bool.and_eq_true, decide_eq_true_eq, bne_iff_ne] at h
    obtain ⟨⟨⟨⟨rfl, h1⟩, h2⟩, h3⟩, h4⟩ := h
    by_cases h46 : c = 46
    · subst h46
      refine ⟨[92, 46], rfl, fun rest ht => ⟨?_, by simp⟩, by simp⟩
      simp [readStep]
    · have h42 : c ≠ 42 := fun e => by subst e; simp [Tk.plain, Tk.ok] at hp
      refine ⟨[c], by simp [Tk.out, escF, h46], fun rest ht => ⟨?_, by simp⟩, by simpa using h42⟩
      simp [readStep, h1, h2, h3, h4, h46]
  | grp st =>
    simp only [Bool.and_eq_true, decide_eq_true_eq, Bool.not_eq_true', List.contains_eq_mem, decide_eq_false_iff_not] at h
    obtain ⟨h1, h93⟩ := h
    refine ⟨[91] ++ conv st ++ [93], rfl, fun rest ht => ⟨?_, by simp⟩, by simp⟩
    have hcl : closeAt ([91] ++ conv st ++ [93] ++ rest) = (conv st).length + 1 := by
      unfold closeAt
      rw [if_pos (by simp)]
      have e : [91] ++ conv st ++ [93] ++ rest = ([91] ++ conv st) ++ (93 :: rest) := by simp
      rw [e, List.idxOf_append]; simp [h93]
    unfold readStep
    rw [hcl]
    have e2 : (List.drop 1 ([91] ++ conv st ++ [93] ++ rest)).take ((conv st).length + 1 - 1) = conv st := by simp
    have e3 : List.drop ((conv st).length + 1 + 1) ([91] ++ conv st ++ [93] ++ rest) = rest := by
      have : [91] ++ conv st ++ [93] ++ rest = ([91] ++ conv st ++ [93]) ++ rest := by simp
      rw [this, List.drop_left' (by simp)]
    rw [e2, e3, h1]
    simp
theorem read_toks {sg : List Nat} (hd tl : Nat) (hh : hd ≤ 1) (ht : tl ≤ 1) : ∀ (ts : List Tk) (ms : List (List Nat)), ts.length = ms.length → 1 ≤ ts.length → ts.length ≤ 3 → (hd + tl < ts.length) → (∀ (i : Nat) (t : Tk) (m : List Nat), ts[i]? = some t → ms[i]? = some m → saysOk sg m t = true) →
    readF sg (toksF hd tl ts) = rowF hd tl ms := by
  intro ts ms hlen h1 h3 hin hall
  have hstar : Tk.star.out = none := rfl
  have e3 : 3 ≤ ([41, 92, 90] : List Nat).length := by decide
  suffices h : Reads sg (joinBody ((toksF hd tl ts).map Tk.out) ++ [41, 92, 90]) (rowF hd tl ms) from h _ (Nat.le_refl _)
  have hend := reads_end sg
  match ts, ms, hlen with
  | [], _, _ => simp at h1
  | [a], [m], _ =>
    obtain ⟨pa, ha, Pa, na⟩ := piece_of (hall 0 a m rfl rfl)
    obtain rfl | rfl : hd = 0 ∨ hd = 1 := by (first | lia | omega)
    all_goals obtain rfl | rfl : tl = 0 ∨ tl = 1 := by (first | lia | omega)
    all_goals
      first
        | (simp at hin; done)
        | (simp [toksF, starred, rowF, gapped, ha, hstar, joinBody, somes, behind, jGo]
           repeat (first
             | exact hend
             | refine reads_gap ?_ ?_
             | refine reads_star ?_ ?_
             | refine reads_piece Pa ?_ ?_
             | refine reads_close ?_ ?_
             | exact tail_cons (by decide) (by simp only [List.length_cons, List.length_append, List.length_nil]; (first | lia | omega))
             | (simp only [List.length_cons, List.length_append, List.length_nil]; (first | lia | omega))))
  | [a, b], [m, n], _ =>
    obtain ⟨pa, ha, Pa, na⟩ := piece_of (hall 0 a m rfl rfl)
    obtain ⟨pb, hb, Pb, nb⟩ := piece_of (hall 1 b n rfl rfl)
    obtain rfl | rfl : hd = 0 ∨ hd = 1 := by (first | lia | omega)
    all_goals obtain rfl | rfl : tl = 0 ∨ tl = 1 := by (first | lia | omega)
    all_goals
      first
        | (simp at hin; done)
        | (simp [toksF, starred, rowF, gapped, ha, hb, hstar, joinBody, somes, behind, jGo]
           repeat (first
             | exact hend
             | refine reads_gap ?_ ?_
             | refine reads_star ?_ ?_
             | refine reads_piece Pa ?_ ?_
             | refine reads_piece Pb ?_ ?_
             | refine reads_close ?_ ?_
             | exact tail_cons (by decide) (by simp only [List.length_cons, List.length_append, List.length_nil]; (first | lia | omega))
             | (simp only [List.length_cons, List.length_append, List.length_nil]; (first | lia | omega))))
  | [a, b, c], [m, n, o], _ =>
    obtain ⟨pa, ha, Pa, na⟩ := piece_of (hall 0 a m rfl rfl)
    obtain ⟨pb, hb, Pb, nb⟩ := piece_of (hall 1 b n rfl rfl)
    obtain ⟨pc, hc, Pc, nc⟩ := piece_of (hall 2 c o rfl rfl)
    obtain rfl | rfl : hd = 0 ∨ hd = 1 := by (first | lia | omega)
    all_goals obtain rfl | rfl : tl = 0 ∨ tl = 1 := by (first | lia | omega)
    all_goals
      first
        | (simp at hin; done)
        | (simp [toksF, starred, rowF, gapped, ha, hb, hc, hstar, joinBody, somes, behind, jGo]
           repeat (first
             | exact hend
             | refine reads_gap ?_ ?_
             | refine reads_star ?_ ?_
             | refine reads_piece Pa ?_ ?_
             | refine reads_piece Pb ?_ ?_
             | refine reads_piece Pc ?_ ?_
             | refine reads_close ?_ ?_
             | exact tail_cons (by decide) (by simp only [List.length_cons, List.length_append, List.length_nil]; (first | lia | omega))
             | (simp only [List.length_cons, List.length_append, List.length_nil]; (first | lia | omega))))
  | _ :: _ :: _ :: _ :: _, _, _ => simp at h3
theorem row_of {sg : List Nat} (hsg : goodSg sg) {hd tl inn : Nat} (hh : hd ≤ 1) (ht : tl ≤ 1) (hi : 1 ≤ inn) (h3 : hd + inn + tl ≤ 3) {xs : List Nat} (hx : xs.length = hd + inn + tl) (g : Nat → List Nat) (hg : ∀ x, g x ∈ setsF sg) (wy : Nat → Nat) (hw : ∀ x, wy x ≤ 2) :
    readF sg (toksF hd tl (xs.map fun x => tkF (g x) sg (wy x))) = rowF hd tl (xs.map g) := by
  refine read_toks hd tl hh ht _ _ (by simp) (by simp; (first | lia | omega)) (by simp; (first | lia | omega)) (by simp; (first | lia | omega)) fun i t m h1 h2 => ?_
  simp only [List.getElem?_map, Option.map_eq_some_iff] at h1 h2
  obtain ⟨x, hx1, rfl⟩ := h1
  obtain ⟨y, hy1, rfl⟩ := h2
  rw [hx1] at hy1; cases hy1
  exact says hsg (hg x) (hw x)
theorem spells_of {sg : List Nat} (hsg : goodSg sg) {xs : List Nat} (g : Nat → List Nat) (hg : ∀ x, g x ∈ setsF sg) (wy : Nat → Nat) (hw : ∀ x, wy x ≤ 2) : (xs.map fun x => spellF (g x) sg (wy x)) = (xs.map fun x => tkF (g x) sg (wy x)).map Tk.sp := by
  rw [List.map_map]
  exact List.map_congr_left fun x _ => ((sets_facts hsg _ (hg x)).2.2.2.2 _ (hw x)).1.symm
theorem plains_of {sg : List Nat} (hsg : goodSg sg) {xs : List Nat} (g : Nat → List Nat) (hg : ∀ x, g x ∈ setsF sg) (wy : Nat → Nat) (hw : ∀ x, wy x ≤ 2) : ∀ t ∈ (xs.map fun x => tkF (g x) sg (wy x)), t.plain = true ∧ t.sp.length ≤ 5 := by
  intro t ht
  obtain ⟨x, _, rfl⟩ := List.mem_map.mp ht
  exact ⟨plain_of (says hsg (hg x) (hw x)), ((sets_facts hsg _ (hg x)).2.2.2.2 _ (hw x)).2.2⟩
theorem gapped_len : ∀ l : List (List Nat), (gapped l).length ≤ 2 * l.length
  | [] => by simp [gapped]
  | [a] => by simp [gapped]
  | a :: b :: r => by have := gapped_len (b :: r); simp only [gapped, List.length_cons] at this ⊢; (first | lia | omega)
theorem row_len (hd tl : Nat) (l : List (List Nat)) : (rowF hd tl l).length ≤ 2 * l.length + 2 := by
  have := gapped_len l
  unfold rowF
  rw [List.length_append, List.length_append]
  split <;> split <;> simp <;> (first | lia | omega)
theorem names3_mem {ys : List Nat} {nm : List Nat} (h : nm ∈ names3 ys) : ∃ a b c, nm = [a, b, c] ∧ a ∈ ys ∧ b ∈ ys ∧ c ∈ ys := by
  simp only [names3, inner2, inner3, List.mem_flatMap, List.mem_map] at h
  obtain ⟨a, ha, b, hb, c, hc, rfl⟩ := h
  exact ⟨a, b, c, rfl, ha, hb, hc⟩
end
section
set_option maxRecDepth 100000
open PySem
/-! what fits -/
theorem fits_cons (m : List Nat) (r : List (List Nat)) (c : Nat) (t : List Nat) : fitsF (m :: r) (c :: t) = ((m.contains c && fitsF r t) || fitsF (m :: r) t) := by
  rw [fitsF, fitsF]
  rw [List.length_cons, List.range_succ_eq_map, List.any_cons]
  congr 1
  rw [List.any_map]
  rfl
theorem fits_nil (m : List Nat) (r : List (List Nat)) : fitsF (m :: r) [] = false := by rw [fitsF]; rfl
theorem fits_none (w : List Nat) : fitsF [] w = true := by rw [fitsF]
theorem fits_front : ∀ {its : List (List Nat)} {c : Nat} {t : List Nat}, fitsF its t = true → fitsF its (c :: t) = true
  | [], _, _, _ => fits_none _
  | m :: r, c, t, h => by rw [fits_cons, h, Bool.or_true]
theorem fits_less : ∀ {t : List Nat} {m : List Nat} {r : List (List Nat)}, fitsF (m :: r) t = true → fitsF r t = true
  | [], m, r, h => by rw [fits_nil] at h; cases h
  | c :: t, m, r, h => by
    rw [fits_cons] at h
    rcases Bool.or_eq_true_iff.mp h with h | h
    · exact fits_front (Bool.and_eq_true_iff.mp h).2
    · exact fits_front (fits_less h)
theorem fits_step (m : List Nat) (r : List (List Nat)) (c : Nat) (t : List Nat) : fitsF (m :: r) (c :: t) = if m.contains c = true then fitsF r t else fitsF (m :: r) t := by
  rw [fits_cons]
  by_cases h : m.contains c = true
  · rw [if_pos h, h, Bool.true_and]
    cases h2 : fitsF (m :: r) t with
    | false => simp
    | true => rw [fits_less h2]; rfl
  · rw [if_neg h]
    have : m.contains c = false := by simpa using h
    rw [this]; simp
/-! what the reader's row takes -/
noncomputable def gapL : List (List Nat) → List (List Nat)
  | [] => []
  | m :: r => [] :: m :: gapL r
theorem greedy_gap : ∀ (its : List (List Nat)) (b : Bool) (w : List Nat), (∀ m ∈ its, m ≠ []) → greedyF (gapL its ++ [[]]) b w = fitsF its w
  | [], b, w, _ => by simp [gapL, greedyF, fits_none]
  | m :: r, b, w, h => by
    have hm : m ≠ [] := h m (by simp)
    have ih := fun t => greedy_gap r false t fun x hx => h x (List.mem_cons_of_mem _ hx)
    show greedyF ([] :: m :: (gapL r ++ [[]])) b w = _
    rw [greedyF, if_pos rfl, greedyF, if_neg hm, if_pos rfl]
    induction w with
    | nil => rw [List.dropWhile_nil, fits_nil]
    | cons c t ihw =>
      rw [List.dropWhile_cons, fits_step]
      by_cases hc : m.contains c = true
      · rw [if_neg (by rw [hc]; simp), if_pos hc]
        show (m.contains c && greedyF (gapL r ++ [[]]) false t) = _
        rw [hc, Bool.true_and, ih]
      · have hc' : m.contains c = false := by simpa using hc
        rw [if_pos (by rw [hc']; rfl), if_neg hc]
        exact ihw
theorem greedy_head {m : List Nat} (hm : m ≠ []) (X : List (List Nat)) (c : Nat) (t : List Nat) : greedyF (m :: X) false (c :: t) = (m.contains c && greedyF X false t) := by
  rw [greedyF, if_neg hm]; rfl
theorem takes_kept {hd tl : Nat} (hh : hd ≤ 1) (ht : tl ≤ 1) (a b c : Nat) : ∀ sets : List (List Nat), (∀ m ∈ sets, m ≠ []) → hd + tl < sets.length → sets.length ≤ 3 → takesF (rowF hd tl sets) [a, b, c] = keptP hd tl sets [a, b, c] := by
  intro sets hne h1 h3
  have cut3 : cutL [a, b, c] (some ((0 : Nat) : Int)) (some ((3 : Int) - (0 : Nat))) = [a, b, c] := rfl
  have cut2 : cutL [a, b, c] (some ((0 : Nat) : Int)) (some ((3 : Int) - (1 : Nat))) = [a, b] := rfl
  have cut13 : cutL [a, b, c] (some ((1 : Nat) : Int)) (some ((3 : Int) - (0 : Nat))) = [b, c] := rfl
  have cut12 : cutL [a, b, c] (some ((1 : Nat) : Int)) (some ((3 : Int) - (1 : Nat))) = [b] := rfl
  obtain rfl | rfl : hd = 0 ∨ hd = 1 := by (first | lia | omega)
  all_goals obtain rfl | rfl : tl = 0 ∨ tl = 1 := by (first | lia | omega)
  · match sets with
    | [] => simp at h1
    | [x] =>
      have e : rowF 0 0 [x] = gapL [x] ++ [[]] := rfl
      rw [e, takesF_star, greedy_gap _ _ _ hne]
      unfold keptP
      rw [cut3, show cutL [x] (some ((0 : Nat) : Int)) (some ((([x] : List (List Nat)).length : Int) - (0 : Nat))) = [x] from rfl]; simp
    | [x, y] =>
      have e : rowF 0 0 [x, y] = gapL [x, y] ++ [[]] := rfl
      rw [e, takesF_star, greedy_gap _ _ _ hne]
      unfold keptP
      rw [cut3, show cutL [x, y] (some ((0 : Nat) : Int)) (some ((([x, y] : List (List Nat)).length : Int) - (0 : Nat))) = [x, y] from rfl]; simp
    | [x, y, z] =>
      have e : rowF 0 0 [x, y, z] = gapL [x, y, z] ++ [[]] := rfl
      rw [e, takesF_star, greedy_gap _ _ _ hne]
      unfold keptP
      rw [cut3, show cutL [x, y, z] (some ((0 : Nat) : Int)) (some ((([x, y, z] : List (List Nat)).length : Int) - (0 : Nat))) = [x, y, z] from rfl]; simp
    | _ :: _ :: _ :: _ :: _ => simp at h3
  · match sets with
    | [] => simp at h1
    | [x] => simp at h1
    | [x, y] =>
      have e : rowF 0 1 [x, y] = (gapL [x] ++ [[]]) ++ [y] := rfl
      rw [e, takesF_snoc _ _ (hne y (by simp))]
      show (y.contains c && takesF (gapL [x] ++ [[]]) [a, b]) = _
      rw [takesF_star, greedy_gap _ _ _ fun m hm => hne m (by simp at hm; simp [hm])]
      unfold keptP
      rw [cut2, show cutL [x, y] (some ((0 : Nat) : Int)) (some ((([x, y] : List (List Nat)).length : Int) - (1 : Nat))) = [x] from rfl]; simp
    | [x, y, z] =>
      have e : rowF 0 1 [x, y, z] = (gapL [x, y] ++ [[]]) ++ [z] := rfl
      rw [e, takesF_snoc _ _ (hne z (by simp))]
      show (z.contains c && takesF (gapL [x, y] ++ [[]]) [a, b]) = _
      rw [takesF_star, greedy_gap _ _ _ fun m hm => hne m (by simp at hm; rcases hm with h | h <;> simp [h])]
      unfold keptP
      rw [cut2, show cutL [x, y, z] (some ((0 : Nat) : Int)) (some ((([x, y, z] : List (List Nat)).length : Int) - (1 : Nat))) = [x, y] from rfl]; simp
    | _ :: _ :: _ :: _ :: _ => simp at h3
  · match sets with
    | [] => simp at h1
    | [x] => simp at h1
    | [x, y] =>
      have e : rowF 1 0 [x, y] = (x :: gapL [y]) ++ [[]] := rfl
      rw [e, takesF_star, List.cons_append, greedy_head (hne x (by simp)), greedy_gap _ _ _ fun m hm => hne m (by simp at hm; simp [hm])]
      unfold keptP
      rw [cut13, show cutL [x, y] (some ((1 : Nat) : Int)) (some ((([x, y] : List (List Nat)).length : Int) - (0 : Nat))) = [y] from rfl]; simp
    | [x, y, z] =>
      have e : rowF 1 0 [x, y, z] = (x :: gapL [y, z]) ++ [[]] := rfl
      rw [e, takesF_star, List.cons_append, greedy_head (hne x (by simp)), greedy_gap _ _ _ fun m hm => hne m (by simp at hm; rcases hm with h | h <;> simp [h])]
      unfold keptP
      rw [cut13, show cutL [x, y, z] (some ((1 : Nat) : Int)) (some ((([x, y, z] : List (List Nat)).length : Int) - (0 : Nat))) = [y, z] from rfl]; simp
    | _ :: _ :: _ :: _ :: _ => simp at h3
  · match sets with
    | [] => simp at h1
    | [x] => simp at h1
    | [x, y] => simp at h1
    | [x, y, z] =>
      have e : rowF 1 1 [x, y, z] = ((x :: gapL [y]) ++ [[]]) ++ [z] := rfl
      rw [e, takesF_snoc _ _ (hne z (by simp))]
      show (z.contains c && takesF ((x :: gapL [y]) ++ [[]]) [a, b]) = _
      rw [takesF_star, List.cons_append, greedy_head (hne x (by simp)), greedy_gap _ _ _ fun m hm => hne m (by simp at hm; simp [hm])]
      unfold keptP
      rw [cut12, show cutL [x, y, z] (some ((1 : Nat) : Int)) (some ((([x, y, z] : List (List Nat)).length : Int) - (1 : Nat))) = [y] from rfl]
      show (z.contains c && (x.contains a && fitsF [y] [b])) = (((false || x.contains a) && (false || z.contains c)) && fitsF [y] [b])
      cases x.contains a <;> cases z.contains c <;> cases fitsF [y] [b] <;> rfl
    | _ :: _ :: _ :: _ :: _ => simp at h3
end
section
set_option maxRecDepth 100000
set_option maxHeartbeats 2000000
open PySem
abbrev PT := List Nat × List Nat × Nat
noncomputable def fI (p : PT) (c : Nat) : Nat := p.2.1[p.1.idxOf c]?.getD 0
noncomputable def tI (p : PT) (c : Nat) : Bool := decide (p.1.idxOf c < p.2.2)
noncomputable def dr : List PT → List Nat → List Nat
  | [], w => w
  | _ :: _, [] => []
  | p :: r, c :: t => fI p c :: (if tI p c = true then dr r t else dr (p :: r) t)
theorem dr_cons (p : PT) (r : List PT) (c : Nat) (t : List Nat) : dr (p :: r) (c :: t) = fI p c :: (if tI p c = true then dr r t else dr (p :: r) t) := by rw [dr]
theorem dr_none (w : List Nat) : dr [] w = w := by rw [dr]
theorem dr_nil (ps : List PT) : dr ps [] = [] := by cases ps <;> rw [dr]
theorem step_keep {ps : List PT} {head tail : Nat} {nm : List Nat} {st : List Nat × Nat} {j : Nat} (h : st.2 = ps.length - tail ∧ j < 3 - tail) : dressStep ps head tail nm st j = (st.1 ++ [nm[j]?.getD 0], st.2) := if_pos h
theorem step_go {ps : List PT} {head tail : Nat} {nm : List Nat} {st : List Nat × Nat} {j : Nat} {p : PT} {c f : Nat} (h : ¬ (st.2 = ps.length - tail ∧ j < 3 - tail)) (hf : (if 3 - tail ≤ j then ps.length - 1 else st.2) = f) (hp : ps[f]? = some p) (hc : nm[j]? = some c) :
    dressStep ps head tail nm st j = (st.1 ++ [fI p c], if tI p c = true ∨ j < head then f + 1 else f) := by
  unfold dressStep
  rw [if_neg h, hf, hc]
  simp only [hp, Option.getD_some, fI, tI, decide_eq_true_eq]
theorem fold_dr {ps : List PT} {head tail : Nat} {nm : List Nat} : ∀ (w : List Nat) (j f : Nat) (told : List Nat), nm.drop j = w ++ nm.drop (j + w.length) → j + w.length ≤ 3 - tail → head ≤ j → f ≤ ps.length - tail →
    ∃ f', (List.range' j w.length).foldl (dressStep ps head tail nm) (told, f) = (told ++ dr ((ps.take (ps.length - tail)).drop f) w, f')
  | [], j, f, told, _, _, _, _ => ⟨f, by rw [dr_nil, List.append_nil]; rfl⟩
  | c :: w, j, f, told, hw, hj, hh, hf => by
    rw [List.length_cons] at hj hw ⊢
    rw [List.range'_succ, List.foldl_cons]
    have h0 : nm[j]? = some c := by rw [← List.head?_drop, hw]; rfl
    have hw' : nm.drop (j + 1) = w ++ nm.drop (j + 1 + w.length) := by
      rw [← List.drop_drop, hw, show j + (w.length + 1) = j + 1 + w.length by lia]; rfl
    by_cases hend : f = ps.length - tail
    · rw [step_keep (ps := ps) (head := head) (tail := tail) (nm := nm) (st := (told, f)) (j := j) ⟨hend, by lia⟩, h0]
      have hz : (ps.take (ps.length - tail)).drop f = [] := List.drop_of_length_le (by rw [List.length_take]; lia)
      obtain ⟨f', e⟩ := fold_dr (ps := ps) (head := head) (tail := tail) (nm := nm) w (j + 1) f (told ++ [c]) hw' (by lia) (by lia) hf
      refine ⟨f', e.trans ?_⟩
      rw [hz, dr_none, dr_none, List.append_assoc]; try rfl
    · have hlt : f < (ps.take (ps.length - tail)).length := by rw [List.length_take]; lia
      obtain ⟨p, hp⟩ : ∃ p, ps[f]? = some p := ⟨_, List.getElem?_eq_getElem (by lia)⟩
      have hp2 : (ps.take (ps.length - tail))[f] = p := by
        have := List.getElem?_eq_getElem hlt
        rw [List.getElem?_take_of_lt (by lia), hp] at this
        exact (Option.some.inj this).symm
      have hn : ¬ 3 - tail ≤ j := by lia
      rw [step_go (st := (told, f)) (p := p) (c := c) (f := f) (fun h => hend h.1) (if_neg hn) hp h0, List.drop_eq_getElem_cons hlt, hp2, dr_cons]
      by_cases ht : tI p c = true
      · rw [if_pos (.inl ht), if_pos ht]
        obtain ⟨f', e⟩ := fold_dr (ps := ps) (head := head) (tail := tail) (nm := nm) w (j + 1) (f + 1) (told ++ [fI p c]) hw' (by lia) (by lia) (by lia)
        exact ⟨f', e.trans (by rw [List.append_assoc]; try rfl)⟩
      · rw [if_neg (fun h => h.elim ht (by lia)), if_neg ht]
        obtain ⟨f', e⟩ := fold_dr (ps := ps) (head := head) (tail := tail) (nm := nm) w (j + 1) f (told ++ [fI p c]) hw' (by lia) (by lia) hf
        rw [List.drop_eq_getElem_cons hlt, hp2] at e
        exact ⟨f', e.trans (by rw [List.append_assoc]; try rfl)⟩
theorem df00 (a b c : Nat) (ps : List PT) (_ : 1 ≤ ps.length) (_ : ps.length ≤ 3) : dressF ps 0 0 [a, b, c] = dr ps [a, b, c] := by
  obtain ⟨f', e⟩ := fold_dr (ps := ps) (head := 0) (tail := 0) (nm := [a, b, c]) [a, b, c] 0 0 [] rfl (Nat.le_refl 3) (by decide) (by lia)
  have e2 := congrArg Prod.fst e
  rw [show (ps.take (ps.length - 0)).drop 0 = ps from List.take_of_length_le (Nat.le_refl _)] at e2
  exact e2
theorem df10 (a b c : Nat) (p : PT) (ps : List PT) (_ : 1 ≤ ps.length) (_ : ps.length ≤ 2) : dressF (p :: ps) 1 0 [a, b, c] = fI p a :: dr ps [b, c] := by
  obtain ⟨f', e⟩ := fold_dr (ps := p :: ps) (head := 1) (tail := 0) (nm := [a, b, c]) [b, c] 1 1 [fI p a] rfl (Nat.le_refl 3) (by decide) (by simp)
  have e2 := congrArg Prod.fst e
  rw [show ((p :: ps).take ((p :: ps).length - 0)).drop 1 = ps from congrArg (List.drop 1) (List.take_of_length_le (Nat.le_refl _))] at e2
  unfold dressF
  rw [List.range_eq_range', List.range'_succ, List.foldl_cons, step_go (p := p) (c := a) (f := 0) (fun h => by simp at h) rfl rfl rfl, if_pos (.inr Nat.one_pos)]
  exact e2
theorem last01 {ps : List PT} {head : Nat} {nm : List Nat} {st : List Nat × Nat} {q : PT} {c : Nat} (hq : ps[ps.length - 1]? = some q) (hc : nm[2]? = some c) : (dressStep ps head 1 nm st 2).1 = st.1 ++ [fI q c] := by
  rw [step_go (p := q) (c := c) (fun h => absurd h.2 (by decide)) (if_pos (by decide)) hq hc]
theorem df01 (a b c : Nat) (q : PT) (ps : List PT) (_ : 1 ≤ ps.length) (_ : ps.length ≤ 2) : dressF (ps ++ [q]) 0 1 [a, b, c] = dr ps [a, b] ++ [fI q c] := by
  obtain ⟨f', e⟩ := fold_dr (ps := ps ++ [q]) (head := 0) (tail := 1) (nm := [a, b, c]) [a, b] 0 0 [] rfl (Nat.le_refl 2) (by decide) (by lia)
  rw [show ((ps ++ [q]).take ((ps ++ [q]).length - 1)).drop 0 = ps from by rw [List.length_append, List.drop_zero]; exact List.take_left' rfl] at e
  show (dressStep _ 0 1 _ ((List.range' 0 2).foldl (dressStep (ps ++ [q]) 0 1 [a, b, c]) ([], 0)) 2).1 = _
  rw [last01 (q := q) (c := c) (by rw [List.length_append]; exact List.getElem?_concat_length) rfl, show List.range' 0 2 = List.range' 0 ([a, b] : List Nat).length from rfl, e]; rfl
theorem df11 (a b c : Nat) (p q r : PT) : dressF [p, q, r] 1 1 [a, b, c] = fI p a :: (dr [q] [b] ++ [fI r c]) := by
  obtain ⟨f', e⟩ := fold_dr (ps := [p, q, r]) (head := 1) (tail := 1) (nm := [a, b, c]) [b] 1 1 [fI p a] rfl (Nat.le_refl 2) (by decide) (show 1 ≤ 3 - 1 from Nat.le_succ 1)
  show (dressStep _ 1 1 _ ((List.range' 1 1).foldl (dressStep [p, q, r] 1 1 [a, b, c]) (dressStep [p, q, r] 1 1 [a, b, c] ([], 0) 0)) 2).1 = _
  rw [last01 (q := r) (c := c) rfl rfl, step_go (p := p) (c := a) (f := 0) (fun h => by simp at h) rfl rfl rfl, if_pos (.inr Nat.one_pos), show List.range' 1 1 = List.range' 1 ([b] : List Nat).length from rfl, show ((([], 0) : List Nat × Nat).1 ++ [fI p a], 0 + 1) = ([fI p a], 1) from rfl, e]; rfl
theorem kf00 (a b c : Nat) (sets : List (List Nat)) : keptP 0 0 sets [a, b, c] = fitsF sets [a, b, c] := by
  have h := cut_range sets 0 sets.length
  unfold keptP
  rw [show ((sets.length : Int) - ((0 : Nat) : Int)) = (sets.length : Int) by (first | lia | omega), h]
  have e : cutL [a, b, c] (some ((0 : Nat) : Int)) (some ((3 : Int) - ((0 : Nat) : Int))) = [a, b, c] := rfl
  rw [e]; simp
theorem kf10 (a b c : Nat) (m : List Nat) (sets : List (List Nat)) : keptP 1 0 (m :: sets) [a, b, c] = (m.contains a && fitsF sets [b, c]) := by
  have h := cut_range (m :: sets) 1 (sets.length + 1)
  unfold keptP
  rw [show (((m :: sets).length : Int) - ((0 : Nat) : Int)) = ((sets.length + 1 : Nat) : Int) by simp, h]
  have e : cutL [a, b, c] (some ((1 : Nat) : Int)) (some ((3 : Int) - ((0 : Nat) : Int))) = [b, c] := rfl
  rw [e]; simp
theorem kf01 (a b c : Nat) (m : List Nat) (sets : List (List Nat)) : keptP 0 1 (sets ++ [m]) [a, b, c] = (m.contains c && fitsF sets [a, b]) := by
  have h := cut_range (sets ++ [m]) 0 sets.length
  unfold keptP
  rw [show (((sets ++ [m]).length : Int) - ((1 : Nat) : Int)) = (sets.length : Int) by simp, h]
  have e : cutL [a, b, c] (some ((0 : Nat) : Int)) (some ((3 : Int) - ((1 : Nat) : Int))) = [a, b] := rfl
  rw [e]; simp
theorem kf11 (a b c : Nat) (m n o : List Nat) : keptP 1 1 [m, n, o] [a, b, c] = ((m.contains a && o.contains c) && fitsF [n] [b]) := by
  unfold keptP
  rw [show cutL [m, n, o] (some ((1 : Nat) : Int)) (some ((([m, n, o] : List (List Nat)).length : Int) - ((1 : Nat) : Int))) = [n] from rfl]
  have e : cutL [a, b, c] (some ((1 : Nat) : Int)) (some ((3 : Int) - ((1 : Nat) : Int))) = [b] := rfl
  rw [e]; simp
/-! what is so of each pair -/
noncomputable def pairOk (sg : List Nat) (p : PT) (old new : List Nat) : Bool :=
  sg.all fun c => (tI p c == old.contains c) && sg.contains (fI p c) && (new.contains (fI p c) == old.contains c) && sg.all fun d => !(fI p c == fI p d) || c == d
noncomputable def newIJ (sg : List Nat) (i j : Nat) : List Nat := if i < 6 then (setsF sg)[i - i % 3 + j]?.getD [] else sg
noncomputable def oldI (sg : List Nat) (i : Nat) : List Nat := (setsF sg)[i]?.getD []
noncomputable def pairIJ (sg : List Nat) (i j : Nat) : PT := (oldI sg i ++ complF sg (oldI sg i), newIJ sg i j ++ complF sg (newIJ sg i j), (oldI sg i).length)
theorem pairs_all : ([[97, 98, 99], [42, 46, 63]].all fun sg => (List.range 7).all fun i => (List.range 3).all fun j => pairOk sg (pairIJ sg i j) (oldI sg i) (newIJ sg i j)) = true := by decide +kernel
theorem pair_ok {sg : List Nat} (hsg : goodSg sg) (x : Nat) : pairOk sg (pairF sg x) (oldF sg x) (newF sg x) = true := by
  have h := List.all_eq_true.mp pairs_all sg (by rcases hsg with rfl | rfl <;> simp)
  have h := List.all_eq_true.mp h (x % 7) (List.mem_range.mpr (by (first | lia | omega)))
  exact List.all_eq_true.mp h (x / 7 % 3) (List.mem_range.mpr (by (first | lia | omega)))
structure PairS (sg : List Nat) (p : PT) (old new : List Nat) : Prop where
  t : ∀ c ∈ sg, tI p c = old.contains c
  m : ∀ c ∈ sg, fI p c ∈ sg
  k : ∀ c ∈ sg, new.contains (fI p c) = old.contains c
  i : ∀ c ∈ sg, ∀ d ∈ sg, fI p c = fI p d → c = d
theorem pairS {sg : List Nat} (hsg : goodSg sg) (x : Nat) : PairS sg (pairF sg x) (oldF sg x) (newF sg x) := by
  have h := List.all_eq_true.mp (pair_ok hsg x)
  have key : ∀ c ∈ sg, tI (pairF sg x) c = (oldF sg x).contains c ∧ fI (pairF sg x) c ∈ sg ∧ (newF sg x).contains (fI (pairF sg x) c) = (oldF sg x).contains c ∧ ∀ d ∈ sg, fI (pairF sg x) c = fI (pairF sg x) d → c = d := by
    intro c hc
    have := h c hc
    simp only [Bool.and_eq_true, beq_iff_eq] at this
    obtain ⟨⟨⟨h1, h2⟩, h3⟩, h4⟩ := this
    refine ⟨h1, by simpa using h2, h3, fun d hd e => ?_⟩
    have := List.all_eq_true.mp h4 d hd
    rw [e] at this
    simpa using this
  exact ⟨fun c hc => (key c hc).1, fun c hc => (key c hc).2.1, fun c hc => (key c hc).2.2.1, fun c hc => (key c hc).2.2.2⟩
noncomputable def Over (sg w : List Nat) : Prop := ∀ c ∈ w, c ∈ sg
theorem Over.cons {sg w : List Nat} {c : Nat} (h : Over sg (c :: w)) : c ∈ sg ∧ Over sg w := ⟨h c (by simp), fun d hd => h d (List.mem_cons_of_mem _ hd)⟩
section
variable {sg : List Nat} (hsg : goodSg sg)
include hsg
theorem dr_fits : ∀ (w : List Nat) (xs : List Nat), Over sg w → fitsF (xs.map (newF sg)) (dr (xs.map (pairF sg)) w) = fitsF (xs.map (oldF sg)) w
  | w, [], _ => by simp [fits_none]
  | [], x :: r, _ => by simp only [List.map_cons]; rw [dr_nil, fits_nil, fits_nil]
  | c :: t, x :: r, h => by
    obtain ⟨hc, ht⟩ := h.cons
    have S := pairS hsg x
    simp only [List.map_cons]
    rw [dr_cons, fits_step, fits_step, S.k c hc, S.t c hc]
    by_cases hk : (oldF sg x).contains c = true
    · rw [if_pos hk, if_pos hk, if_pos hk]; exact dr_fits t r ht
    · rw [if_neg hk, if_neg hk, if_neg hk]; exact dr_fits t (x :: r) ht
theorem dr_over : ∀ (w : List Nat) (xs : List Nat), Over sg w → Over sg (dr (xs.map (pairF sg)) w) ∧ (dr (xs.map (pairF sg)) w).length = w.length
  | w, [], h => by simp only [List.map_nil]; rw [dr_none]; exact ⟨h, rfl⟩
  | [], x :: r, h => by rw [dr_nil]; exact ⟨h, rfl⟩
  | c :: t, x :: r, h => by
    obtain ⟨hc, ht⟩ := h.cons
    have S := pairS hsg x
    have h1 := dr_over t r ht
    have h2 := dr_over t (x :: r) ht
    simp only [List.map_cons] at h2 ⊢
    rw [dr_cons]
    split
    · exact ⟨fun d hd => by
        rcases List.mem_cons.mp hd with rfl | hd
        · exact S.m c hc
        · exact h1.1 d hd, by rw [List.length_cons, h1.2, List.length_cons]⟩
    · exact ⟨fun d hd => by
        rcases List.mem_cons.mp hd with rfl | hd
        · exact S.m c hc
        · exact h2.1 d hd, by rw [List.length_cons, h2.2, List.length_cons]⟩
theorem dr_inj : ∀ (w w' : List Nat) (xs : List Nat), Over sg w → Over sg w' → w.length = w'.length → dr (xs.map (pairF sg)) w = dr (xs.map (pairF sg)) w' → w = w'
  | w, w', [], _, _, _, e => by simpa [dr_none] using e
  | [], [], _ :: _, _, _, _, _ => rfl
  | [], _ :: _, _ :: _, _, _, h, _ => by simp at h
  | _ :: _, [], _ :: _, _, _, h, _ => by simp at h
  | c :: t, c' :: t', x :: r, h, h', hl, e => by
    obtain ⟨hc, ht⟩ := h.cons
    obtain ⟨hc', ht'⟩ := h'.cons
    have S := pairS hsg x
    simp only [List.map_cons] at e
    rw [dr_cons, dr_cons] at e
    obtain ⟨e1, e2⟩ := List.cons.inj e
    have ec := S.i c hc c' hc' e1
    subst ec
    have hl' : t.length = t'.length := by simpa using hl
    congr 1
    by_cases hk : tI (pairF sg x) c = true
    · rw [if_pos hk, if_pos hk] at e2; exact dr_inj t t' r ht ht' hl' e2
    · rw [if_neg hk, if_neg hk] at e2; exact dr_inj t t' (x :: r) ht ht' hl' e2
end
end
section
set_option maxRecDepth 100000
open PySem
theorem names3_of {ys : List Nat} {a b c : Nat} (ha : a ∈ ys) (hb : b ∈ ys) (hc : c ∈ ys) : [a, b, c] ∈ names3 ys := by
  simp only [names3, inner2, inner3, List.mem_flatMap, List.mem_map]
  exact ⟨a, ha, b, hb, c, hc, rfl⟩
theorem two_of {sg : List Nat} {w : List Nat} (h : Over sg w) (hl : w.length = 2) : ∃ b c, w = [b, c] ∧ b ∈ sg ∧ c ∈ sg := by
  match w, hl with
  | [b, c], _ => exact ⟨b, c, rfl, h b (by simp), h c (by simp)⟩
theorem three_of {sg : List Nat} {w : List Nat} (h : Over sg w) (hl : w.length = 3) : ∃ a b c, w = [a, b, c] ∧ a ∈ sg ∧ b ∈ sg ∧ c ∈ sg := by
  match w, hl with
  | [a, b, c], _ => exact ⟨a, b, c, rfl, h a (by simp), h b (by simp), h c (by simp)⟩
theorem one_of {sg : List Nat} {w : List Nat} (h : Over sg w) (hl : w.length = 1) : ∃ a, w = [a] ∧ a ∈ sg := by
  match w, hl with
  | [a], _ => exact ⟨a, rfl, h a (by simp)⟩
theorem over2 {sg : List Nat} {a b : Nat} (ha : a ∈ sg) (hb : b ∈ sg) : Over sg [a, b] := fun c hc => by
  simp only [List.mem_cons, List.not_mem_nil, or_false] at hc
  rcases hc with rfl | rfl <;> assumption
theorem over3 {sg : List Nat} {a b c : Nat} (ha : a ∈ sg) (hb : b ∈ sg) (hc : c ∈ sg) : Over sg [a, b, c] := fun d hd => by
  simp only [List.mem_cons, List.not_mem_nil, or_false] at hd
  rcases hd with rfl | rfl | rfl <;> assumption
theorem over1 {sg : List Nat} {a : Nat} (ha : a ∈ sg) : Over sg [a] := fun d hd => by
  simp only [List.mem_cons, List.not_mem_nil, or_false] at hd
  rcases hd with rfl; assumption
/-- the four shapes of a run -/
inductive Shape : Nat → Nat → List Nat → Prop
  | s00 (xs : List Nat) (h1 : 1 ≤ xs.length) (h3 : xs.length ≤ 3) : Shape 0 0 xs
  | s10 (x : Nat) (r : List Nat) (h1 : 1 ≤ r.length) (h2 : r.length ≤ 2) : Shape 1 0 (x :: r)
  | s01 (r : List Nat) (y : Nat) (h1 : 1 ≤ r.length) (h2 : r.length ≤ 2) : Shape 0 1 (r ++ [y])
  | s11 (x y z : Nat) : Shape 1 1 [x, y, z]
theorem shape_of {hd tl inn : Nat} {xs : List Nat} (hh : hd ≤ 1) (ht : tl ≤ 1) (hi : 1 ≤ inn) (h3 : hd + inn + tl ≤ 3) (hx : xs.length = hd + inn + tl) : Shape hd tl xs := by
  obtain rfl | rfl : hd = 0 ∨ hd = 1 := by (first | lia | omega)
  all_goals obtain rfl | rfl : tl = 0 ∨ tl = 1 := by (first | lia | omega)
  · exact .s00 xs (by (first | lia | omega)) (by (first | lia | omega))
  · rcases List.eq_nil_or_concat xs with rfl | ⟨r, y, rfl⟩
    · first | (simp at hx; done) | (simp at hx; (first | lia | omega))
    · rw [List.concat_eq_append] at *
      simp at hx
      exact .s01 r y (by (first | lia | omega)) (by (first | lia | omega))
  · match xs with
    | [] => first | (simp at hx; done) | (simp at hx; (first | lia | omega))
    | x :: r =>
      simp at hx
      exact .s10 x r (by (first | lia | omega)) (by (first | lia | omega))
  · match xs with
    | [x, y, z] => exact .s11 x y z
    | [] => first | (simp at hx; done) | (simp at hx; (first | lia | omega))
    | [x] => first | (simp at hx; done) | (simp at hx; (first | lia | omega))
    | [x, y] => first | (simp at hx; done) | (simp at hx; (first | lia | omega))
    | _ :: _ :: _ :: _ :: _ => first | (simp at hx; done) | (simp at hx; (first | lia | omega))
section
variable {sg : List Nat} (hsg : goodSg sg)
include hsg
theorem dress_at {hd tl : Nat} {xs : List Nat} (h : Shape hd tl xs) {nm : List Nat} (hn : nm ∈ names3 sg) :
    dressF (xs.map (pairF sg)) hd tl nm ∈ names3 sg ∧ keptP hd tl (xs.map (newF sg)) (dressF (xs.map (pairF sg)) hd tl nm) = keptP hd tl (xs.map (oldF sg)) nm := by
  obtain ⟨a, b, c, rfl, ha, hb, hc⟩ := names3_mem hn
  cases h with
  | s00 xs h1 h3 =>
    rw [df00 a b c _ (by simpa using h1) (by simpa using h3)]
    obtain ⟨ho, hl⟩ := dr_over hsg [a, b, c] xs (over3 ha hb hc)
    have hf := dr_fits hsg [a, b, c] xs (over3 ha hb hc)
    obtain ⟨a', b', c', e, ha', hb', hc'⟩ := three_of ho hl
    rw [e] at hf ⊢
    exact ⟨names3_of ha' hb' hc', by rw [kf00, kf00, hf]⟩
  | s10 x r h1 h2 =>
    simp only [List.map_cons]
    rw [df10 a b c _ _ (by simpa using h1) (by simpa using h2)]
    have S := pairS hsg x
    obtain ⟨ho, hl⟩ := dr_over hsg [b, c] r (over2 hb hc)
    have hf := dr_fits hsg [b, c] r (over2 hb hc)
    obtain ⟨b', c', e, hb', hc'⟩ := two_of ho hl
    rw [e] at hf ⊢
    exact ⟨names3_of (S.m a ha) hb' hc', by rw [kf10, kf10, hf, S.k a ha]⟩
  | s01 r y h1 h2 =>
    simp only [List.map_append, List.map_cons, List.map_nil]
    rw [df01 a b c _ _ (by simpa using h1) (by simpa using h2)]
    have S := pairS hsg y
    obtain ⟨ho, hl⟩ := dr_over hsg [a, b] r (over2 ha hb)
    have hf := dr_fits hsg [a, b] r (over2 ha hb)
    obtain ⟨a', b', e, ha', hb'⟩ := two_of ho hl
    rw [e] at hf ⊢
    exact ⟨names3_of ha' hb' (S.m c hc), by show keptP 0 1 _ [a', b', _] = _; rw [kf01, kf01, hf, S.k c hc]⟩
  | s11 x y z =>
    simp only [List.map_cons, List.map_nil]
    rw [df11]
    have S := pairS hsg x
    have Z := pairS hsg z
    obtain ⟨ho, hl⟩ := dr_over hsg [b] [y] (over1 hb)
    have hf := dr_fits hsg [b] [y] (over1 hb)
    obtain ⟨b', e, hb'⟩ := one_of ho hl
    simp only [List.map_cons, List.map_nil] at e hf
    rw [e] at hf ⊢
    exact ⟨names3_of (S.m a ha) hb' (Z.m c hc), by show keptP 1 1 _ [_, b', _] = _; rw [kf11, kf11, hf, S.k a ha, Z.k c hc]⟩
theorem dress_inj {hd tl : Nat} {xs : List Nat} (h : Shape hd tl xs) {nm nm' : List Nat} (hn : nm ∈ names3 sg) (hn' : nm' ∈ names3 sg) (e : dressF (xs.map (pairF sg)) hd tl nm = dressF (xs.map (pairF sg)) hd tl nm') : nm = nm' := by
  obtain ⟨a, b, c, rfl, ha, hb, hc⟩ := names3_mem hn
  obtain ⟨a', b', c', rfl, ha', hb', hc'⟩ := names3_mem hn'
  cases h with
  | s00 xs h1 h3 =>
    rw [df00 a b c _ (by simpa using h1) (by simpa using h3), df00 a' b' c' _ (by simpa using h1) (by simpa using h3)] at e
    exact dr_inj hsg _ _ xs (over3 ha hb hc) (over3 ha' hb' hc') rfl e
  | s10 x r h1 h2 =>
    simp only [List.map_cons] at e
    rw [df10 a b c _ _ (by simpa using h1) (by simpa using h2), df10 a' b' c' _ _ (by simpa using h1) (by simpa using h2)] at e
    obtain ⟨e1, e2⟩ := List.cons.inj e
    rw [(pairS hsg x).i a ha a' ha' e1, dr_inj hsg _ _ r (over2 hb hc) (over2 hb' hc') rfl e2]
  | s01 r y h1 h2 =>
    simp only [List.map_append, List.map_cons, List.map_nil] at e
    rw [df01 a b c _ _ (by simpa using h1) (by simpa using h2), df01 a' b' c' _ _ (by simpa using h1) (by simpa using h2)] at e
    obtain ⟨e1, e2⟩ := List.append_inj' e rfl
    have e3 := (pairS hsg y).i c hc c' hc' (List.cons.inj e2).1
    have e4 := dr_inj hsg _ _ r (over2 ha hb) (over2 ha' hb') rfl e1
    obtain ⟨e5, e6⟩ := List.cons.inj e4
    rw [e3, e5, (List.cons.inj e6).1]
  | s11 x y z =>
    simp only [List.map_cons, List.map_nil] at e
    rw [df11, df11] at e
    obtain ⟨e1, e2⟩ := List.cons.inj e
    obtain ⟨e3, e4⟩ := List.append_inj' e2 rfl
    have f1 := (pairS hsg x).i a ha a' ha' e1
    have f2 := (pairS hsg z).i c hc c' hc' (List.cons.inj e4).1
    have f3 := dr_inj hsg [b] [b'] [y] (over1 hb) (over1 hb') rfl e3
    rw [f1, f2, (List.cons.inj f3).1]
theorem takes_at {hd tl : Nat} {xs : List Nat} (h : Shape hd tl xs) (hh : hd ≤ 1) (ht : tl ≤ 1) (g : Nat → List Nat) (hg : ∀ x, g x ∈ setsF sg) {nm : List Nat} (hn : nm ∈ names3 sg) : takesF (rowF hd tl (xs.map g)) nm = keptP hd tl (xs.map g) nm := by
  obtain ⟨a, b, c, rfl, _⟩ := names3_mem hn
  refine takes_kept hh ht a b c _ (fun m hm e => ?_) ?_ ?_
  · obtain ⟨x, _, rfl⟩ := List.mem_map.mp hm
    have := (sets_facts hsg _ (hg x)).1
    rw [e] at this; simp at this
  · cases h <;> simp <;> (first | lia | omega)
  · cases h <;> simp <;> (first | lia | omega)
end
end
section
set_option maxRecDepth 100000
open PySem
theorem names_rise {sg : List Nat} (hsg : goodSg sg) : (names3 sg).Pairwise (· < ·) := by
  rcases hsg with rfl | rfl
  · have h : (names3 [97, 98, 99]).Pairwise (· < ·) := by decide +kernel
    exact h
  · have h : (names3 [42, 46, 63]).Pairwise (· < ·) := by decide +kernel
    exact h
theorem nodup_rise {l : List (List Nat)} (h : l.Pairwise (· < ·)) : l.Nodup := h.imp fun {a b} hab e => by subst e; exact List.lt_irrefl _ hab
theorem lt_tri {a b : List Nat} (h1 : ¬ a < b) (h2 : ¬ b < a) : a = b := List.le_antisymm (List.not_lt.mp h2) (List.not_lt.mp h1)
theorem rise_lt {l : List (List Nat)} (h : riseL l) (hn : l.Nodup) : l.Pairwise (· < ·) := by
  unfold riseL at h
  induction l with
  | nil => exact .nil
  | cons x r ih =>
    obtain ⟨h1, h2⟩ := List.pairwise_cons.mp h
    obtain ⟨n1, n2⟩ := List.nodup_cons.mp hn
    refine List.pairwise_cons.mpr ⟨fun y hy => ?_, ih h2 n2⟩
    by_cases hxy : x < y
    · exact hxy
    · exact absurd (lt_tri hxy (h1 y hy) ▸ hy) n1
theorem rise_eq : ∀ {l1 l2 : List (List Nat)}, l1.Pairwise (· < ·) → l2.Pairwise (· < ·) → (∀ x, x ∈ l1 ↔ x ∈ l2) → l1 = l2
  | [], [], _, _, _ => rfl
  | [], y :: r, _, _, h => by have := (h y).mpr (by simp); cases this
  | x :: r, [], _, _, h => by have := (h x).mp (by simp); cases this
  | x :: r, y :: t, h1, h2, h => by
    obtain ⟨a1, a2⟩ := List.pairwise_cons.mp h1
    obtain ⟨b1, b2⟩ := List.pairwise_cons.mp h2
    have e : x = y := by
      refine lt_tri (fun hlt => ?_) (fun hlt => ?_)
      · rcases List.mem_cons.mp ((h x).mp (by simp)) with rfl | hm
        · exact List.lt_irrefl _ hlt
        · exact List.lt_irrefl _ (List.lt_trans hlt (b1 x hm))
      · rcases List.mem_cons.mp ((h y).mpr (by simp)) with rfl | hm
        · exact List.lt_irrefl _ hlt
        · exact List.lt_irrefl _ (List.lt_trans hlt (a1 y hm))
    subst e
    rw [rise_eq a2 b2 fun z => ?_]
    constructor
    · intro hz
      rcases List.mem_cons.mp ((h z).mp (List.mem_cons_of_mem _ hz)) with rfl | hm
      · exact absurd (a1 z hz) (List.lt_irrefl _)
      · exact hm
    · intro hz
      rcases List.mem_cons.mp ((h z).mpr (List.mem_cons_of_mem _ hz)) with rfl | hm
      · exact absurd (b1 z hz) (List.lt_irrefl _)
      · exact hm
theorem sub_len {a : List (List Nat)} : ∀ {b : List (List Nat)}, a.Nodup → (∀ x ∈ a, x ∈ b) → b.length ≤ a.length → ∀ y ∈ b, y ∈ a := by
  induction a with
  | nil => intro b _ _ hl y hy; cases b with
    | nil => exact hy
    | cons => simp at hl
  | cons x r ih =>
    intro b hn hs hl y hy
    obtain ⟨n1, n2⟩ := List.nodup_cons.mp hn
    by_cases hyx : y = x
    · subst hyx; simp
    · refine List.mem_cons_of_mem _ (ih (b := b.erase x) n2 (fun z hz => ?_) ?_ y ((List.mem_erase_of_ne hyx).mpr hy))
      · exact (List.mem_erase_of_ne (fun (e : z = x) => n1 (e ▸ hz))).mpr (hs z (List.mem_cons_of_mem _ hz))
      · rw [List.length_erase_of_mem (hs x (by simp))]; simp at hl; (first | lia | omega)
theorem dedup_app : ∀ (l acc : List (List Nat)), (acc ++ l).Nodup → l.foldl dedupStep acc = acc ++ l
  | [], acc, _ => by simp
  | x :: r, acc, h => by
    have hx : acc.contains x = false := by
      have := List.nodup_append.mp h
      simp only [List.contains_eq_mem, decide_eq_false_iff_not]
      exact fun hm => this.2.2 x hm x (by simp) rfl
    rw [List.foldl_cons]
    unfold dedupStep
    rw [hx, if_neg (by simp)]
    rw [show (List.foldl (fun acc x => if acc.contains x = true then acc else acc ++ [x]) (acc ++ [x]) r) = r.foldl dedupStep (acc ++ [x]) from rfl, dedup_app r (acc ++ [x]) (by simpa using h)]
    simp
theorem dedup_id {l : List (List Nat)} (h : l.Nodup) : dedupF l = l := by
  have := dedup_app l [] (by simpa using h)
  simpa [dedupF] using this
theorem dedup_tail {l : List (List Nat)} (h : l.Nodup) : dedupF (l ++ l.take 1) = l := by
  unfold dedupF
  rw [List.foldl_append]
  have e := dedup_id h
  unfold dedupF at e
  rw [e]
  cases l with
  | nil => rfl
  | cons x r => simp [dedupStep]
theorem uld_done : ∀ {a b m : List (List Nat)}, a.Nodup → (∀ x ∈ a, x ∈ b) → b.length = a.length → uldGo a b m = (m, [])
  | [], b, m, _, _, hl => by
    have : b = [] := List.length_eq_zero_iff.mp (by simpa using hl)
    subst this; rfl
  | x :: r, b, m, hn, hs, hl => by
    obtain ⟨n1, n2⟩ := List.nodup_cons.mp hn
    rw [uldGo, if_pos (hs x (by simp))]
    refine uld_done n2 (fun z hz => (List.mem_erase_of_ne (fun (e : z = x) => n1 (e ▸ hz))).mpr (hs z (List.mem_cons_of_mem _ hz))) ?_
    rw [List.length_erase_of_mem (hs x (by simp)), hl]; simp
theorem remove_done : ∀ {a b : List (List Nat)}, a.Nodup → (∀ x ∈ a, x ∈ b) → b.length = a.length → removeAll a b = some []
  | [], b, _, _, hl => by
    have : b = [] := List.length_eq_zero_iff.mp (by simpa using hl)
    subst this; rfl
  | x :: r, b, hn, hs, hl => by
    obtain ⟨n1, n2⟩ := List.nodup_cons.mp hn
    rw [removeAll, if_pos (hs x (by simp))]
    refine remove_done n2 (fun z hz => (List.mem_erase_of_ne (fun (e : z = x) => n1 (e ▸ hz))).mpr (hs z (List.mem_cons_of_mem _ hz))) ?_
    rw [List.length_erase_of_mem (hs x (by simp)), hl]; simp
theorem remove_none : ∀ {a b : List (List Nat)} {x : List Nat}, x ∈ a → x ∉ b → removeAll a b = none
  | y :: r, b, x, hx, hb => by
    rw [removeAll]
    split
    · rename_i hy
      have hne : x ≠ y := fun e => hb (e ▸ hy)
      exact remove_none ((List.mem_cons.mp hx).resolve_left hne) fun hm => hb (List.mem_of_mem_erase hm)
    · rfl
theorem cmp_same {a b : List (List Nat)} (ha : a.Nodup) (hb : b.Nodup) (hs : ∀ x ∈ a, x ∈ b) (hl : b.length = a.length) : cmpF a b = true := by
  unfold cmpF
  rw [dedup_id ha, dedup_id hb, remove_done ha hs hl]; rfl
theorem cmp_tail {a b : List (List Nat)} (ha : a.Nodup) (hb : b.Nodup) (hs : ∀ x ∈ a, x ∈ b) (hl : b.length = a.length) : cmpF a (b ++ b.take 1) = true := by
  unfold cmpF
  rw [dedup_id ha, dedup_tail hb, remove_done ha hs hl]; rfl
theorem cmp_rise {a b : List (List Nat)} (ha : a.Pairwise (· < ·)) (hb : b.Pairwise (· < ·)) (hl : b.length = a.length) : cmpF a b = decide (a = b) := by
  by_cases h : ∀ x ∈ a, x ∈ b
  · rw [cmp_same (nodup_rise ha) (nodup_rise hb) h hl]
    have e : a = b := rise_eq ha hb fun x => ⟨h x, sub_len (nodup_rise ha) h (Nat.le_of_eq hl) x⟩
    rw [decide_eq_true e]
  · have hne : a ≠ b := fun e => h (by rw [e]; exact fun x hx => hx)
    rw [decide_eq_false hne]
    obtain ⟨x, hx, hxb⟩ : ∃ x, x ∈ a ∧ x ∉ b := by
      refine Classical.byContradiction fun hc => h fun x hx => Classical.byContradiction fun hb => hc ⟨x, hx, hb⟩
    unfold cmpF
    rw [dedup_id (nodup_rise ha), dedup_id (nodup_rise hb), remove_none hx hxb]
theorem filter_same {p q : List Nat → Bool} {l : List (List Nat)} (h : ∀ x ∈ l, p x = q x) : l.filter p = l.filter q := List.filter_congr h
theorem fnone (l : List (List Nat)) : l.filter (fun x => !(([] : List (List Nat)).contains x)) = l := List.filter_eq_self.mpr fun x hx => by simp
theorem sld_rise : ∀ (n : Nat) (a b : List (List Nat)), a.length + b.length ≤ n → a.Pairwise (· < ·) → b.Pairwise (· < ·) → sldGo n a b = (a.filter (fun x => !b.contains x), b.filter (fun x => !a.contains x))
  | 0, a, b, h, _, _ => by
    have h1 : a = [] := List.length_eq_zero_iff.mp (by (first | lia | omega))
    have h2 : b = [] := List.length_eq_zero_iff.mp (by (first | lia | omega))
    subst h1 h2; rfl
  | _ + 1, [], b, _, _, _ => by
    rw [sldGo_end (.inl rfl), fnone]; rfl
  | _ + 1, x :: a, [], _, _, _ => by
    rw [sldGo_end (.inr rfl), fnone]; rfl
  | n + 1, x :: a, y :: b, h, h1, h2 => by
    obtain ⟨a1, a2⟩ := List.pairwise_cons.mp h1
    obtain ⟨b1, b2⟩ := List.pairwise_cons.mp h2
    simp only [List.length_cons] at h
    rw [sldGo]
    by_cases hxy : x < y
    · rw [if_pos hxy, sld_rise n a (y :: b) (by simp; (first | lia | omega)) a2 h2]
      have hn : x ∉ y :: b := fun hm => by
        rcases List.mem_cons.mp hm with rfl | hm
        · exact List.lt_irrefl _ hxy
        · exact List.lt_irrefl _ (List.lt_trans hxy (b1 x hm))
      refine Prod.ext ?_ ?_
      · show x :: a.filter (fun z => !(y :: b).contains z) = (x :: a).filter (fun z => !(y :: b).contains z)
        rw [List.filter_cons, if_pos (by simpa using hn)]
      · show (y :: b).filter (fun z => !a.contains z) = (y :: b).filter (fun z => !(x :: a).contains z)
        refine filter_same fun z hz => ?_
        have : z ≠ x := fun e => hn (e ▸ hz)
        simp [this]
    · rw [if_neg hxy]
      by_cases hyx : y < x
      · rw [if_pos hyx, sld_rise n (x :: a) b (by simp; (first | lia | omega)) h1 b2]
        have hn : y ∉ x :: a := fun hm => by
          rcases List.mem_cons.mp hm with rfl | hm
          · exact List.lt_irrefl _ hyx
          · exact List.lt_irrefl _ (List.lt_trans hyx (a1 y hm))
        refine Prod.ext ?_ ?_
        · show (x :: a).filter (fun z => !b.contains z) = (x :: a).filter (fun z => !(y :: b).contains z)
          refine filter_same fun z hz => ?_
          have : z ≠ y := fun e => hn (e ▸ hz)
          simp [this]
        · show y :: b.filter (fun z => !(x :: a).contains z) = (y :: b).filter (fun z => !(x :: a).contains z)
          rw [List.filter_cons, if_pos (by simpa using hn)]
      · rw [if_neg hyx]
        have e := lt_tri hxy hyx
        subst e
        rw [sld_rise n a b (by (first | lia | omega)) a2 b2]
        refine Prod.ext ?_ ?_
        · show a.filter (fun z => !b.contains z) = (x :: a).filter (fun z => !(x :: b).contains z)
          rw [List.filter_cons, if_neg (by simp)]
          refine filter_same fun z hz => ?_
          have : z ≠ x := fun e => List.lt_irrefl _ (e ▸ a1 z hz)
          simp [this]
        · show b.filter (fun z => !a.contains z) = (x :: b).filter (fun z => !(x :: a).contains z)
          rw [List.filter_cons, if_neg (by simp)]
          refine filter_same fun z hz => ?_
          have : z ≠ x := fun e => List.lt_irrefl _ (e ▸ b1 z hz)
          simp [this]
end
section
set_option maxRecDepth 100000
open PySem
/-! how many names fit -/
noncomputable def sumL (f : Nat → Nat) : List Nat → Nat
  | [] => 0
  | c :: r => f c + sumL f r
theorem cnt_flat (f : Nat → List (List Nat)) (P : List Nat → Bool) : ∀ l : List Nat, ((l.flatMap f).filter P).length = sumL (fun c => ((f c).filter P).length) l
  | [] => rfl
  | c :: r => by rw [List.flatMap_cons, List.filter_append, List.length_append, cnt_flat f P r]; rfl
theorem sum_same {f g : Nat → Nat} : ∀ {l : List Nat}, (∀ c ∈ l, f c = g c) → sumL f l = sumL g l
  | [], _ => rfl
  | c :: r, h => by rw [sumL, sumL, h c (by simp), sum_same fun d hd => h d (List.mem_cons_of_mem _ hd)]
theorem sum_if (q : Nat → Bool) (A B : Nat) : ∀ l : List Nat, sumL (fun c => if q c = true then A else B) l = (l.filter q).length * A + (l.length - (l.filter q).length) * B
  | [] => by simp [sumL]
  | c :: r => by
    have hle := List.length_filter_le q r
    rw [sumL, sum_if q A B r, List.filter_cons]
    by_cases h : q c = true
    · rw [if_pos h, if_pos h, List.length_cons, List.length_cons, show r.length + 1 - ((r.filter q).length + 1) = r.length - (r.filter q).length by (first | lia | omega), Nat.add_mul]; (first | lia | omega)
    · rw [if_neg h, if_neg h, List.length_cons, show r.length + 1 - (r.filter q).length = (r.length - (r.filter q).length) + 1 by (first | lia | omega), Nat.add_mul]; (first | lia | omega)
theorem sum_mul (f : Nat → Nat) (k : Nat) : ∀ l : List Nat, sumL (fun c => f c * k) l = sumL f l * k
  | [] => by simp [sumL]
  | c :: r => by rw [sumL, sumL, sum_mul f k r, Nat.add_mul]
noncomputable def wd (sg : List Nat) : Nat → List (List Nat)
  | 0 => [[]]
  | n + 1 => sg.flatMap fun c => (wd sg n).map (c :: ·)
noncomputable def cnt (sg : List Nat) (n : Nat) (P : List Nat → Bool) : Nat := ((wd sg n).filter P).length
theorem cnt_succ (sg : List Nat) (n : Nat) (P : List Nat → Bool) : cnt sg (n + 1) P = sumL (fun c => cnt sg n fun t => P (c :: t)) sg := by
  unfold cnt
  rw [wd, cnt_flat]
  refine sum_same fun c _ => ?_
  rw [List.filter_map, List.length_map]; rfl
theorem cnt_same {sg : List Nat} {n : Nat} {P Q : List Nat → Bool} (h : ∀ w, P w = Q w) : cnt sg n P = cnt sg n Q := by
  have : P = Q := funext h
  rw [this]
theorem cnt_false (sg : List Nat) (n : Nat) : cnt sg n (fun _ => false) = 0 := by unfold cnt; simp
theorem cnt_if (sg : List Nat) (n : Nat) (b : Bool) (P : List Nat → Bool) : cnt sg n (fun t => b && P t) = if b = true then cnt sg n P else 0 := by
  cases b
  · exact cnt_same (Q := fun _ => false) (fun _ => rfl) |>.trans (cnt_false sg n)
  · exact cnt_same fun _ => rfl
theorem names_wd (sg : List Nat) (P : List Nat → Bool) : ((names3 sg).filter P).length = cnt sg 3 P := by
  have e : names3 sg = wd sg 3 := by
    simp [names3, inner2, inner3, wd, List.map_flatMap, List.flatMap_map, ← List.map_eq_flatMap]
    try rfl
  rw [e]; rfl
noncomputable def nfit : List Nat → Nat → Nat
  | [], n => 3 ^ n
  | _ :: _, 0 => 0
  | k :: r, n + 1 => k * nfit r n + (3 - k) * nfit (k :: r) n
theorem cnt_all {sg : List Nat} (hs : sg.length = 3) : ∀ n, cnt sg n (fun _ => true) = 3 ^ n
  | 0 => rfl
  | n + 1 => by
    rw [cnt_succ, sum_same (g := fun c => (fun _ => 1) c * 3 ^ n) (fun c _ => by rw [cnt_all hs n]; simp), sum_mul]
    have : ∀ l : List Nat, sumL (fun _ => 1) l = l.length := fun l => by induction l with
      | nil => rfl
      | cons a r ih => rw [sumL, ih, List.length_cons]; (first | lia | omega)
    rw [this, hs, Nat.pow_succ]; (first | lia | omega)
noncomputable def mOk (sg m : List Nat) : Prop := (sg.filter m.contains).length = m.length
theorem cnt_fit {sg : List Nat} (hs : sg.length = 3) : ∀ (n : Nat) (its : List (List Nat)), (∀ m ∈ its, mOk sg m) → cnt sg n (fitsF its) = nfit (its.map List.length) n
  | n, [], _ => by
    rw [cnt_same (Q := fun _ => true) fits_none, cnt_all hs, List.map_nil, nfit]
  | 0, m :: r, _ => by
    have : cnt sg 0 (fitsF (m :: r)) = 0 := by unfold cnt wd; simp [fits_nil]
    rw [this, List.map_cons, nfit]
  | n + 1, m :: r, h => by
    have hm : (sg.filter m.contains).length = m.length := h m (by simp)
    have h1 := cnt_fit hs n r fun x hx => h x (List.mem_cons_of_mem _ hx)
    have h2 := cnt_fit hs n (m :: r) h
    rw [cnt_succ, sum_same (g := fun c => if m.contains c = true then cnt sg n (fitsF r) else cnt sg n (fitsF (m :: r))) (fun c _ => ?_), sum_if, hm, hs, h1, h2, List.map_cons, nfit]
    by_cases hc : m.contains c = true
    · rw [if_pos hc]; exact cnt_same fun t => by rw [fits_step, if_pos hc]
    · rw [if_neg hc]; exact cnt_same fun t => by rw [fits_step, if_neg hc]
theorem cnt_head {sg m : List Nat} (hm : mOk sg m) (n : Nat) (P : List Nat → Bool) {Q : List Nat → Bool} (h : ∀ c t, Q (c :: t) = (m.contains c && P t)) : cnt sg (n + 1) Q = m.length * cnt sg n P := by
  have hm' : (sg.filter m.contains).length = m.length := hm
  rw [cnt_succ, sum_same (g := fun c => if m.contains c = true then cnt sg n P else 0) (fun c _ => ?_), sum_if, hm']
  · simp
  · rw [← cnt_if]; exact cnt_same fun t => h c t
theorem cnt_last {sg m : List Nat} (hm : mOk sg m) : ∀ (n : Nat) (P Q : List Nat → Bool), (∀ t c, t.length = n → Q (t ++ [c]) = (m.contains c && P t)) → cnt sg (n + 1) Q = cnt sg n P * m.length
  | 0, P, Q, h => by
    have e : cnt sg 0 P = if P [] = true then 1 else 0 := by unfold cnt wd; by_cases hp : P [] = true <;> simp [hp]
    have hm' : (sg.filter m.contains).length = m.length := hm
    have hc0 : ∀ c, (cnt sg 0 fun t => Q (c :: t)) = if (P [] && m.contains c) = true then 1 else 0 := fun c => by
      have := h [] c rfl
      rw [List.nil_append] at this
      unfold cnt wd
      rw [Bool.and_comm, ← this]
      by_cases hq : Q [c] = true <;> simp [hq]
    rw [cnt_succ, sum_same (fun c _ => hc0 c), e]
    cases P []
    · have := sum_if (fun _ => false) 1 0 sg
      have z : sg.filter (fun _ => false) = [] := List.filter_eq_nil_iff.mpr (by simp)
      rw [z] at this
      simpa using this
    · have := sum_if m.contains 1 0 sg
      rw [hm'] at this
      simpa using this
  | n + 1, P, Q, h => by
    rw [cnt_succ, cnt_succ, ← sum_mul]
    refine sum_same fun c _ => ?_
    exact cnt_last hm n (fun t => P (c :: t)) (fun t => Q (c :: t)) fun t d ht => h (c :: t) d (by simp [ht])
theorem sets_ok {sg : List Nat} (h : goodSg sg) : ∀ m ∈ setsF sg, mOk sg m ∧ (m.length = 1 ∨ m.length = 2 ∨ m.length = 3) := by
  have key : ∀ sg ∈ [[97, 98, 99], [42, 46, 63]], ∀ m ∈ setsF sg, (sg.filter m.contains).length = m.length ∧ (m.length = 1 ∨ m.length = 2 ∨ m.length = 3) := by decide +kernel
  exact key sg (by rcases h with rfl | rfl <;> simp)
theorem cnt3 {sg : List Nat} {P Q : List Nat → Bool} (h : ∀ a b c, P [a, b, c] = Q [a, b, c]) : cnt sg 3 P = cnt sg 3 Q := by
  rw [cnt_succ, cnt_succ]
  refine sum_same fun a _ => ?_
  rw [cnt_succ, cnt_succ]
  refine sum_same fun b _ => ?_
  rw [cnt_succ, cnt_succ]
  refine sum_same fun c _ => ?_
  unfold cnt wd
  rw [List.filter_cons, List.filter_cons, h a b c]
  rfl
abbrev sz3 (k : Nat) : Prop := k = 1 ∨ k = 2 ∨ k = 3
theorem f00a {k : Nat} (h : sz3 k) : ((nfit [k] 3 : Nat) : Int) = countF [(k : Int)] 0 0 := by
  rcases h with rfl | rfl | rfl <;> decide +kernel
theorem f00b {k l : Nat} (h : sz3 k) (h' : sz3 l) : ((nfit [k, l] 3 : Nat) : Int) = countF [(k : Int), (l : Int)] 0 0 := by
  rcases h with rfl | rfl | rfl <;> rcases h' with rfl | rfl | rfl <;> decide +kernel
theorem f00c {k l m : Nat} (h : sz3 k) (h' : sz3 l) (h'' : sz3 m) : ((nfit [k, l, m] 3 : Nat) : Int) = countF [(k : Int), (l : Int), (m : Int)] 0 0 := by
  rcases h with rfl | rfl | rfl <;> rcases h' with rfl | rfl | rfl <;> rcases h'' with rfl | rfl | rfl <;> decide +kernel
theorem f10a {k l : Nat} (h : sz3 k) (h' : sz3 l) : ((k * nfit [l] 2 : Nat) : Int) = countF [(k : Int), (l : Int)] 1 0 := by
  rcases h with rfl | rfl | rfl <;> rcases h' with rfl | rfl | rfl <;> decide +kernel
theorem f10b {k l m : Nat} (h : sz3 k) (h' : sz3 l) (h'' : sz3 m) : ((k * nfit [l, m] 2 : Nat) : Int) = countF [(k : Int), (l : Int), (m : Int)] 1 0 := by
  rcases h with rfl | rfl | rfl <;> rcases h' with rfl | rfl | rfl <;> rcases h'' with rfl | rfl | rfl <;> decide +kernel
theorem f01a {k l : Nat} (h : sz3 k) (h' : sz3 l) : ((nfit [k] 2 * l : Nat) : Int) = countF [(k : Int), (l : Int)] 0 1 := by
  rcases h with rfl | rfl | rfl <;> rcases h' with rfl | rfl | rfl <;> decide +kernel
theorem f01b {k l m : Nat} (h : sz3 k) (h' : sz3 l) (h'' : sz3 m) : ((nfit [k, l] 2 * m : Nat) : Int) = countF [(k : Int), (l : Int), (m : Int)] 0 1 := by
  rcases h with rfl | rfl | rfl <;> rcases h' with rfl | rfl | rfl <;> rcases h'' with rfl | rfl | rfl <;> decide +kernel
theorem f11 {k l m : Nat} (h : sz3 k) (h' : sz3 l) (h'' : sz3 m) : ((k * (nfit [l] 1 * m) : Nat) : Int) = countF [(k : Int), (l : Int), (m : Int)] 1 1 := by
  rcases h with rfl | rfl | rfl <;> rcases h' with rfl | rfl | rfl <;> rcases h'' with rfl | rfl | rfl <;> decide +kernel
theorem count_shape {hd tl : Nat} {xs : List Nat} (h : Shape hd tl xs) {sg : List Nat} (hsg : goodSg sg) :
    (((names3 sg).filter (keptP hd tl (xs.map (oldF sg)))).length : Int) = countF ((xs.map (oldF sg)).map fun m => (m.length : Int)) hd tl := by
  have hs : sg.length = 3 := (good_asc hsg).2
  have ok : ∀ x, mOk sg (oldF sg x) := fun x => (sets_ok hsg _ (old_mem sg x)).1
  have sz : ∀ x, sz3 (oldF sg x).length := fun x => (sets_ok hsg _ (old_mem sg x)).2
  have okl : ∀ l : List Nat, ∀ m ∈ l.map (oldF sg), mOk sg m := fun l m hm => by
    obtain ⟨x, _, rfl⟩ := List.mem_map.mp hm; exact ok x
  rw [names_wd]
  cases h with
  | s00 xs h1 h3 =>
    rw [cnt3 (Q := fitsF (xs.map (oldF sg))) (fun a b c => kf00 a b c _), cnt_fit hs 3 _ (okl xs)]
    match xs, h1, h3 with
    | [x], _, _ => exact f00a (sz x)
    | [x, y], _, _ => exact f00b (sz x) (sz y)
    | [x, y, z], _, _ => exact f00c (sz x) (sz y) (sz z)
  | s10 x r h1 h2 =>
    rw [List.map_cons, cnt3 (Q := fun w => (oldF sg x).contains (w.headD 0) && fitsF (r.map (oldF sg)) w.tail) (fun a b c => kf10 a b c _ _), cnt_head (ok x) 2 (fitsF (r.map (oldF sg))) (fun _ _ => rfl), cnt_fit hs 2 _ (okl r)]
    match r, h1, h2 with
    | [y], _, _ => exact f10a (sz x) (sz y)
    | [y, z], _, _ => exact f10b (sz x) (sz y) (sz z)
  | s01 r y h1 h2 =>
    rw [List.map_append, List.map_cons, List.map_nil, cnt3 (Q := fun w => (oldF sg y).contains (w.getLastD 0) && fitsF (r.map (oldF sg)) w.dropLast) (fun a b c => kf01 a b c _ _), cnt_last (ok y) 2 (fitsF (r.map (oldF sg))) _ (fun t c _ => by simp [List.getLastD_eq_getLast?]), cnt_fit hs 2 _ (okl r)]
    match r, h1, h2 with
    | [x], _, _ => exact f01a (sz x) (sz y)
    | [x, z], _, _ => exact f01b (sz x) (sz z) (sz y)
  | s11 x y z =>
    rw [List.map_cons, List.map_cons, List.map_cons, List.map_nil, cnt3 (Q := fun w => (oldF sg x).contains (w.headD 0) && ((oldF sg z).contains (w.tail.getLastD 0) && fitsF [oldF sg y] w.tail.dropLast)) (fun a b c => by rw [kf11, Bool.and_assoc]; rfl), cnt_head (ok x) 2 (fun t => (oldF sg z).contains (t.getLastD 0) && fitsF [oldF sg y] t.dropLast) (fun _ _ => rfl), cnt_last (ok z) 1 (fitsF [oldF sg y]) _ (fun t c _ => by simp [List.getLastD_eq_getLast?]), cnt_fit hs 1 _ (fun m hm => by simp at hm; rw [hm]; exact ok y)]
    exact f11 (sz x) (sz y) (sz z)
end
section
set_option maxRecDepth 100000
open PySem
structure Facts (sg : List Nat) (hd tl : Nat) (xs : List Nat) (ds : List (List Nat)) : Prop where
  sub : ∀ x ∈ (names3 sg).filter (takesF (rowF hd tl (xs.map (oldF sg)))), x ∈ names3 sg
  nd : ((names3 sg).filter (takesF (rowF hd tl (xs.map (oldF sg))))).Nodup
  nd2 : ((names3 sg).filter (takesF (rowF hd tl (xs.map (newF sg))))).Nodup
  P1 : (names3 sg).filter (takesF (rowF hd tl (xs.map (oldF sg)))) = (names3 sg).filter (keptP hd tl (xs.map (oldF sg)))
  P2 : (names3 sg).filter (takesF (rowF hd tl (xs.map (newF sg)))) = ds
  P3 : (((names3 sg).filter (takesF (rowF hd tl (xs.map (oldF sg))))).length : Int) = countF ((xs.map (oldF sg)).map fun m => (m.length : Int)) hd tl
  P4 : dedupF ((names3 sg).map (dressF (xs.map (pairF sg)) hd tl)) = (names3 sg).map (dressF (xs.map (pairF sg)) hd tl)
  P5 : uldF ((names3 sg).map (dressF (xs.map (pairF sg)) hd tl)) (names3 sg) = ([], [])
  P6 : cmpF (((names3 sg).filter (takesF (rowF hd tl (xs.map (oldF sg))))).map fun nm => ((names3 sg).map (dressF (xs.map (pairF sg)) hd tl))[(names3 sg).idxOf nm]?.getD [])
    ((names3 sg).filter (takesF (rowF hd tl (xs.map (newF sg)))) ++ ((names3 sg).filter (takesF (rowF hd tl (xs.map (newF sg))))).take 1) = true
  P7 : sldF ((names3 sg).filter (takesF (rowF hd tl (xs.map (oldF sg))))) ((names3 sg).filter (takesF (rowF hd tl (xs.map (newF sg))))) =
    (((names3 sg).filter (keptP hd tl (xs.map (oldF sg)))).filter (fun x => !ds.contains x), ds.filter (fun x => !((names3 sg).filter (keptP hd tl (xs.map (oldF sg)))).contains x))
  P8 : cmpF ((names3 sg).filter (takesF (rowF hd tl (xs.map (oldF sg))))) ((names3 sg).filter (takesF (rowF hd tl (xs.map (newF sg))))) = decide ((names3 sg).filter (keptP hd tl (xs.map (oldF sg))) = ds)
theorem map_nodup {f : List Nat → List Nat} : ∀ {l : List (List Nat)}, l.Nodup → (∀ x ∈ l, ∀ y ∈ l, f x = f y → x = y) → (l.map f).Nodup
  | [], _, _ => .nil
  | x :: r, h, hi => by
    obtain ⟨n1, n2⟩ := List.nodup_cons.mp h
    rw [List.map_cons]
    refine List.nodup_cons.mpr ⟨fun hm => ?_, map_nodup n2 fun a ha b hb => hi a (List.mem_cons_of_mem _ ha) b (List.mem_cons_of_mem _ hb)⟩
    obtain ⟨y, hy, e⟩ := List.mem_map.mp hm
    exact n1 (hi x (by simp) y (List.mem_cons_of_mem _ hy) e.symm ▸ hy)
theorem by_index (P : List Nat → Bool) (f : List Nat → List Nat) : ∀ l : List (List Nat), ((List.range l.length).filter fun k => P (l[k]?.getD [])).map (fun k => (l.map f)[k]?.getD []) = (l.filter P).map f
  | [] => rfl
  | x :: r => by
    rw [List.length_cons, List.range_succ_eq_map, List.filter_cons, List.filter_cons]
    have e : (List.filter (fun k => P ((x :: r)[k]?.getD [])) (List.map Nat.succ (List.range r.length))).map (fun k => ((x :: r).map f)[k]?.getD []) = (r.filter P).map f := by
      rw [← by_index P f r, List.filter_map, List.map_map]; rfl
    by_cases h : P x = true
    · rw [if_pos (by exact h), if_pos h, List.map_cons (f := fun k => ((x :: r).map f)[k]?.getD []), e]; rfl
    · rw [if_neg (by exact h), if_neg h, e]
theorem at_index (f : List Nat → List Nat) : ∀ (l : List (List Nat)) (x : List Nat), x ∈ l → (l.map f)[l.idxOf x]?.getD [] = f x
  | l, x, h => by
    have hl := List.idxOf_lt_length_iff.mpr h
    rw [List.getElem?_map, List.getElem?_eq_getElem hl, List.getElem_idxOf hl]; rfl
theorem rev_mem {l m : List (List Nat)} (h : ∀ x ∈ l, x ∈ m) : ∀ x ∈ l.reverse, x ∈ m := fun x hx => h x (List.mem_reverse.mp hx)
theorem facts {sg : List Nat} (hsg : goodSg sg) {hd tl inn : Nat} (hh : hd ≤ 1) (ht : tl ≤ 1) (hi : 1 ≤ inn) (h3 : hd + inn + tl ≤ 3) {xs : List Nat} (hx : xs.length = hd + inn + tl) {ds : List (List Nat)} (hr : riseL ds)
    (hp : ds.Perm (((List.range 27).filter fun k => ((names3 sg).filter (keptP hd tl (xs.map (oldF sg)))).contains ((names3 sg)[k]?.getD [])).map fun k => ((names3 sg).map (dressF (xs.map (pairF sg)) hd tl))[k]?.getD [])) : Facts sg hd tl xs ds := by
  have sh := shape_of hh ht hi h3 hx
  have hlen : (names3 sg).length = 27 := len_names3 sg (good_asc hsg).2
  have hN := names_rise hsg
  have hnd := nodup_rise hN
  have e1 : (names3 sg).filter (takesF (rowF hd tl (xs.map (oldF sg)))) = (names3 sg).filter (keptP hd tl (xs.map (oldF sg))) :=
    List.filter_congr fun nm hm => takes_at hsg sh hh ht (oldF sg) (old_mem sg) hm
  have e2 : (names3 sg).filter (takesF (rowF hd tl (xs.map (newF sg)))) = (names3 sg).filter (keptP hd tl (xs.map (newF sg))) :=
    List.filter_congr fun nm hm => takes_at hsg sh hh ht (newF sg) (new_mem sg) hm
  generalize hK : (names3 sg).filter (keptP hd tl (xs.map (oldF sg))) = kept at *
  generalize hO : (names3 sg).filter (keptP hd tl (xs.map (newF sg))) = other at *
  generalize hf : dressF (xs.map (pairF sg)) hd tl = f at *
  have fm : ∀ nm ∈ names3 sg, f nm ∈ names3 sg := fun nm hm => hf ▸ (dress_at hsg sh hm).1
  have fk : ∀ nm ∈ names3 sg, keptP hd tl (xs.map (newF sg)) (f nm) = keptP hd tl (xs.map (oldF sg)) nm := fun nm hm => hf ▸ (dress_at hsg sh hm).2
  have fi : ∀ x ∈ names3 sg, ∀ y ∈ names3 sg, f x = f y → x = y := fun x hx' y hy e => dress_inj hsg sh hx' hy (by rw [hf]; exact e)
  have mnd : ((names3 sg).map f).Nodup := map_nodup hnd fi
  have msub : ∀ x ∈ (names3 sg).map f, x ∈ names3 sg := fun x hm => by
    obtain ⟨y, hy, rfl⟩ := List.mem_map.mp hm; exact fm y hy
  have msup : ∀ x ∈ names3 sg, x ∈ (names3 sg).map f := sub_len mnd msub (by rw [List.length_map]; exact Nat.le_refl _)
  have ksub : ∀ x ∈ kept, x ∈ names3 sg := fun x hm => by rw [← hK] at hm; exact (List.mem_filter.mp hm).1
  have kr : kept.Pairwise (· < ·) := hK ▸ hN.filter _
  have orr : other.Pairwise (· < ·) := hO ▸ hN.filter _
  have dp : ds.Perm (kept.map f) := by
    have hb := by_index (fun nm => kept.contains nm) f (names3 sg)
    rw [hlen] at hb
    have hk : (names3 sg).filter (fun nm => kept.contains nm) = kept := by
      rw [← hK]
      refine List.filter_congr fun nm hm => ?_
      rw [Bool.eq_iff_iff]
      simp [hm]
    rw [hk] at hb
    exact hb ▸ hp
  have knd : (kept.map f).Nodup := map_nodup (nodup_rise kr) fun x hx' y hy => fi x (ksub x hx') y (ksub y hy)
  have dnd : ds.Nodup := dp.nodup_iff.mpr knd
  have dr := rise_lt hr dnd
  have eo : other = ds := rise_eq orr dr fun x => by
    rw [dp.mem_iff, List.mem_map, ← hO, List.mem_filter]
    constructor
    · rintro ⟨hm, hk⟩
      obtain ⟨y, hy, rfl⟩ := List.mem_map.mp (msup x hm)
      exact ⟨y, by rw [← hK]; exact List.mem_filter.mpr ⟨hy, by rw [← fk y hy]; exact hk⟩, rfl⟩
    · rintro ⟨y, hy, rfl⟩
      rw [← hK] at hy
      obtain ⟨h1, h2⟩ := List.mem_filter.mp hy
      exact ⟨fm y h1, by rw [fk y h1]; exact h2⟩
  have dl : ds.length = kept.length := by rw [dp.length_eq, List.length_map]
  have ei : (kept.map fun nm => ((names3 sg).map f)[(names3 sg).idxOf nm]?.getD []) = kept.map f := List.map_congr_left fun nm hm => at_index f _ nm (ksub nm hm)
  refine { sub := ?_, nd := ?_, nd2 := ?_, P1 := ?_, P2 := ?_, P3 := ?_, P4 := ?_, P5 := ?_, P6 := ?_, P7 := ?_, P8 := ?_ }
  · rw [e1]; exact ksub
  · rw [e1]; exact nodup_rise kr
  · rw [e2]; exact nodup_rise orr
  · rw [e1, hK]
  · rw [e2, eo]
  · rw [e1, ← hK]; exact count_shape sh hsg
  · rw [hf]; exact dedup_id mnd
  · rw [hf]
    exact uld_done ((List.reverse_perm _).nodup_iff.mpr mnd) (rev_mem msub) (by rw [List.length_reverse, List.length_map])
  · rw [e1, e2, eo, hf, ei]
    exact cmp_tail knd dnd (fun x hm => dp.mem_iff.mpr hm) (by rw [dl, List.length_map])
  · rw [e1, e2, eo, hK]
    exact sld_rise _ _ _ (Nat.le_refl _) kr dr
  · rw [e1, e2, eo, hK]
    exact cmp_rise kr dr dl
end
section
set_option maxRecDepth 100000
set_option maxHeartbeats 4000000
open PySem PySem.W PyProof.Rows PySem.Calls
theorem law_s1 {mg mb : Str → Option Value} {w : World} {cd P f : Addr} {A : Around} {QQ : Flow → Shared → Prop} {EE : Value → Shared → Prop} {s₀ s : Shared} {T : Tab} {fr : List Env} {lr : List (Str × Option Value)} {l L : Addr} {ad : LC} {code : Value}
    (hR : Room A 19) (X : Top1 w mg mb s₀.heap cd P) (hP : (P, tabR) ∈ T) (hfr' : A.frames = some ((envC dLaw L f code (cellsOf ad)) :: fr)) (hF : FrOk T fr) (hQ : ∀ s', Cx s₀ s' T → QQ (.ret (.bool true)) s') {vs : List Value} {ns : List Int}
    (hl : s₀.heap.IsList l vs.toArray) (hs : IntsAre vs ns) (hz : vs.length ≤ 1000)
    (next : ∀ (s : Shared) (D SE O PA FI SD : Addr) (th tt ti tsg : Tok) (sg : List Nat) (hd tl inn : Nat) (sv dv : List Value) (ns : List Nat), goodSg sg → hd ≤ 1 → tl ≤ 1 → 1 ≤ inn → hd + inn + tl ≤ 3 → StrsAre sv ((setsF sg).map S) → IntsAre dv (ns.map fun k : Nat => (k : Int)) → ns.length = 4 →
      Cx s₀ s ((SD, Rs.lst []) :: (FI, Rs.lst []) :: (PA, Rs.lst []) :: (O, Rs.lst []) :: (SE, Rs.lst sv) :: (D, Rs.lst dv) :: (L, Rs.ns (("draws", some (.ref D)) :: ("inner", some (.int (inn : Nat) ti)) :: ("sets", some (.ref SE)) :: ("first", some (.ref FI)) :: ("second", some (.ref SD)) :: lr)) :: (ad.pairs, Rs.cell (some (.ref PA))) :: (ad.olds, Rs.cell (some (.ref O))) :: (ad.signs, Rs.cell (some (.str (S sg) tsg))) :: (ad.tail, Rs.cell (some (.int (tl : Nat) tt))) :: (ad.head, Rs.cell (some (.int (hd : Nat) th))) :: (ad.script, Rs.cell (some (.ref l))) :: T) → wpAny (model PW w) A (execs (dLaw.body.drop 10) (envC dLaw L f code (cellsOf ad))) QQ EE s)
    (c' : Cx s₀ s ((L, Rs.ns (("draws", none) :: ("inner", none) :: ("sets", none) :: ("first", none) :: ("second", none) :: lr)) :: (ad.pairs, Rs.cell none) :: (ad.olds, Rs.cell none) :: (ad.signs, Rs.cell none) :: (ad.tail, Rs.cell none) :: (ad.head, Rs.cell none) :: (ad.script, Rs.cell (some (.ref l))) :: T)) : wpAny (model PW w) A (execs (dLaw.body.drop 0) (envC dLaw L f code (cellsOf ad))) QQ EE s := by
    have G := X.g
    refine wpAny_execs_cons ?_
    refine compUse (s₀ := s₀) (cl := [("script", ad.script)]) (by kernel_rfl) (by with_unfolding_all rfl) (by decide +kernel) rfl (by decide +kernel) (by decide +kernel) (by kernel_rfl) ?_
    ((with_reducible refine rCallN ?_; refine nB ‹_› ‹_› (by kernel_rfl) (by rfl) (by rfl) (mm1 _ _ _) ?_; refine rT1 (by with_unfolding_all rfl) ?_; refine rMore (by with_unfolding_all rfl) ?_; refine kInt ‹_› fun t' s' c9 => ?_; (try clear c'); rename Cx _ _ _ => c'; refine spliced_none ?_; refine rangeIter1 ‹_› (by first | assumption | omega | wtm_at "zz_sz") (by first | assumption | omega | wtm_at "zz_sz") fun it' s' c9 => ?_; (try clear c'); rename Cx _ _ _ => c'); dsimp only)
    refine useRange2 (n := 4) (fun _ => true) (fun pre acc => ∃ ms : List Nat, IntsAre acc (ms.map (fun k : Nat => (k : Int))) ∧ ms.length = pre.length) c' hR.handled (by decide) ⟨[], .nil, rfl⟩ ((mm0 _ _)) ?_ ?_
    · rintro C D it r' acc pre xi v s E hxi ⟨tk, rfl⟩ ⟨ms, hms, hml⟩ c'
      have hx4 : xi < 4 := by simpa using hxi
      (with_reducible refine tests0 ?_; refine andT ?_; refine iteT ?_; refine wpAny_BinOp ?_; refine rCallN ?_; refine nB ‹_› ‹_› (by kernel_rfl) (by rfl) (by rfl) (mm4 _ _ _ _ _ _) ?_; refine rB1 (by with_unfolding_all rfl) ?_; refine rMore (by with_unfolding_all rfl) ?_; refine rCallN ?_; refine nB ‹_› ‹_› (by kernel_rfl) (by rfl) (by rfl) (mm5 _ _ _ _ _ _ _) ?_; refine rB1 (by with_unfolding_all rfl) ?_; refine rMore (by with_unfolding_all rfl) ?_; refine Subscript_ ?_; refine nC ‹_› (by kernel_rfl) (by with_unfolding_all rfl) (mm9 _ _ _ _ _ _ _ _ _ _ _) ?_; refine wpAny_Slice ?_; refine evalPart_some_step ?_; refine nL ‹_› (by kernel_rfl) (mm0 _ _) (mm0 _ _) ?_; refine evalPart_none_step ?_; refine evalPart_some_step ?_; refine kInt ‹_› fun t' s' c9 => ?_; (try clear c'); rename Cx _ _ _ => c')
      refine oCutStep (k := xi) c' (isl c' hl) hs hz (by with_unfolding_all rfl) (fun _ => by with_unfolding_all rfl) (fun b' s' ws ms' hms' c' => ?_)
      (with_reducible refine spliced_none ?_)
      refine oSumL c' hR.handled (c'.lat ((mm0 _ _))) hms' (fun n t' s' c' => ?_)
      (with_reducible refine spliced_none ?_; refine oAbs ‹_› fun t' s' c9 => ?_; (try clear c'); rename Cx _ _ _ => c'; refine Subscript_ ?_; refine Tuple_ ?_; refine rMore (by with_unfolding_all rfl) ?_; refine kInt ‹_› fun t' s' c9 => ?_; (try clear c'); rename Cx _ _ _ => c'; refine rMore (by with_unfolding_all rfl) ?_; refine kInt ‹_› fun t' s' c9 => ?_; (try clear c'); rename Cx _ _ _ => c'; refine rMore (by with_unfolding_all rfl) ?_; refine kInt ‹_› fun t' s' c9 => ?_; (try clear c'); rename Cx _ _ _ => c'; refine rMore (by with_unfolding_all rfl) ?_; refine kInt ‹_› fun t' s' c9 => ?_; (try clear c'); rename Cx _ _ _ => c'; refine spliced_none ?_; refine oNewT ‹_› (by exact Nat.le_of_ble_eq_true rfl) fun b' s' c9 => ?_; (try clear c'); rename Cx _ _ _ => c'; refine nL ‹_› (by kernel_rfl) (mm2 _ _ _ _) (mm0 _ _) ?_)
      refine oItemT4 c' ((mm0 _ _)) hx4 (fun kc t' hkc => ?_)
      (with_reducible refine oAdd ‹_› fun t' s' c9 => ?_; (try clear c'); rename Cx _ _ _ => c')
      obtain ⟨m, hm⟩ : ∃ m : Nat, ((n.natAbs : Nat) : Int) + kc = (m : Nat) := ⟨n.natAbs + kc.toNat, by (first | lia | omega)⟩
      rw [hm]
      refine ⟨⟨ms ++ [m], by rw [List.map_append]; exact iaApp hms (.cons _ _ .nil), by simp [hml]⟩, c'.drop (.cons _ (.cons _ (List.Sublist.refl _)))⟩
    rintro D dv ⟨ms, hms, hml⟩
    refine ⟨_, _, (pv0 _ _), (pt0 _ _), fun s' c' => ?_⟩
    obtain ⟨n0, n1, n2, n3, rfl⟩ : ∃ n0 n1 n2 n3, ms = [n0, n1, n2, n3] := by
      match ms, hml with
      | [a, b, c, d], _ => exact ⟨a, b, c, d, rfl⟩
    obtain ⟨t0, t1, t2, t3, rfl⟩ : ∃ t0 t1 t2 t3, dv = [.int (n0 : Nat) t0, .int (n1 : Nat) t1, .int (n2 : Nat) t2, .int (n3 : Nat) t3] := by
      cases hms with | cons _ t0 h => ?_
      cases h with | cons _ t1 h => ?_
      cases h with | cons _ t2 h => ?_
      cases h with | cons _ t3 h => ?_
      cases h
      exact ⟨t0, t1, t2, t3, rfl⟩
    ((with_reducible refine seqCons fun Q9 hQ9 => ?_); refine wpAny_Assign_Name ?_ (hs := by first | rfl | kernel_rfl); (with_reducible refine wpAny_BinOp ?_; refine evSub ‹_› (AtV.loc (by kernel_rfl) (mm1 _ _ _) (mm0 _ _)) AtI.const fun t' s' c9 => ?_; (try clear c'); rename Cx _ _ _ => c'))
    refine oItemL (c'.lat ((mm0 _ _))) (by decide) (by decide) rfl rfl ?_
    (with_reducible refine kInt ‹_› fun t' s' c9 => ?_; (try clear c'); rename Cx _ _ _ => c')
    refine oModN (n := n0) (m := 2) c' rfl rfl (by decide) (fun t' s' c' => ?_)
    ((with_reducible refine sC ‹_› (by kernel_rfl) (by with_unfolding_all rfl) (mm6 _ _ _ _ _ _ _ _) (pt6 _ _ _ _ _ _ _ _) fun s' c9 => ?_; (try clear c'); rename Cx _ _ _ => c'; refine seqNext ‹_› ?_; refine seqCons fun Q9 hQ9 => ?_); refine wpAny_Assign_Name ?_ (hs := by first | rfl | kernel_rfl); (with_reducible refine wpAny_BinOp ?_; refine wpAny_BinOp ?_; refine evSub ‹_› (AtV.loc (by kernel_rfl) (mm1 _ _ _) (mm0 _ _)) AtI.const fun t' s' c9 => ?_; (try clear c'); rename Cx _ _ _ => c'))
    refine oItemL (c'.lat ((mm0 _ _))) (by decide) (by decide) rfl rfl ?_
    (with_reducible refine kInt ‹_› fun t' s' c9 => ?_; (try clear c'); rename Cx _ _ _ => c')
    refine oDivN (n := n0) (m := 2) c' rfl rfl (by decide) (by decide) (fun t' s' c' => ?_)
    (with_reducible refine kInt ‹_› fun t' s' c9 => ?_; (try clear c'); rename Cx _ _ _ => c')
    refine oModN (n := n0 / 2) (m := 2) c' rfl rfl (by decide) (fun t' s' c' => ?_)
    ((with_reducible refine sC ‹_› (by kernel_rfl) (by with_unfolding_all rfl) (mm5 _ _ _ _ _ _ _) (pt5 _ _ _ _ _ _ _) fun s' c9 => ?_; (try clear c'); rename Cx _ _ _ => c'; refine seqNext ‹_› ?_; refine seqCons fun Q9 hQ9 => ?_); refine wpAny_Assign_Name ?_ (hs := by first | rfl | kernel_rfl); (with_reducible refine IfExp_ ?_; refine evI ‹_› (AtI.add (AtI.val (AtV.cell (by kernel_rfl) (by with_unfolding_all rfl) (mm6 _ _ _ _ _ _ _ _))) (AtI.val (AtV.cell (by kernel_rfl) (by with_unfolding_all rfl) (mm5 _ _ _ _ _ _ _)))) AtI.const (by constructor) (by with_unfolding_all rfl) fun s' c9 => ?_; (try clear c'); rename Cx _ _ _ => c'))
    refine cutIfR (fun v s' => Ex3 fun t th tt => v = .int (innerF n0 : Nat) t ∧ Cx s₀ s' ((D, Rs.lst [.int (n0 : Nat) t0, .int (n1 : Nat) t1, .int (n2 : Nat) t2, .int (n3 : Nat) t3]) :: (L, Rs.ns (("draws", some (.ref D)) :: ("inner", none) :: ("sets", none) :: ("first", none) :: ("second", none) :: lr)) :: (ad.pairs, Rs.cell none) :: (ad.olds, Rs.cell none) :: (ad.signs, Rs.cell none) :: (ad.tail, Rs.cell (some (.int (n0 / 2 % 2 : Nat) tt))) :: (ad.head, Rs.cell (some (.int (n0 % 2 : Nat) th))) :: (ad.script, Rs.cell (some (.ref l))) :: T)) ?_ ?_
    · by_cases hi : n0 % 2 + n0 / 2 % 2 = 2
      · first | refine iteDT (by (first | lia | omega)) ?_ | rw [decide_eq_true (by (first | lia | omega))]
        (with_reducible refine kInt ‹_› fun t' s' c9 => ?_; (try clear c'); rename Cx _ _ _ => c')
        exact ⟨_, _, _, by unfold innerF; rw [if_pos hi]; rfl, c'⟩
      · first | refine iteDF (by (first | lia | omega)) ?_ | rw [decide_eq_false (by (first | lia | omega))]
        (with_reducible refine wpAny_BinOp ?_; refine kInt ‹_› fun t' s' c9 => ?_; (try clear c'); rename Cx _ _ _ => c'; refine wpAny_BinOp ?_; refine wpAny_BinOp ?_; refine evSub ‹_› (AtV.loc (by kernel_rfl) (mm1 _ _ _) (mm0 _ _)) AtI.const fun t' s' c9 => ?_; (try clear c'); rename Cx _ _ _ => c')
        refine oItemL (c'.lat ((mm0 _ _))) (by decide) (by decide) rfl rfl ?_
        (with_reducible refine kInt ‹_› fun t' s' c9 => ?_; (try clear c'); rename Cx _ _ _ => c')
        refine oDivN (n := n0) (m := 4) c' rfl rfl (by decide) (by decide) (fun t' s' c' => ?_)
        (with_reducible refine kInt ‹_› fun t' s' c9 => ?_; (try clear c'); rename Cx _ _ _ => c')
        refine oModN (n := n0 / 4) (m := 2) c' rfl rfl (by decide) (fun t' s' c' => ?_)
        (with_reducible refine oAdd ‹_› fun t' s' c9 => ?_; (try clear c'); rename Cx _ _ _ => c')
        exact ⟨_, _, _, by unfold innerF; rw [if_neg hi]; rfl, c'⟩
    rintro v s' ⟨ti, th, tt, rfl, c'⟩
    ((with_reducible refine sL ‹_› (by kernel_rfl) (mm1 _ _ _) (pv1 _ _ _) (pt1 _ _ _) fun s' c9 => ?_; (try clear c'); rename Cx _ _ _ => c'; refine seqNext ‹_› ?_; refine seqCons fun Q9 hQ9 => ?_); refine wpAny_Assign_Name ?_ (hs := by first | rfl | kernel_rfl); (with_reducible refine Subscript_ ?_; refine Tuple_ ?_; refine rMore (by with_unfolding_all rfl) ?_; refine kStrS q21 ‹_› fun t' s' c9 => ?_; (try clear c'); rename Cx _ _ _ => c'; refine rMore (by with_unfolding_all rfl) ?_; refine kStrS q22 ‹_› fun t' s' c9 => ?_; (try clear c'); rename Cx _ _ _ => c'; refine spliced_none ?_; refine oNewT ‹_› (by exact Nat.le_of_ble_eq_true rfl) fun b' s' c9 => ?_; (try clear c'); rename Cx _ _ _ => c'; refine wpAny_BinOp ?_; refine wpAny_BinOp ?_; refine evSub ‹_› (AtV.loc (by kernel_rfl) (mm2 _ _ _ _) (mm0 _ _)) AtI.const fun t' s' c9 => ?_; (try clear c'); rename Cx _ _ _ => c'))
    refine oItemL (c'.lat ((mm1 _ _ _))) (by decide) (by decide) rfl rfl ?_
    (with_reducible refine kInt ‹_› fun t' s' c9 => ?_; (try clear c'); rename Cx _ _ _ => c')
    refine oDivN (n := n0) (m := 12) c' rfl rfl (by decide) (by decide) (fun t' s' c' => ?_)
    (with_reducible refine kInt ‹_› fun t' s' c9 => ?_; (try clear c'); rename Cx _ _ _ => c')
    refine oModN (n := n0 / 12) (m := 2) c' rfl rfl (by decide) (fun t' s' c' => ?_)
    refine oItemT2S c' ((mm0 _ _)) (by (first | lia | omega)) (fun tsg => ?_)
    change wpAny _ _ (storeName _ _ (.str (S (signsF n0)) tsg)) _ _ _
    obtain ⟨g0, g1, g2, hsg, hsg2⟩ : ∃ g0 g1 g2, signsF n0 = [g0, g1, g2] ∧ ([g0, g1, g2] = [97, 98, 99] ∨ [g0, g1, g2] = [42, 46, 63]) := by
      unfold signsF; split
      · exact ⟨_, _, _, rfl, .inl rfl⟩
      · exact ⟨_, _, _, rfl, .inr rfl⟩
    rw [hsg]
    ((with_reducible refine sC ‹_› (by kernel_rfl) (by with_unfolding_all rfl) (mm5 _ _ _ _ _ _ _) (pt5 _ _ _ _ _ _ _) fun s' c9 => ?_; (try clear c'); rename Cx _ _ _ => c'; refine seqNext ‹_› ?_; refine seqCons fun Q9 hQ9 => ?_); refine wpAny_Assign_Name ?_ (hs := by first | rfl | kernel_rfl); (with_reducible refine List_ ?_; refine rMore (by with_unfolding_all rfl) ?_))
    refine evItem ‹_› (AtV.cell (by kernel_rfl) (by with_unfolding_all rfl) (mm5 _ _ _ _ _ _ _)) AtI.const 0 rfl (ch := g0) rfl (by wtm_at "zz_sz") (fun _ => rfl) (fun _ => rfl) (fun t' s' c' => ?_)
    (with_reducible refine rMore (by with_unfolding_all rfl) ?_)
    refine evItem ‹_› (AtV.cell (by kernel_rfl) (by with_unfolding_all rfl) (mm5 _ _ _ _ _ _ _)) AtI.const 1 rfl (ch := g1) rfl (by wtm_at "zz_sz") (fun _ => rfl) (fun _ => rfl) (fun t' s' c' => ?_)
    (with_reducible refine rMore (by with_unfolding_all rfl) ?_)
    refine evItem ‹_› (AtV.cell (by kernel_rfl) (by with_unfolding_all rfl) (mm5 _ _ _ _ _ _ _)) AtI.const 2 rfl (ch := g2) rfl (by wtm_at "zz_sz") (fun _ => rfl) (fun _ => rfl) (fun t' s' c' => ?_)
    (with_reducible refine rMore (by with_unfolding_all rfl) ?_; refine evNS ‹_› (AtS.val (AtV.cell (by kernel_rfl) (by with_unfolding_all rfl) (mm5 _ _ _ _ _ _ _))) AtI.const (by first | assumption | wtm_at "zz_sz") (by intro _ _; with_unfolding_all rfl) (by intro _ _; with_unfolding_all rfl) fun t' s' c9 => ?_; (try clear c'); rename Cx _ _ _ => c'; refine rMore (by with_unfolding_all rfl) ?_; refine evSN ‹_› (AtS.val (AtV.cell (by kernel_rfl) (by with_unfolding_all rfl) (mm5 _ _ _ _ _ _ _))) AtI.const (by first | assumption | wtm_at "zz_sz") (by intro _ _; with_unfolding_all rfl) (by intro _ _; with_unfolding_all rfl) fun t' s' c9 => ?_; (try clear c'); rename Cx _ _ _ => c'; refine rMore (by with_unfolding_all rfl) ?_; refine wpAny_BinOp ?_)
    refine evItem ‹_› (AtV.cell (by kernel_rfl) (by with_unfolding_all rfl) (mm5 _ _ _ _ _ _ _)) AtI.const 0 rfl (ch := g0) rfl (by wtm_at "zz_sz") (fun _ => rfl) (fun _ => rfl) (fun t' s' c' => ?_)
    refine evItem ‹_› (AtV.cell (by kernel_rfl) (by with_unfolding_all rfl) (mm5 _ _ _ _ _ _ _)) AtI.const 2 rfl (ch := g2) rfl (by wtm_at "zz_sz") (fun _ => rfl) (fun _ => rfl) (fun t' s' c' => ?_)
    ((with_reducible refine oCatS ‹_› (by first | assumption | wtm_at "zz_sz") fun t' s' c9 => ?_; (try clear c'); rename Cx _ _ _ => c'; refine rMore (by with_unfolding_all rfl) ?_; refine nC ‹_› (by kernel_rfl) (by with_unfolding_all rfl) (mm5 _ _ _ _ _ _ _) ?_; refine spliced_none ?_; refine oNewL ‹_› (by exact Nat.le_of_ble_eq_true rfl) fun b' s' c9 => ?_; (try clear c'); rename Cx _ _ _ => c'; refine sL ‹_› (by kernel_rfl) (mm3 _ _ _ _ _) (pv2 _ _ _ _) (pt3 _ _ _ _ _) fun s' c9 => ?_; (try clear c'); rename Cx _ _ _ => c'; refine seqNext ‹_› ?_; refine seqCons fun Q9 hQ9 => ?_); refine wpAny_Assign_Name ?_ (hs := by first | rfl | kernel_rfl); (with_reducible refine List_ ?_; refine spliced_none ?_; refine oNewL ‹_› (by exact Nat.le_of_ble_eq_true rfl) fun b' s' c9 => ?_; (try clear c'); rename Cx _ _ _ => c'; refine sC ‹_› (by kernel_rfl) (by with_unfolding_all rfl) (mm6 _ _ _ _ _ _ _ _) (pt6 _ _ _ _ _ _ _ _) fun s' c9 => ?_; (try clear c'); rename Cx _ _ _ => c'; refine seqNext ‹_› ?_; refine seqCons fun Q9 hQ9 => ?_); refine wpAny_Assign_Name ?_ (hs := by first | rfl | kernel_rfl); (with_reducible refine List_ ?_; refine spliced_none ?_; refine oNewL ‹_› (by exact Nat.le_of_ble_eq_true rfl) fun b' s' c9 => ?_; (try clear c'); rename Cx _ _ _ => c'; refine sC ‹_› (by kernel_rfl) (by with_unfolding_all rfl) (mm6 _ _ _ _ _ _ _ _) (pt6 _ _ _ _ _ _ _ _) fun s' c9 => ?_; (try clear c'); rename Cx _ _ _ => c'; refine seqNext ‹_› ?_; refine seqCons fun Q9 hQ9 => ?_); refine wpAny_Assign_Name ?_ (hs := by first | rfl | kernel_rfl); (with_reducible refine List_ ?_; refine spliced_none ?_; refine oNewL ‹_› (by exact Nat.le_of_ble_eq_true rfl) fun b' s' c9 => ?_; (try clear c'); rename Cx _ _ _ => c'; refine sL ‹_› (by kernel_rfl) (mm6 _ _ _ _ _ _ _ _) (pv3 _ _ _ _ _) (pt6 _ _ _ _ _ _ _ _) fun s' c9 => ?_; (try clear c'); rename Cx _ _ _ => c'; refine seqNext ‹_› ?_; refine seqCons fun Q9 hQ9 => ?_); refine wpAny_Assign_Name ?_ (hs := by first | rfl | kernel_rfl); (with_reducible refine List_ ?_; refine spliced_none ?_; refine oNewL ‹_› (by exact Nat.le_of_ble_eq_true rfl) fun b' s' c9 => ?_; (try clear c'); rename Cx _ _ _ => c'; refine sL ‹_› (by kernel_rfl) (mm7 _ _ _ _ _ _ _ _ _) (pv4 _ _ _ _ _ _) (pt7 _ _ _ _ _ _ _ _ _) fun s' c9 => ?_; (try clear c'); rename Cx _ _ _ => c'))
    (with_reducible refine seqNext ‹_› ?_)
    have e1 : cutL [g0, g1, g2] none (some 2) = [g0, g1] := rfl
    have e2 : cutL [g0, g1, g2] (some 1) none = [g1, g2] := rfl
    rw [e1, e2] at c'
    have hgood : goodSg [g0, g1, g2] := hsg2
    have hin : 1 ≤ innerF n0 ∧ n0 % 2 + innerF n0 + n0 / 2 % 2 ≤ 3 := by unfold innerF; split <;> (first | lia | omega)
    refine next _ D _ _ _ _ _ th tt ti tsg [g0, g1, g2] (n0 % 2) (n0 / 2 % 2) (innerF n0) _ _ [n0, n1, n2, n3] hgood (by (first | lia | omega)) (by (first | lia | omega)) hin.1 hin.2 ?_ hms rfl (c'.drop ((List.Sublist.cons_cons _ (List.Sublist.cons_cons _ (List.Sublist.cons_cons _ (List.Sublist.cons_cons _ (List.Sublist.cons_cons _ (List.Sublist.cons _ (List.Sublist.refl _)))))))))
    exact .cons _ _ (.cons _ _ (.cons _ _ (.cons _ _ (.cons _ _ (.cons _ _ (.cons _ _ .nil))))))
end
section
set_option maxRecDepth 100000
set_option maxHeartbeats 4000000
open PySem PySem.W PyProof.Rows PySem.Calls
/-- the pairs' tuples stand in a table -/
noncomputable def PairsIn (pv : List Value) (ps : List (List Nat × List Nat × Nat)) (pt : Tab) : Prop :=
  pv.length = ps.length ∧ ∀ (i : Nat) (p : List Nat × List Nat × Nat), ps[i]? = some p → ∃ (a : Addr) (t u k : Tok), pv[i]? = some (.ref a) ∧ (a, Rs.tup [.str (S p.1) t, .str (S p.2.1) u, .int p.2.2 k]) ∈ pt
theorem PairsIn.sub {pv : List Value} {ps : List (List Nat × List Nat × Nat)} {pt pt' : Tab} (h : PairsIn pv ps pt) (hs : ∀ p ∈ pt, p ∈ pt') : PairsIn pv ps pt' :=
  ⟨h.1, fun i p e => let ⟨a, t, u, k, e1, e2⟩ := h.2 i p e; ⟨a, t, u, k, e1, hs _ e2⟩⟩
theorem PairsIn.at {pv : List Value} {ps : List (List Nat × List Nat × Nat)} {T : Tab} {s₀ s : Shared} (h : PairsIn pv ps T) (c : Cx s₀ s T) : PairsAt s.heap pv ps :=
  ⟨h.1, fun i p e => let ⟨a, t, u, k, e1, e2⟩ := h.2 i p e; ⟨a, t, u, k, e1, c.tup e2⟩⟩
theorem PairsIn.more {pv : List Value} {ps : List (List Nat × List Nat × Nat)} {pt : Tab} {a : Addr} {p : List Nat × List Nat × Nat} {t u k : Tok} (h : PairsIn pv ps pt) : PairsIn (pv ++ [.ref a]) (ps ++ [p]) ((a, Rs.tup [.str (S p.1) t, .str (S p.2.1) u, .int p.2.2 k]) :: pt) := by
  refine ⟨by simp [h.1], fun i q e => ?_⟩
  by_cases hi : i < ps.length
  · rw [List.getElem?_append_left hi] at e
    obtain ⟨b, t, u, k, e1, e2⟩ := h.2 i q e
    exact ⟨b, t, u, k, by rw [List.getElem?_append_left (by rw [h.1]; exact hi)]; exact e1, .tail _ e2⟩
  · have hi2 : i = ps.length := by
      have := (List.getElem?_eq_some_iff.mp e).1
      simp at this; (first | lia | omega)
    subst hi2
    rw [List.getElem?_concat_length] at e
    cases e
    exact ⟨a, t, u, k, by rw [← h.1, List.getElem?_concat_length], .head _⟩
theorem law_s2 {mg mb : Str → Option Value} {w : World} {cd P f : Addr} {A : Around} {QQ : Flow → Shared → Prop} {EE : Value → Shared → Prop} {s₀ s : Shared} {T : Tab} {fr : List Env} {lr : List (Str × Option Value)} {L : Addr} {ad : LC} {code : Value}
    (hR : Room A 19) (X : Top1 w mg mb s₀.heap cd P) (hP : (P, tabR) ∈ T) (hfr' : A.frames = some ((envC dLaw L f code (cellsOf ad)) :: fr)) (hF : FrOk T fr) (hQ : ∀ s', Cx s₀ s' T → QQ (.ret (.bool true)) s') {D SE O PA FI SD : Addr} {th tt ti tsg : Tok} {sg : List Nat} {hd tl inn : Nat} {sv dv : List Value} {ns : List Nat}
    (hsg : goodSg sg) (hh1 : hd ≤ 1) (ht1 : tl ≤ 1) (hi1 : 1 ≤ inn) (hi3 : hd + inn + tl ≤ 3) (hsv : StrsAre sv ((setsF sg).map S)) (hdv : IntsAre dv (ns.map fun k : Nat => (k : Int))) (hnl : ns.length = 4)
    (next : ∀ (s : Shared) (pt : Tab) (xs : List Nat) (s2 fv pv ov : List Value) (o_d o_t o_x o_s o_o o_n : Option Value), xs.length = hd + inn + tl → PairsIn pv (xs.map (pairF sg)) pt →
      StrsAre ov ((xs.map (oldF sg)).map S) → StrsAre fv ((xs.map fun x => spellF (oldF sg x) sg (x / 21 % 3)).map S) → StrsAre s2 ((xs.map fun x => spellF (newF sg x) sg (x / 63 % 3)).map S) → Cx s₀ s ((SD, Rs.lst s2) :: (FI, Rs.lst fv) :: (PA, Rs.lst pv) :: (O, Rs.lst ov) :: (L, Rs.ns (("draws", o_d) :: ("inner", some (.int (inn : Nat) ti)) :: ("sets", o_t) :: ("first", some (.ref FI)) :: ("second", some (.ref SD)) :: ("x", o_x) :: ("spot", o_s) :: lr)) :: (ad.new, Rs.cell (o_n)) :: (ad.old, Rs.cell (o_o)) :: (ad.pairs, Rs.cell (some (.ref PA))) :: (ad.olds, Rs.cell (some (.ref O))) :: (ad.signs, Rs.cell (some (.str (S sg) tsg))) :: (ad.tail, Rs.cell (some (.int (tl : Nat) tt))) :: (ad.head, Rs.cell (some (.int (hd : Nat) th))) :: (T ++ pt)) → wpAny (model PW w) A (execs (dLaw.body.drop 11) (envC dLaw L f code (cellsOf ad))) QQ EE s)
    (c' : Cx s₀ s ((SD, Rs.lst []) :: (FI, Rs.lst []) :: (PA, Rs.lst []) :: (O, Rs.lst []) :: (SE, Rs.lst sv) :: (D, Rs.lst dv) :: (L, Rs.ns (("draws", some (.ref D)) :: ("inner", some (.int (inn : Nat) ti)) :: ("sets", some (.ref SE)) :: ("first", some (.ref FI)) :: ("second", some (.ref SD)) :: ("x", none) :: ("spot", none) :: lr)) :: (ad.new, Rs.cell none) :: (ad.old, Rs.cell none) :: (ad.pairs, Rs.cell (some (.ref PA))) :: (ad.olds, Rs.cell (some (.ref O))) :: (ad.signs, Rs.cell (some (.str (S sg) tsg))) :: (ad.tail, Rs.cell (some (.int (tl : Nat) tt))) :: (ad.head, Rs.cell (some (.int (hd : Nat) th))) :: T)) : wpAny (model PW w) A (execs (dLaw.body.drop 10) (envC dLaw L f code (cellsOf ad))) QQ EE s := by
    have G := X.g
    obtain ⟨fsp, hfsp, Fsp⟩ := G.fn dSpell (by simp [dAll])
    have hfsp' : mg "_law_spell" = some (.ref fsp) := hfsp
    have hsv7 : (setsF sg).length = 7 := rfl
    have hsvl : sv.length = 7 := by have := saLen hsv; simpa [hsv7] using this
    have hdvl : dv.length = 4 := by have := iaLen hdv; simpa [hnl] using this
    obtain ⟨hasc, hsg3⟩ := good_asc hsg
    refine seqCons ?_
    intro Q7 hQ7
    (refine wpAny_For ?_ (hs := by intro _; rfl); (with_reducible refine evCL ‹_› (AtV.loc (by kernel_rfl) (mm6 _ _ _ _ _ _ _ _) (mm0 _ _)) (AtP.some AtI.const) (AtP.some (AtI.add (AtI.add (AtI.add AtI.const (AtI.val (AtV.cell (by kernel_rfl) (by with_unfolding_all rfl) (mm13 _ _ _ _ _ _ _ _ _ _ _ _ _ _ _)))) (AtI.val (AtV.loc (by kernel_rfl) (mm6 _ _ _ _ _ _ _ _) (mm1 _ _ _)))) (AtI.val (AtV.cell (by kernel_rfl) (by with_unfolding_all rfl) (mm12 _ _ _ _ _ _ _ _ _ _ _ _ _ _))))) (fun s' c9 => (Cx.lat ‹_› (mm5 _ _ _ _ _ _ _))) (by first | assumption | wtm_at "zz_sz") (by intro _; with_unfolding_all rfl) (by intro _ _; with_unfolding_all rfl) fun b' s' c9 => ?_; (try clear c'); rename Cx _ _ _ => c'))
    have hcutI : (1 : Int) + (hd : Nat) + (inn : Nat) + (tl : Nat) = ((1 + (hd + inn + tl) : Nat) : Int) := by (first | lia | omega)
    rw [hcutI] at c'
    obtain ⟨xs, hxs⟩ : ∃ xs : List Nat, (ns.drop 1).take (hd + inn + tl) = xs := ⟨_, rfl⟩
    have hxl : xs.length = hd + inn + tl := by rw [← hxs, List.length_take, List.length_drop]; (first | lia | omega)
    have hxv : IntsAre (cutL dv (some 1) (some ((1 + (hd + inn + tl) : Nat) : Int))) (xs.map fun k : Nat => (k : Int)) := by
      have h := iaCut hdv (some 1) (some ((1 + (hd + inn + tl) : Nat) : Int))
      rw [cut_map] at h
      have h2 := cut_range ns 1 (1 + (hd + inn + tl))
      rw [Nat.add_sub_cancel_left, hxs] at h2
      rw [show (1 : Int) = ((1 : Nat) : Int) from rfl, h2] at h
      exact h
    generalize cutL dv (some 1) (some ((1 + (hd + inn + tl) : Nat) : Int)) = xv at *
    have hxvl : xv.length = xs.length := by simpa using iaLen hxv
    generalize b' = XL at *
    refine iterL c' (c'.lat ((mm0 _ _))) (fun it s' c' => ?_)
    refine forW (walkL (vs := xv) hR.handled) (fun k T' => Ex9 fun (s2 fv pv ov : List Value) (pt : Tab) (o_x o_s o_o o_n : Option Value) => An5 (StrsAre ov (((xs.take k).map (oldF sg)).map S)) (StrsAre fv (((xs.take k).map fun x => spellF (oldF sg x) sg (x / 21 % 3)).map S)) (StrsAre s2 (((xs.take k).map fun x => spellF (newF sg x) sg (x / 63 % 3)).map S)) (PairsIn pv ((xs.take k).map (pairF sg)) pt) (T' = (XL, Rs.lst xv) :: (SD, Rs.lst s2) :: (FI, Rs.lst fv) :: (PA, Rs.lst pv) :: (O, Rs.lst ov) :: (SE, Rs.lst sv) :: (D, Rs.lst dv) :: (L, Rs.ns (("draws", some (.ref D)) :: ("inner", some (.int (inn : Nat) ti)) :: ("sets", some (.ref SE)) :: ("first", some (.ref FI)) :: ("second", some (.ref SD)) :: ("x", o_x) :: ("spot", o_s) :: lr)) :: (ad.new, Rs.cell (o_n)) :: (ad.old, Rs.cell (o_o)) :: (ad.pairs, Rs.cell (some (.ref PA))) :: (ad.olds, Rs.cell (some (.ref O))) :: (ad.signs, Rs.cell (some (.str (S sg) tsg))) :: (ad.tail, Rs.cell (some (.int (tl : Nat) tt))) :: (ad.head, Rs.cell (some (.int (hd : Nat) th))) :: (pt ++ T)))
      (fun k T' s hI c => ?_) ?_ ?_ ⟨[], [], [], [], [], none, none, none, none, .nil, .nil, .nil, ⟨rfl, by simp⟩, rfl⟩ c' (fun _ => rfl)
    · obtain ⟨s2, fv, pv, ov, pt, o_x, o_s, o_o, o_n, _, _, _, _, rfl⟩ := hI
      exact c.lat ((mm1 _ _ _))
    · intro k v T' s hk hv h70 c' Q8 E8 hQ8 hE8
      obtain ⟨s2, fv, pv, ov, pt, o_x, o_s, o_o, o_n, hov, hfv, hs2, hpv, rfl⟩ := h70
      obtain ⟨x, hx⟩ : ∃ x, xs[k]? = some x := ⟨_, List.getElem?_eq_getElem (by (first | lia | omega))⟩
      obtain ⟨tx, hv'⟩ := iaGet hxv (i := k) (n := (x : Int)) (by simp [hx])
      rw [hv] at hv'; cases hv'
      have hov1 : ov.length ≤ 3 := by have := saLen hov; rw [List.length_map, List.length_map, List.length_take] at this; (first | lia | omega)
      have hfv1 : fv.length ≤ 3 := by have := saLen hfv; rw [List.length_map, List.length_map, List.length_take] at this; (first | lia | omega)
      have hs21 : s2.length ≤ 3 := by have := saLen hs2; rw [List.length_map, List.length_map, List.length_take] at this; (first | lia | omega)
      have hpv1 : pv.length ≤ 3 := by have := hpv.1; rw [List.length_map, List.length_take] at this; (first | lia | omega)
      obtain ⟨to, hto⟩ := saGet hsv (i := x % 7) (y := S (oldF sg x)) (by
        have h : x % 7 < (setsF sg).length := by rw [hsv7]; (first | lia | omega)
        unfold oldF
        rw [List.getElem?_map, List.getElem?_eq_getElem h]; rfl)
      obtain ⟨ho1, ho3, _, _, hosp⟩ := sets_facts hsg _ (old_mem sg x)
      obtain ⟨hn1, hn3, _, _, hnsp⟩ := sets_facts hsg _ (new_mem sg x)
      have hoc : (complF sg (oldF sg x)).length ≤ 3 := by have := List.length_filter_le (fun c => !(oldF sg x).contains c) sg; unfold complF; (first | lia | omega)
      have hnc : (complF sg (newF sg x)).length ≤ 3 := by have := List.length_filter_le (fun c => !(newF sg x).contains c) sg; unfold complF; (first | lia | omega)
      refine wpAny_assign_Name ?_
      ((with_reducible refine sL ‹_› (by kernel_rfl) (mm8 _ _ _ _ _ _ _ _ _ _) (pv5 _ _ _ _ _ _ _) (pt8 _ _ _ _ _ _ _ _ _ _) fun s' c9 => ?_; (try clear c'); rename Cx _ _ _ => c'; refine seqCons fun Q9 hQ9 => ?_); refine wpAny_Assign_Name ?_ (hs := by first | rfl | kernel_rfl); (with_reducible refine wpAny_BinOp ?_; refine nL ‹_› (by kernel_rfl) (mm8 _ _ _ _ _ _ _ _ _ _) (mm5 _ _ _ _ _ _ _) ?_; refine kInt ‹_› fun t' s' c9 => ?_; (try clear c'); rename Cx _ _ _ => c'))
      refine oModN (n := x) (m := 7) c' rfl rfl (by decide) (fun t' s' c' => ?_)
      ((with_reducible refine sL ‹_› (by kernel_rfl) (mm8 _ _ _ _ _ _ _ _ _ _) (pv6 _ _ _ _ _ _ _ _) (pt8 _ _ _ _ _ _ _ _ _ _) fun s' c9 => ?_; (try clear c'); rename Cx _ _ _ => c'; refine seqNext ‹_› ?_; refine seqCons fun Q9 hQ9 => ?_); refine wpAny_Assign_Name ?_ (hs := by first | rfl | kernel_rfl); (with_reducible refine evSub ‹_› (AtV.loc (by kernel_rfl) (mm8 _ _ _ _ _ _ _ _ _ _) (mm2 _ _ _ _)) (AtI.val (AtV.loc (by kernel_rfl) (mm8 _ _ _ _ _ _ _ _ _ _) (mm6 _ _ _ _ _ _ _ _))) fun t' s' c9 => ?_; (try clear c'); rename Cx _ _ _ => c'))
      refine oItemL (v := .str (S (oldF sg x)) to) (c'.lat ((mm6 _ _ _ _ _ _ _ _))) (by (first | lia | omega)) (by (first | lia | omega)) (by rw [Int.toNat_natCast]; exact hto) rfl ?_
      ((with_reducible refine sC ‹_› (by kernel_rfl) (by with_unfolding_all rfl) (mm10 _ _ _ _ _ _ _ _ _ _ _ _) (pt10 _ _ _ _ _ _ _ _ _ _ _ _) fun s' c9 => ?_; (try clear c'); rename Cx _ _ _ => c'; refine seqNext ‹_› ?_; refine seqCons fun Q9 hQ9 => ?_); refine wpAny_Assign_Name ?_ (hs := by first | rfl | kernel_rfl); (with_reducible refine IfExp_ ?_; refine evI ‹_› (AtI.val (AtV.loc (by kernel_rfl) (mm8 _ _ _ _ _ _ _ _ _ _) (mm6 _ _ _ _ _ _ _ _))) AtI.const (by constructor) (by with_unfolding_all rfl) fun s' c9 => ?_; (try clear c'); rename Cx _ _ _ => c'))
      refine cutIfR (fun v s' => Ex2 fun ts tn => v = .str (S (newF sg x)) tn ∧ Cx s₀ s' ((it, Rs.iter XL (k + 1)) :: (XL, Rs.lst xv) :: (SD, Rs.lst s2) :: (FI, Rs.lst fv) :: (PA, Rs.lst pv) :: (O, Rs.lst ov) :: (SE, Rs.lst sv) :: (D, Rs.lst dv) :: (L, Rs.ns (("draws", some (.ref D)) :: ("inner", some (.int (inn : Nat) ti)) :: ("sets", some (.ref SE)) :: ("first", some (.ref FI)) :: ("second", some (.ref SD)) :: ("x", some (.int (x : Nat) tx)) :: ("spot", some (.int (x % 7 : Nat) ts)) :: lr)) :: (ad.new, Rs.cell (o_n)) :: (ad.old, Rs.cell (some (.str (S (oldF sg x)) to))) :: (ad.pairs, Rs.cell (some (.ref PA))) :: (ad.olds, Rs.cell (some (.ref O))) :: (ad.signs, Rs.cell (some (.str (S sg) tsg))) :: (ad.tail, Rs.cell (some (.int (tl : Nat) tt))) :: (ad.head, Rs.cell (some (.int (hd : Nat) th))) :: (pt ++ T))) ?_ ?_
      · by_cases h6 : x % 7 < 6
        · first | refine iteDT (by (first | lia | omega)) ?_ | rw [decide_eq_true (by (first | lia | omega))]
          obtain ⟨tn, htn⟩ := saGet hsv (i := x % 7 - x % 7 % 3 + x / 7 % 3) (y := S (newF sg x)) (by
            have h : x % 7 - x % 7 % 3 + x / 7 % 3 < (setsF sg).length := by rw [hsv7]; (first | lia | omega)
            unfold newF
            rw [if_pos h6, List.getElem?_map, List.getElem?_eq_getElem h]; rfl)
          (with_reducible refine Subscript_ ?_; refine nL ‹_› (by kernel_rfl) (mm8 _ _ _ _ _ _ _ _ _ _) (mm2 _ _ _ _) ?_; refine wpAny_BinOp ?_; refine wpAny_BinOp ?_; refine nL ‹_› (by kernel_rfl) (mm8 _ _ _ _ _ _ _ _ _ _) (mm6 _ _ _ _ _ _ _ _) ?_; refine wpAny_BinOp ?_; refine nL ‹_› (by kernel_rfl) (mm8 _ _ _ _ _ _ _ _ _ _) (mm6 _ _ _ _ _ _ _ _) ?_; refine kInt ‹_› fun t' s' c9 => ?_; (try clear c'); rename Cx _ _ _ => c')
          refine oModN (n := x % 7) (m := 3) c' rfl rfl (by decide) (fun t' s' c' => ?_)
          (with_reducible refine oSub ‹_› fun t' s' c9 => ?_; (try clear c'); rename Cx _ _ _ => c'; refine wpAny_BinOp ?_; refine wpAny_BinOp ?_; refine nL ‹_› (by kernel_rfl) (mm8 _ _ _ _ _ _ _ _ _ _) (mm5 _ _ _ _ _ _ _) ?_; refine kInt ‹_› fun t' s' c9 => ?_; (try clear c'); rename Cx _ _ _ => c')
          refine oDivN (n := x) (m := 7) c' rfl rfl (by decide) (by decide) (fun t' s' c' => ?_)
          (with_reducible refine kInt ‹_› fun t' s' c9 => ?_; (try clear c'); rename Cx _ _ _ => c')
          refine oModN (n := x / 7) (m := 3) c' rfl rfl (by decide) (fun t' s' c' => ?_)
          (with_reducible refine oAdd ‹_› fun t' s' c9 => ?_; (try clear c'); rename Cx _ _ _ => c')
          refine oItemL (v := .str (S (newF sg x)) tn) (c'.lat ((mm6 _ _ _ _ _ _ _ _))) (by (first | lia | omega)) (by (first | lia | omega)) (by rw [show (((x % 7 : Nat) : Int) - ((x % 7 % 3 : Nat) : Int) + ((x / 7 % 3 : Nat) : Int)).toNat = x % 7 - x % 7 % 3 + x / 7 % 3 by (first | lia | omega)]; exact htn) rfl ?_
          exact ⟨_, _, rfl, c'⟩
        · first | refine iteDF (by (first | lia | omega)) ?_ | rw [decide_eq_false (by (first | lia | omega))]
          (with_reducible refine nC ‹_› (by kernel_rfl) (by with_unfolding_all rfl) (mm13 _ _ _ _ _ _ _ _ _ _ _ _ _ _ _) ?_)
          exact ⟨_, _, by unfold newF; rw [if_neg h6], c'⟩
      rintro v s' ⟨ts, tn, rfl, c'⟩
      ((with_reducible refine sC ‹_› (by kernel_rfl) (by with_unfolding_all rfl) (mm9 _ _ _ _ _ _ _ _ _ _ _) (pt9 _ _ _ _ _ _ _ _ _ _ _) fun s' c9 => ?_; (try clear c'); rename Cx _ _ _ => c'; refine seqNext ‹_› ?_; refine seqCons fun Q9 hQ9 => ?_); refine wpAny_Expr_any ?_ (hi := by first | rfl | kernel_rfl) (hs := by first | rfl | kernel_rfl); (with_reducible refine rMeth (by with_unfolding_all rfl) ?_; refine nC ‹_› (by kernel_rfl) (by with_unfolding_all rfl) (mm12 _ _ _ _ _ _ _ _ _ _ _ _ _ _) ?_; refine gmApp (Cx.lat c' (mm5 _ _ _ _ _ _ _)) ?_; refine rM1s (by with_unfolding_all rfl) ?_; refine rMore (by with_unfolding_all rfl) ?_; refine nC ‹_› (by kernel_rfl) (by with_unfolding_all rfl) (mm10 _ _ _ _ _ _ _ _ _ _ _ _) ?_; refine spliced_none ?_; refine oApp ‹_› (mm5 _ _ _ _ _ _ _) (pt5 _ _ _ _ _ _ _) (by first | assumption | wtm_at "zz_sz") fun s' c9 => ?_; (try clear c'); rename Cx _ _ _ => c'; refine seqNext ‹_› ?_; refine seqCons fun Q9 hQ9 => ?_); refine wpAny_Expr_any ?_ (hi := by first | rfl | kernel_rfl) (hs := by first | rfl | kernel_rfl); (with_reducible refine rMeth (by with_unfolding_all rfl) ?_; refine nC ‹_› (by kernel_rfl) (by with_unfolding_all rfl) (mm11 _ _ _ _ _ _ _ _ _ _ _ _ _) ?_; refine gmApp (Cx.lat c' (mm4 _ _ _ _ _ _)) ?_; refine rM1s (by with_unfolding_all rfl) ?_; refine rMore (by with_unfolding_all rfl) ?_; refine Tuple_ ?_; refine rMore (by with_unfolding_all rfl) ?_; refine wpAny_BinOp ?_; refine nC ‹_› (by kernel_rfl) (by with_unfolding_all rfl) (mm10 _ _ _ _ _ _ _ _ _ _ _ _) ?_; refine rMeth (by with_unfolding_all rfl) ?_; refine kStrS q0 ‹_› fun t' s' c9 => ?_; (try clear c'); rename Cx _ _ _ => c'; refine gmJoin ?_; refine rM1s (by with_unfolding_all rfl) ?_; refine rMore (by with_unfolding_all rfl) ?_))
      refine compW (s₀ := s₀) (cl := [("old", ad.old)]) (by with_unfolding_all rfl) (by decide +kernel) rfl (by decide +kernel) (by decide +kernel) ?_
      (with_reducible refine nC ‹_› (by kernel_rfl) (by with_unfolding_all rfl) (mm13 _ _ _ _ _ _ _ _ _ _ _ _ _ _ _) ?_)
      refine readyStr (p := onSign fun ch => !(oldF sg x).contains ch) (f := id) c' hR.handled hasc (by unfold sizeLine; (first | lia | omega)) ?_ ?_
      · intro C D' it' r' acc xi t s E hx c'
        obtain ⟨ch, hch, rfl⟩ := List.mem_map.mp hx
        (with_reducible refine tests1 ?_; refine evS ‹_› (AtS.val (AtV.loc (by kernel_rfl) (mm0 _ _) (mm0 _ _))) (AtS.val (AtV.cell (by kernel_rfl) (by with_unfolding_all rfl) (mm13 _ _ _ _ _ _ _ _ _ _ _ _ _ _ _))) (by constructor) (by with_unfolding_all rfl) fun s' c9 => ?_; (try clear c'); rename Cx _ _ _ => c')
        refine ⟨rfl, ?_⟩
        cases hmc : (oldF sg x).contains ch with
        | true => (with_reducible refine iteNF ?_); exact c'
        | false => (with_reducible refine iteNT ?_; refine nL ‹_› (by kernel_rfl) (mm0 _ _) (mm0 _ _) ?_); exact ⟨_, rfl, c'⟩
      intro D1 vs1 s' hvs1 c'
      (with_reducible refine spliced_none ?_)
      rw [signs_filter] at hvs1
      refine oJoin c' (c'.lat ((mm0 _ _))) hvs1 3 1 (by rw [List.length_map]; have := List.length_filter_le (fun ch => !(oldF sg x).contains ch) sg; (first | lia | omega)) (fun x hx => signs_weight hx) (by decide) (by decide) (fun t s' c' => ?_)
      rw [joinL_nil, flat1, show sg.filter (fun ch => !(oldF sg x).contains ch) = complF sg (oldF sg x) from rfl]
      (with_reducible refine oCatS ‹_› (by first | assumption | wtm_at "zz_sz") fun t' s' c9 => ?_; (try clear c'); rename Cx _ _ _ => c'; refine rMore (by with_unfolding_all rfl) ?_; refine wpAny_BinOp ?_; refine nC ‹_› (by kernel_rfl) (by with_unfolding_all rfl) (mm10 _ _ _ _ _ _ _ _ _ _ _ _) ?_; refine rMeth (by with_unfolding_all rfl) ?_; refine kStrS q0 ‹_› fun t' s' c9 => ?_; (try clear c'); rename Cx _ _ _ => c'; refine gmJoin ?_; refine rM1s (by with_unfolding_all rfl) ?_; refine rMore (by with_unfolding_all rfl) ?_)
      refine compW (s₀ := s₀) (cl := [("new", ad.new)]) (by with_unfolding_all rfl) (by decide +kernel) rfl (by decide +kernel) (by decide +kernel) ?_
      (with_reducible refine nC ‹_› (by kernel_rfl) (by with_unfolding_all rfl) (mm14 _ _ _ _ _ _ _ _ _ _ _ _ _ _ _ _) ?_)
      refine readyStr (p := onSign fun ch => !(newF sg x).contains ch) (f := id) c' hR.handled hasc (by unfold sizeLine; (first | lia | omega)) ?_ ?_
      · intro C D' it' r' acc xi t s E hx c'
        obtain ⟨ch, hch, rfl⟩ := List.mem_map.mp hx
        (with_reducible refine tests1 ?_; refine evS ‹_› (AtS.val (AtV.loc (by kernel_rfl) (mm0 _ _) (mm0 _ _))) (AtS.val (AtV.cell (by kernel_rfl) (by with_unfolding_all rfl) (mm13 _ _ _ _ _ _ _ _ _ _ _ _ _ _ _))) (by constructor) (by with_unfolding_all rfl) fun s' c9 => ?_; (try clear c'); rename Cx _ _ _ => c')
        refine ⟨rfl, ?_⟩
        cases hmc : (newF sg x).contains ch with
        | true => (with_reducible refine iteNF ?_); exact c'
        | false => (with_reducible refine iteNT ?_; refine nL ‹_› (by kernel_rfl) (mm0 _ _) (mm0 _ _) ?_); exact ⟨_, rfl, c'⟩
      intro D2 vs2 s' hvs2 c'
      (with_reducible refine spliced_none ?_)
      rw [signs_filter] at hvs2
      refine oJoin c' (c'.lat ((mm0 _ _))) hvs2 3 1 (by rw [List.length_map]; have := List.length_filter_le (fun ch => !(newF sg x).contains ch) sg; (first | lia | omega)) (fun x hx => signs_weight hx) (by decide) (by decide) (fun t s' c' => ?_)
      rw [joinL_nil, flat1, show sg.filter (fun ch => !(newF sg x).contains ch) = complF sg (newF sg x) from rfl]
      ((with_reducible refine oCatS ‹_› (by first | assumption | wtm_at "zz_sz") fun t' s' c9 => ?_; (try clear c'); rename Cx _ _ _ => c'; refine rMore (by with_unfolding_all rfl) ?_; refine rCallN ?_; refine nB ‹_› ‹_› (by kernel_rfl) (by rfl) (by rfl) (mm0 _ _) ?_; refine blV ‹_› (Ats.cons (AtV.cell (by kernel_rfl) (by with_unfolding_all rfl) (mm12 _ _ _ _ _ _ _ _ _ _ _ _ _ _)) Ats.nil) ?_; refine oLenSS ‹_› (by first | assumption | wtm_at "zz_sz") fun t' s' c9 => ?_; (try clear c'); rename Cx _ _ _ => c'; refine spliced_none ?_; refine oNewT ‹_› (by exact Nat.le_of_ble_eq_true rfl) fun b' s' c9 => ?_; (try clear c'); rename Cx _ _ _ => c'; refine spliced_none ?_; refine oApp ‹_› (mm7 _ _ _ _ _ _ _ _ _) (pt7 _ _ _ _ _ _ _ _ _) (by first | assumption | wtm_at "zz_sz") fun s' c9 => ?_; (try clear c'); rename Cx _ _ _ => c'; refine seqNext ‹_› ?_; refine seqCons fun Q9 hQ9 => ?_); refine wpAny_Expr_any ?_ (hi := by first | rfl | kernel_rfl) (hs := by first | rfl | kernel_rfl); (with_reducible refine rMeth (by with_unfolding_all rfl) ?_; refine nL ‹_› (by kernel_rfl) (mm11 _ _ _ _ _ _ _ _ _ _ _ _ _) (mm3 _ _ _ _ _) ?_; refine gmApp (Cx.lat c' (mm6 _ _ _ _ _ _ _ _)) ?_; refine rM1s (by with_unfolding_all rfl) ?_; refine rMore (by with_unfolding_all rfl) ?_; refine rCallN ?_; refine nG ‹_› ‹_› (by kernel_rfl) (by rfl) ‹_› ?_; refine rFn ‹_› (by with_unfolding_all rfl) ?_; refine rMore (by with_unfolding_all rfl) ?_; refine nC ‹_› (by kernel_rfl) (by with_unfolding_all rfl) (mm13 _ _ _ _ _ _ _ _ _ _ _ _ _ _ _) ?_; refine rMore (by with_unfolding_all rfl) ?_; refine nC ‹_› (by kernel_rfl) (by with_unfolding_all rfl) (mm16 _ _ _ _ _ _ _ _ _ _ _ _ _ _ _ _ _ _) ?_; refine rMore (by with_unfolding_all rfl) ?_; refine wpAny_BinOp ?_; refine wpAny_BinOp ?_; refine nL ‹_› (by kernel_rfl) (mm11 _ _ _ _ _ _ _ _ _ _ _ _ _) (mm5 _ _ _ _ _ _ _) ?_; refine kInt ‹_› fun t' s' c9 => ?_; (try clear c'); rename Cx _ _ _ => c'))
      refine oDivN (n := x) (m := 21) c' rfl rfl (by decide) (by decide) (fun t' s' c' => ?_)
      (with_reducible refine kInt ‹_› fun t' s' c9 => ?_; (try clear c'); rename Cx _ _ _ => c')
      refine oModN (n := x / 21) (m := 3) c' rfl rfl (by decide) (fun t' s' c' => ?_)
      (with_reducible refine spliced_none ?_; refine ⟨Cx.keep ‹_›, ?_⟩)
      refine spell_ok (hR.le (by decide)) (Fsp.keeps c'.keep) (G.keeps c'.keep) ho3 ho1 (by (first | lia | omega)) hsg3 hasc (fun tf1 s' hkp => ?_)
      replace c' := c'.keeps hkp
      ((with_reducible refine spliced_none ?_; refine oApp ‹_› (mm6 _ _ _ _ _ _ _ _) (pt6 _ _ _ _ _ _ _ _) (by first | assumption | wtm_at "zz_sz") fun s' c9 => ?_; (try clear c'); rename Cx _ _ _ => c'; refine seqNext ‹_› ?_; refine seqCons fun Q9 hQ9 => ?_); refine wpAny_Expr_any ?_ (hi := by first | rfl | kernel_rfl) (hs := by first | rfl | kernel_rfl); (with_reducible refine rMeth (by with_unfolding_all rfl) ?_; refine nL ‹_› (by kernel_rfl) (mm11 _ _ _ _ _ _ _ _ _ _ _ _ _) (mm4 _ _ _ _ _ _) ?_; refine gmApp (Cx.lat c' (mm5 _ _ _ _ _ _ _)) ?_; refine rM1s (by with_unfolding_all rfl) ?_; refine rMore (by with_unfolding_all rfl) ?_; refine rCallN ?_; refine nG ‹_› ‹_› (by kernel_rfl) (by rfl) ‹_› ?_; refine rFn ‹_› (by with_unfolding_all rfl) ?_; refine rMore (by with_unfolding_all rfl) ?_; refine nC ‹_› (by kernel_rfl) (by with_unfolding_all rfl) (mm12 _ _ _ _ _ _ _ _ _ _ _ _ _ _) ?_; refine rMore (by with_unfolding_all rfl) ?_; refine nC ‹_› (by kernel_rfl) (by with_unfolding_all rfl) (mm16 _ _ _ _ _ _ _ _ _ _ _ _ _ _ _ _ _ _) ?_; refine rMore (by with_unfolding_all rfl) ?_; refine wpAny_BinOp ?_; refine wpAny_BinOp ?_; refine nL ‹_› (by kernel_rfl) (mm11 _ _ _ _ _ _ _ _ _ _ _ _ _) (mm5 _ _ _ _ _ _ _) ?_; refine kInt ‹_› fun t' s' c9 => ?_; (try clear c'); rename Cx _ _ _ => c'))
      refine oDivN (n := x) (m := 63) c' rfl rfl (by decide) (by decide) (fun t' s' c' => ?_)
      (with_reducible refine kInt ‹_› fun t' s' c9 => ?_; (try clear c'); rename Cx _ _ _ => c')
      refine oModN (n := x / 63) (m := 3) c' rfl rfl (by decide) (fun t' s' c' => ?_)
      (with_reducible refine spliced_none ?_; refine ⟨Cx.keep ‹_›, ?_⟩)
      refine spell_ok (hR.le (by decide)) (Fsp.keeps c'.keep) (G.keeps c'.keep) hn3 hn1 (by (first | lia | omega)) hsg3 hasc (fun tf2 s' hkp => ?_)
      replace c' := c'.keeps hkp
      (with_reducible refine spliced_none ?_; refine oApp ‹_› (mm5 _ _ _ _ _ _ _) (pt5 _ _ _ _ _ _ _) (by first | assumption | wtm_at "zz_sz") fun s' c9 => ?_; (try clear c'); rename Cx _ _ _ => c'; refine seqNext ‹_› ?_; refine wpAny_execs_nil ?_; refine lfNext ‹_› ?_)
      have htk : xs.take (k + 1) = xs.take k ++ [x] := by rw [List.take_add_one, hx]; rfl
      obtain ⟨b1, t1, t2, t3, c2⟩ : ∃ b1 t1 t2 t3, Cx s₀ s' ((it, Rs.iter XL (k + 1)) :: (XL, Rs.lst xv) :: (SD, Rs.lst (s2 ++ [.str (S (spellF (newF sg x) sg (x / 63 % 3))) tf2])) :: (FI, Rs.lst (fv ++ [.str (S (spellF (oldF sg x) sg (x / 21 % 3))) tf1])) :: (PA, Rs.lst (pv ++ [.ref b1])) :: (O, Rs.lst (ov ++ [.str (S (oldF sg x)) to])) :: (SE, Rs.lst sv) :: (D, Rs.lst dv) :: (L, Rs.ns (("draws", some (.ref D)) :: ("inner", some (.int (inn : Nat) ti)) :: ("sets", some (.ref SE)) :: ("first", some (.ref FI)) :: ("second", some (.ref SD)) :: ("x", some (.int (x : Nat) tx)) :: ("spot", some (.int (x % 7 : Nat) ts)) :: lr)) :: (ad.new, Rs.cell (some (.str (S (newF sg x)) tn))) :: (ad.old, Rs.cell (some (.str (S (oldF sg x)) to))) :: (ad.pairs, Rs.cell (some (.ref PA))) :: (ad.olds, Rs.cell (some (.ref O))) :: (ad.signs, Rs.cell (some (.str (S sg) tsg))) :: (ad.tail, Rs.cell (some (.int (tl : Nat) tt))) :: (ad.head, Rs.cell (some (.int (hd : Nat) th))) :: ((b1, Rs.tup [.str (S (pairF sg x).1) t1, .str (S (pairF sg x).2.1) t2, .int ((pairF sg x).2.2 : Nat) t3]) :: pt ++ T)) := by
        refine ⟨b', ?_, ?_, ?_, Cx.tail (p := (D1, .lst vs1)) (Cx.tail (p := (D2, .lst vs2)) (Cx.perm c' ?_) rfl) rfl⟩
        rotate_left 3
        repeat (with_reducible refine (List.Perm.swap _ _ _).trans (List.Perm.cons _ ?_))
        exact List.Perm.refl _
      simp only [htk, List.map_append, List.map_cons, List.map_nil]
      exact ⟨_, ⟨_, _, _, _, _, _, _, _, _, saApp hov saOne, saApp hfv saOne, saApp hs2 saOne, hpv.more, rfl⟩, c2⟩
    · rintro T' s ⟨s2, fv, pv, ov, pt, o_x, o_s, o_o, o_n, hov, hfv, hs2, hpv, rfl⟩ c'
      rw [List.take_of_length_le (by (first | lia | omega))] at hov hfv hs2 hpv
      dsimp only
      refine seqNext hQ7 ?_
      replace c' : Cx s₀ s ((SD, Rs.lst s2) :: (FI, Rs.lst fv) :: (PA, Rs.lst pv) :: (O, Rs.lst ov) :: (L, Rs.ns (("draws", some (.ref D)) :: ("inner", some (.int (inn : Nat) ti)) :: ("sets", some (.ref SE)) :: ("first", some (.ref FI)) :: ("second", some (.ref SD)) :: ("x", o_x) :: ("spot", o_s) :: lr)) :: (ad.new, Rs.cell (o_n)) :: (ad.old, Rs.cell (o_o)) :: (ad.pairs, Rs.cell (some (.ref PA))) :: (ad.olds, Rs.cell (some (.ref O))) :: (ad.signs, Rs.cell (some (.str (S sg) tsg))) :: (ad.tail, Rs.cell (some (.int (tl : Nat) tt))) :: (ad.head, Rs.cell (some (.int (hd : Nat) th))) :: (pt ++ T)) := c'.drop ((List.Sublist.cons _ (List.Sublist.cons_cons _ (List.Sublist.cons_cons _ (List.Sublist.cons_cons _ (List.Sublist.cons_cons _ (List.Sublist.cons _ (List.Sublist.cons _ (List.Sublist.refl _)))))))))
      exact next _ pt xs s2 fv pv ov _ _ _ _ _ _ hxl hpv hov hfv hs2 (Cx.perm c' (by repeat (first | exact List.perm_append_comm | refine List.Perm.cons _ ?_)))
end
section
set_option maxRecDepth 100000
set_option maxHeartbeats 4000000
open PySem PySem.W PyProof.Rows PySem.Calls
theorem law_s3 {mg mb : Str → Option Value} {w : World} {cd P f : Addr} {A : Around} {QQ : Flow → Shared → Prop} {EE : Value → Shared → Prop} {s₀ s : Shared} {T : Tab} {fr : List Env} {lr : List (Str × Option Value)} {L : Addr} {ad : LC} {code : Value}
    (hR : Room A 19) (X : Top1 w mg mb s₀.heap cd P) (hP : (P, tabR) ∈ T) (hfr' : A.frames = some ((envC dLaw L f code (cellsOf ad)) :: fr)) (hF : FrOk T fr) (hQ : ∀ s', Cx s₀ s' T → QQ (.ret (.bool true)) s') {O : Addr} {th tt tsg : Tok} {sg : List Nat} {hd tl inn : Nat} {xs : List Nat} {ov : List Value}
    (hsg : goodSg sg) (hh1 : hd ≤ 1) (ht1 : tl ≤ 1) (hi1 : 1 ≤ inn) (hi3 : hd + inn + tl ≤ 3) (hxl : xs.length = hd + inn + tl) (hov : StrsAre ov ((xs.map (oldF sg)).map S))
    (next : ∀ (s : Shared) (KE NA EN FR : Addr) (kv nv env' frv : List Value), StrsAre frv ((edgeF hd).map S) → StrsAre env' ((edgeF tl).map S) → StrsAre nv ((names3 sg).map S) → StrsAre kv (((names3 sg).filter (keptP hd tl (xs.map (oldF sg)))).map S) → Cx s₀ s ((KE, Rs.lst kv) :: (NA, Rs.lst nv) :: (EN, Rs.lst env') :: (FR, Rs.lst frv) :: (O, Rs.lst ov) :: (L, Rs.ns (("front", some (.ref FR)) :: ("end", some (.ref EN)) :: lr)) :: (ad.kept, Rs.cell (some (.ref KE))) :: (ad.names, Rs.cell (some (.ref NA))) :: (ad.olds, Rs.cell (some (.ref O))) :: (ad.signs, Rs.cell (some (.str (S sg) tsg))) :: (ad.tail, Rs.cell (some (.int (tl : Nat) tt))) :: (ad.head, Rs.cell (some (.int (hd : Nat) th))) :: T) → wpAny (model PW w) A (execs (dLaw.body.drop 15) (envC dLaw L f code (cellsOf ad))) QQ EE s)
    (c' : Cx s₀ s ((O, Rs.lst ov) :: (L, Rs.ns (("front", none) :: ("end", none) :: lr)) :: (ad.kept, Rs.cell none) :: (ad.names, Rs.cell none) :: (ad.olds, Rs.cell (some (.ref O))) :: (ad.signs, Rs.cell (some (.str (S sg) tsg))) :: (ad.tail, Rs.cell (some (.int (tl : Nat) tt))) :: (ad.head, Rs.cell (some (.int (hd : Nat) th))) :: T)) : wpAny (model PW w) A (execs (dLaw.body.drop 11) (envC dLaw L f code (cellsOf ad))) QQ EE s := by
    have G := X.g
    obtain ⟨ffi, hffi, Ffi⟩ := G.fn dFits (by simp [dAll])
    have hffi' : mg "_law_fits" = some (.ref ffi) := hffi
    obtain ⟨hasc, hsg3⟩ := good_asc hsg
    have holl : (xs.map (oldF sg)).length = hd + inn + tl := by rw [List.length_map, hxl]
    generalize xs.map (oldF sg) = olds at *
    have hovl : ov.length = olds.length := by simpa using saLen hov
    obtain ⟨o0, ho0⟩ : ∃ x, olds[0]? = some x := ⟨_, List.getElem?_eq_getElem (by (first | lia | omega))⟩
    obtain ⟨to0, hto0⟩ := saGet hov (i := 0) (y := S o0) (by simp [ho0])
    obtain ⟨ol, hol'⟩ : ∃ x, olds[olds.length - 1]? = some x := ⟨_, List.getElem?_eq_getElem (by (first | lia | omega))⟩
    have hol : olds.getLast? = some ol := by rw [List.getLast?_eq_getElem?]; exact hol'
    obtain ⟨tol, htol⟩ := saGet hov (i := olds.length - 1) (y := S ol) (by simp [hol'])
    refine seqCons ?_
    intro Q7 hQ7
    (refine wpAny_Assign_Name ?_ (hs := by first | rfl | kernel_rfl); (with_reducible refine IfExp_ ?_; refine evI ‹_› (AtI.val (AtV.cell (by kernel_rfl) (by with_unfolding_all rfl) (mm7 _ _ _ _ _ _ _ _ _))) AtI.const (by constructor) (by with_unfolding_all rfl) fun s' c9 => ?_; (try clear c'); rename Cx _ _ _ => c'))
    refine cutIfR (fun v s' => Ex2 fun FR frv => An3 (v = .ref FR) (StrsAre frv ((edgeF hd).map S)) (Cx s₀ s' ((FR, Rs.lst frv) :: (O, Rs.lst ov) :: (L, Rs.ns (("front", none) :: ("end", none) :: lr)) :: (ad.kept, Rs.cell none) :: (ad.names, Rs.cell none) :: (ad.olds, Rs.cell (some (.ref O))) :: (ad.signs, Rs.cell (some (.str (S sg) tsg))) :: (ad.tail, Rs.cell (some (.int (tl : Nat) tt))) :: (ad.head, Rs.cell (some (.int (hd : Nat) th))) :: T))) ?_ ?_
    · by_cases h1 : hd = 1
      · first | refine iteDT (by (first | lia | omega)) ?_ | rw [decide_eq_true (by (first | lia | omega))]
        (with_reducible refine List_ ?_; refine spliced_none ?_; refine oNewL ‹_› (by exact Nat.le_of_ble_eq_true rfl) fun b' s' c9 => ?_; (try clear c'); rename Cx _ _ _ => c')
        exact ⟨_, _, rfl, by unfold edgeF; rw [if_pos h1]; exact .nil, c'⟩
      · first | refine iteDF (by (first | lia | omega)) ?_ | rw [decide_eq_false (by (first | lia | omega))]
        (with_reducible refine List_ ?_; refine rMore (by with_unfolding_all rfl) ?_; refine kStrS q0 ‹_› fun t' s' c9 => ?_; (try clear c'); rename Cx _ _ _ => c'; refine spliced_none ?_; refine oNewL ‹_› (by exact Nat.le_of_ble_eq_true rfl) fun b' s' c9 => ?_; (try clear c'); rename Cx _ _ _ => c')
        exact ⟨_, _, rfl, by unfold edgeF; rw [if_neg h1]; exact saOne, c'⟩
    rintro v s' ⟨FR, frv, rfl, hfrv, c'⟩
    ((with_reducible refine sL ‹_› (by kernel_rfl) (mm2 _ _ _ _) (pv0 _ _) (pt2 _ _ _ _) fun s' c9 => ?_; (try clear c'); rename Cx _ _ _ => c'; refine seqNext ‹_› ?_; refine seqCons fun Q9 hQ9 => ?_); refine wpAny_Assign_Name ?_ (hs := by first | rfl | kernel_rfl); (with_reducible refine IfExp_ ?_; refine evI ‹_› (AtI.val (AtV.cell (by kernel_rfl) (by with_unfolding_all rfl) (mm7 _ _ _ _ _ _ _ _ _))) AtI.const (by constructor) (by with_unfolding_all rfl) fun s' c9 => ?_; (try clear c'); rename Cx _ _ _ => c'))
    refine cutIfR (fun v s' => Ex2 fun EN env' => An3 (v = .ref EN) (StrsAre env' ((edgeF tl).map S)) (Cx s₀ s' ((EN, Rs.lst env') :: (FR, Rs.lst frv) :: (O, Rs.lst ov) :: (L, Rs.ns (("front", some (.ref FR)) :: ("end", none) :: lr)) :: (ad.kept, Rs.cell none) :: (ad.names, Rs.cell none) :: (ad.olds, Rs.cell (some (.ref O))) :: (ad.signs, Rs.cell (some (.str (S sg) tsg))) :: (ad.tail, Rs.cell (some (.int (tl : Nat) tt))) :: (ad.head, Rs.cell (some (.int (hd : Nat) th))) :: T))) ?_ ?_
    · by_cases h1 : tl = 1
      · first | refine iteDT (by (first | lia | omega)) ?_ | rw [decide_eq_true (by (first | lia | omega))]
        (with_reducible refine List_ ?_; refine spliced_none ?_; refine oNewL ‹_› (by exact Nat.le_of_ble_eq_true rfl) fun b' s' c9 => ?_; (try clear c'); rename Cx _ _ _ => c')
        exact ⟨_, _, rfl, by unfold edgeF; rw [if_pos h1]; exact .nil, c'⟩
      · first | refine iteDF (by (first | lia | omega)) ?_ | rw [decide_eq_false (by (first | lia | omega))]
        (with_reducible refine List_ ?_; refine rMore (by with_unfolding_all rfl) ?_; refine kStrS q0 ‹_› fun t' s' c9 => ?_; (try clear c'); rename Cx _ _ _ => c'; refine spliced_none ?_; refine oNewL ‹_› (by exact Nat.le_of_ble_eq_true rfl) fun b' s' c9 => ?_; (try clear c'); rename Cx _ _ _ => c')
        exact ⟨_, _, rfl, by unfold edgeF; rw [if_neg h1]; exact saOne, c'⟩
    rintro v s' ⟨EN, env', rfl, henv, c'⟩
    ((with_reducible refine sL ‹_› (by kernel_rfl) (mm3 _ _ _ _ _) (pv1 _ _ _) (pt3 _ _ _ _ _) fun s' c9 => ?_; (try clear c'); rename Cx _ _ _ => c'; refine seqNext ‹_› ?_; refine seqCons fun Q9 hQ9 => ?_); refine wpAny_Assign_Name ?_ (hs := by first | rfl | kernel_rfl))
    refine compW3 (s₀ := s₀) (cl := [("signs", ad.signs)]) (ys := sg) (by with_unfolding_all rfl) (by decide +kernel) rfl (by decide +kernel) (by decide +kernel) (by decide +kernel) (by decide +kernel) (by decide) (by decide) (by decide) hR.handled hsg3 hasc c'
      (fun Q h => ?e0) (fun A' C U E' s Q hh hU c h => ?e1) (fun A' C U E' s Q hh hU c h => ?e2) (fun A' C U E' s Q a b d ta tb td hh hm c h => ?he) (fun NA nv s' hnv c' => ?hK) (fun _ _ => rfl) (fun _ _ => rfl) (fun _ _ => rfl)
    case e0 => (with_reducible refine nC ‹_› (by kernel_rfl) (by with_unfolding_all rfl) (mm7 _ _ _ _ _ _ _ _ _) ?_); exact h _ _ c'
    case e1 => exact nC c (by kernel_rfl) (by with_unfolding_all rfl) (hU _ ((mm7 _ _ _ _ _ _ _ _ _))) (h _ _ c)
    case e2 => exact nC c (by kernel_rfl) (by with_unfolding_all rfl) (hU _ ((mm7 _ _ _ _ _ _ _ _ _))) (h _ _ c)
    case he =>
      refine wpAny_BinOp ?_
      refine wpAny_BinOp ?_
      refine nL c (by kernel_rfl) hm ((mm0 _ _)) ?_
      refine nL c (by kernel_rfl) hm ((mm1 _ _ _)) ?_
      refine oCatS c (by wtm_at "zz_sz") (fun t s' c => ?_)
      refine nL c (by kernel_rfl) hm ((mm2 _ _ _ _)) ?_
      exact oCatS c (by wtm_at "zz_sz") h
    case hK =>
      have hnvl : nv.length = 27 := by have := saLen hnv; rw [List.length_map, len_names3 sg hsg3] at this; exact this
      ((with_reducible refine sC ‹_› (by kernel_rfl) (by with_unfolding_all rfl) (mm6 _ _ _ _ _ _ _ _) (pt6 _ _ _ _ _ _ _ _) fun s' c9 => ?_; (try clear c'); rename Cx _ _ _ => c'; refine seqNext ‹_› ?_; refine seqCons fun Q9 hQ9 => ?_); refine wpAny_Assign_Name ?_ (hs := by first | rfl | kernel_rfl))
      refine compW (s₀ := s₀) (cl := _) (by with_unfolding_all rfl) (by decide +kernel) rfl (by decide +kernel) (by decide +kernel) ?_
      (with_reducible refine nC ‹_› (by kernel_rfl) (by with_unfolding_all rfl) (mm6 _ _ _ _ _ _ _ _) ?_)
      refine readyList (p := keptP hd tl olds) (f := id) c' hR.handled (fun s c => c.lat ((mm0 _ _))) hnv (by rw [len_names3 sg hsg3]; decide) ?_ ?_
      · intro C D' it' r' acc xi t s E hx c'
        obtain ⟨na, nb, nc, rfl, _⟩ := names3_mem hx
        refine tests1 ?_
        refine isTrue_and ?_
        refine wpAny_mono (Q := fun b s' => b = (decide (hd = 0) || (olds[0]?.getD []).contains na) ∧ Cx s₀ s' ((C, Rs.ns [("name", some (.str (S [na, nb, nc]) t))]) :: (D', Rs.lst acc) :: (it', r') :: (NA, Rs.lst nv) :: (EN, Rs.lst env') :: (FR, Rs.lst frv) :: (O, Rs.lst ov) :: (L, Rs.ns (("front", some (.ref FR)) :: ("end", some (.ref EN)) :: lr)) :: (ad.kept, Rs.cell none) :: (ad.names, Rs.cell (some (.ref NA))) :: (ad.olds, Rs.cell (some (.ref O))) :: (ad.signs, Rs.cell (some (.str (S sg) tsg))) :: (ad.tail, Rs.cell (some (.int (tl : Nat) tt))) :: (ad.head, Rs.cell (some (.int (hd : Nat) th))) :: T)) ?_ (fun b s' hb => ?_) (fun _ _ e => e)
        · (with_reducible refine isTrue_or ?_; refine evI ‹_› (AtI.val (AtV.cell (by kernel_rfl) (by with_unfolding_all rfl) (mm13 _ _ _ _ _ _ _ _ _ _ _ _ _ _ _))) AtI.const (by constructor) (by with_unfolding_all rfl) fun s' c9 => ?_; (try clear c'); rename Cx _ _ _ => c')
          by_cases h0 : hd = 0
          · first | refine iteDT (by (first | lia | omega)) ?_ | rw [decide_eq_true (by (first | lia | omega))]
            skip
            exact ⟨by rw [h0]; rfl, c'⟩
          · first | refine iteDF (by (first | lia | omega)) ?_ | rw [decide_eq_false (by (first | lia | omega))]
            (with_reducible refine isTrue_or ?_; refine wpAny_isTrue_Compare1 ?_)
            refine evItem ‹_› (AtV.loc (by kernel_rfl) (mm0 _ _) (mm0 _ _)) AtI.const 0 rfl (ch := na) rfl (by wtm_at "zz_sz") (fun _ => rfl) (fun _ => rfl) (fun t' s' c' => ?_)
            (with_reducible refine evSub ‹_› (AtV.cell (by kernel_rfl) (by with_unfolding_all rfl) (mm10 _ _ _ _ _ _ _ _ _ _ _ _)) AtI.const fun t' s' c9 => ?_; (try clear c'); rename Cx _ _ _ => c')
            refine oItemL (v := .str (S o0) to0) (c'.lat ((mm6 _ _ _ _ _ _ _ _))) (by decide) (by decide) hto0 rfl ?_
            (with_reducible refine inS1 ?_; refine wpAny_truthy_bool ?_)
            cases hcb : o0.contains na with
            | true => (with_reducible refine iteT ?_); exact ⟨by rw [decide_eq_false h0, ho0]; exact hcb.symm, c'⟩
            | false => (with_reducible refine iteF ?_; refine isTrue_or_nil ?_); exact ⟨by rw [decide_eq_false h0, ho0]; exact hcb.symm, c'⟩
        obtain ⟨hb1, c'⟩ := hb
        cases b with
        | false =>
          ((with_reducible refine iteF ?_); dsimp only)
          refine ⟨?_, c'⟩
          unfold keptP
          rw [show ([na, nb, nc][0]?.getD 0) = na from rfl, ← hb1]; rfl
        | true =>
          refine iteT ?_
          refine isTrue_and ?_
          refine wpAny_mono (Q := fun b s' => b = (decide (tl = 0) || (olds.getLast?.getD []).contains nc) ∧ Cx s₀ s' ((C, Rs.ns [("name", some (.str (S [na, nb, nc]) t))]) :: (D', Rs.lst acc) :: (it', r') :: (NA, Rs.lst nv) :: (EN, Rs.lst env') :: (FR, Rs.lst frv) :: (O, Rs.lst ov) :: (L, Rs.ns (("front", some (.ref FR)) :: ("end", some (.ref EN)) :: lr)) :: (ad.kept, Rs.cell none) :: (ad.names, Rs.cell (some (.ref NA))) :: (ad.olds, Rs.cell (some (.ref O))) :: (ad.signs, Rs.cell (some (.str (S sg) tsg))) :: (ad.tail, Rs.cell (some (.int (tl : Nat) tt))) :: (ad.head, Rs.cell (some (.int (hd : Nat) th))) :: T)) ?_ (fun b s' hb => ?_) (fun _ _ e => e)
          · (with_reducible refine isTrue_or ?_; refine evI ‹_› (AtI.val (AtV.cell (by kernel_rfl) (by with_unfolding_all rfl) (mm12 _ _ _ _ _ _ _ _ _ _ _ _ _ _))) AtI.const (by constructor) (by with_unfolding_all rfl) fun s' c9 => ?_; (try clear c'); rename Cx _ _ _ => c')
            by_cases h0 : tl = 0
            · first | refine iteDT (by (first | lia | omega)) ?_ | rw [decide_eq_true (by (first | lia | omega))]
              skip
              exact ⟨by rw [h0]; rfl, c'⟩
            · first | refine iteDF (by (first | lia | omega)) ?_ | rw [decide_eq_false (by (first | lia | omega))]
              (with_reducible refine isTrue_or ?_; refine wpAny_isTrue_Compare1 ?_)
              refine evItem ‹_› (AtV.loc (by kernel_rfl) (mm0 _ _) (mm0 _ _)) AtI.const 2 rfl (ch := nc) rfl (by wtm_at "zz_sz") (fun _ => rfl) (fun _ => rfl) (fun t' s' c' => ?_)
              (with_reducible refine evSub ‹_› (AtV.cell (by kernel_rfl) (by with_unfolding_all rfl) (mm10 _ _ _ _ _ _ _ _ _ _ _ _)) (AtI.neg AtI.const) fun t' s' c9 => ?_; (try clear c'); rename Cx _ _ _ => c')
              refine oItemLneg (v := .str (S ol) tol) (c'.lat ((mm6 _ _ _ _ _ _ _ _))) (by decide) (by (first | lia | omega)) (by decide) (by rw [show ((-1 : Int) + ov.length).toNat = olds.length - 1 by (first | lia | omega)]; exact htol) rfl ?_
              (with_reducible refine inS1 ?_; refine wpAny_truthy_bool ?_)
              cases hcb : ol.contains nc with
              | true => (with_reducible refine iteT ?_); exact ⟨by rw [decide_eq_false h0, hol]; exact hcb.symm, c'⟩
              | false => (with_reducible refine iteF ?_; refine isTrue_or_nil ?_); exact ⟨by rw [decide_eq_false h0, hol]; exact hcb.symm, c'⟩
          obtain ⟨hb2, c'⟩ := hb
          cases b with
          | false =>
            ((with_reducible refine iteF ?_); dsimp only)
            refine ⟨?_, c'⟩
            unfold keptP
            rw [show ([na, nb, nc][0]?.getD 0) = na from rfl, show ([na, nb, nc][2]?.getD 0) = nc from rfl, ← hb1, ← hb2]; rfl
          | true =>
            ((with_reducible refine iteT ?_; refine isTrue_and ?_; refine rTest (by with_unfolding_all rfl) ?_; refine rCallN ?_; refine nG ‹_› ‹_› (by kernel_rfl) (by rfl) ‹_› ?_; refine rFn ‹_› (by with_unfolding_all rfl) ?_; refine rMore (by with_unfolding_all rfl) ?_; refine Subscript_ ?_; refine nC ‹_› (by kernel_rfl) (by with_unfolding_all rfl) (mm10 _ _ _ _ _ _ _ _ _ _ _ _) ?_; refine wpAny_Slice ?_; refine evalPart_some_step ?_; refine nC ‹_› (by kernel_rfl) (by with_unfolding_all rfl) (mm13 _ _ _ _ _ _ _ _ _ _ _ _ _ _ _) ?_; refine evalPart_some_step ?_; refine wpAny_BinOp ?_; refine rCallN ?_; refine nB ‹_› ‹_› (by kernel_rfl) (by rfl) (by rfl) (mm0 _ _) ?_; refine blV ‹_› (Ats.cons (AtV.cell (by kernel_rfl) (by with_unfolding_all rfl) (mm10 _ _ _ _ _ _ _ _ _ _ _ _)) Ats.nil) ?_; refine oLenL ‹_› (Cx.lat c' (mm6 _ _ _ _ _ _ _ _)) (by first | assumption | wtm_at "zz_sz") fun t' s' c9 => ?_; (try clear c'); rename Cx _ _ _ => c'; refine nC ‹_› (by kernel_rfl) (by with_unfolding_all rfl) (mm12 _ _ _ _ _ _ _ _ _ _ _ _ _ _) ?_; refine oSub ‹_› fun t' s' c9 => ?_; (try clear c'); rename Cx _ _ _ => c'; refine evalPart_none_step ?_; refine oCutL ‹_› (Cx.lat c' (mm6 _ _ _ _ _ _ _ _)) (by constructor) (by constructor) (by first | assumption | wtm_at "zz_sz") (by with_unfolding_all rfl) (by intro _; with_unfolding_all rfl) fun b' s' c9 => ?_; (try clear c'); rename Cx _ _ _ => c'; refine rMore (by with_unfolding_all rfl) ?_; refine evSS ‹_› (AtS.val (AtV.loc (by kernel_rfl) (mm1 _ _ _) (mm0 _ _))) (AtI.val (AtV.cell (by kernel_rfl) (by with_unfolding_all rfl) (mm14 _ _ _ _ _ _ _ _ _ _ _ _ _ _ _ _))) (AtI.sub AtI.const (AtI.val (AtV.cell (by kernel_rfl) (by with_unfolding_all rfl) (mm13 _ _ _ _ _ _ _ _ _ _ _ _ _ _ _)))) (by first | assumption | wtm_at "zz_sz") (by intro _ _; with_unfolding_all rfl) (by intro _ _; with_unfolding_all rfl) fun t' s' c9 => ?_; (try clear c'); rename Cx _ _ _ => c'; refine spliced_none ?_; refine ⟨Cx.keep ‹_›, ?_⟩); dsimp only)
            have hcl1 := cut_length_le olds (some (hd : Int)) (some ((ov.length : Int) - tl))
            have hcl2 := cut_length_le [na, nb, nc] (some (hd : Int)) (some (3 - (tl : Int)))
            simp only [List.length_cons, List.length_nil] at hcl2
            refine fits_ok (mg := mg) hffi' (cutL olds (some (hd : Int)) (some ((ov.length : Int) - tl))) (hR.le (by (first | lia | omega))) (Ffi.keeps c'.keep) (G.keeps c'.keep) (c'.lat ((mm0 _ _))) (saCut hov _ _) (by (first | lia | omega)) (by (first | lia | omega)) (fun s' hkp => ?_)
            replace c' := (c'.keeps hkp).tail rfl
            have hfin : keptP hd tl olds [na, nb, nc] = fitsF (cutL olds (some (hd : Int)) (some ((ov.length : Int) - tl))) (cutL [na, nb, nc] (some (hd : Int)) (some (3 - (tl : Int)))) := by
              unfold keptP
              rw [show ([na, nb, nc][0]?.getD 0) = na from rfl, show ([na, nb, nc][2]?.getD 0) = nc from rfl, ← hb1, ← hb2, hovl]; rfl
            rw [← hfin]
            cases hk : keptP hd tl olds [na, nb, nc] with
            | true =>
              (with_reducible refine wpAny_truthy_bool ?_; refine iteT ?_; refine isTrue_and_nil ?_; refine andT ?_; refine iteT ?_; refine nL ‹_› (by kernel_rfl) (mm0 _ _) (mm0 _ _) ?_)
              exact ⟨_, rfl, c'⟩
            | false =>
              (with_reducible refine wpAny_truthy_bool ?_; refine iteF ?_)
              exact ⟨rfl, c'⟩
      · intro KE kv s' hkv c'
        rw [List.map_id] at hkv
        (with_reducible refine sC ‹_› (by kernel_rfl) (by with_unfolding_all rfl) (mm6 _ _ _ _ _ _ _ _) (pt6 _ _ _ _ _ _ _ _) fun s' c9 => ?_; (try clear c'); rename Cx _ _ _ => c')
        (with_reducible refine seqNext ‹_› ?_)
        exact next _ KE NA EN FR kv nv env' frv hfrv henv hnv hkv c'
end
section
set_option maxRecDepth 100000
set_option maxHeartbeats 4000000
open PySem PySem.W PyProof.Rows PySem.Calls
theorem law_s4 {mg mb : Str → Option Value} {w : World} {cd P f : Addr} {A : Around} {QQ : Flow → Shared → Prop} {EE : Value → Shared → Prop} {s₀ s : Shared} {T : Tab} {fr : List Env} {lr : List (Str × Option Value)} {L : Addr} {ad : LC} {code : Value}
    (hR : Room A 19) (X : Top1 w mg mb s₀.heap cd P) (hP : (P, tabR) ∈ T) (hfr' : A.frames = some ((envC dLaw L f code (cellsOf ad)) :: fr)) (hF : FrOk T fr) (hQ : ∀ s', Cx s₀ s' T → QQ (.ret (.bool true)) s') {FI SD NA EN FR : Addr} {tsg : Tok} {sg : List Nat} {hd tl inn : Nat} {xs : List Nat} {s2 fv nv env' frv : List Value}
    (hsg : goodSg sg) (hh1 : hd ≤ 1) (ht1 : tl ≤ 1) (hi1 : 1 ≤ inn) (hi3 : hd + inn + tl ≤ 3) (hxl : xs.length = hd + inn + tl)
    (hfv : StrsAre fv ((xs.map fun x => spellF (oldF sg x) sg (x / 21 % 3)).map S)) (hs2 : StrsAre s2 ((xs.map fun x => spellF (newF sg x) sg (x / 63 % 3)).map S))
    (hfrv : StrsAre frv ((edgeF hd).map S)) (henv : StrsAre env' ((edgeF tl).map S)) (hnv : StrsAre nv ((names3 sg).map S))
    (next : ∀ (s : Shared) (OT TK : Addr) (kv1 kv2 : List Value) (o_w : Option Value), StrsAre kv1 (((names3 sg).filter (takesF (rowF hd tl (xs.map (oldF sg))))).map S) → StrsAre kv2 (((names3 sg).filter (takesF (rowF hd tl (xs.map (newF sg))))).map S) → Cx s₀ s ((OT, Rs.lst kv2) :: (TK, Rs.lst kv1) :: (NA, Rs.lst nv) :: (EN, Rs.lst env') :: (FR, Rs.lst frv) :: (SD, Rs.lst s2) :: (FI, Rs.lst fv) :: (L, Rs.ns (("first", some (.ref FI)) :: ("second", some (.ref SD)) :: ("front", some (.ref FR)) :: ("end", some (.ref EN)) :: ("taken", some (.ref TK)) :: ("other", some (.ref OT)) :: lr)) :: (ad.row, Rs.cell (o_w)) :: (ad.names, Rs.cell (some (.ref NA))) :: (ad.signs, Rs.cell (some (.str (S sg) tsg))) :: T) → wpAny (model PW w) A (execs (dLaw.body.drop 19) (envC dLaw L f code (cellsOf ad))) QQ EE s)
    (c' : Cx s₀ s ((NA, Rs.lst nv) :: (EN, Rs.lst env') :: (FR, Rs.lst frv) :: (SD, Rs.lst s2) :: (FI, Rs.lst fv) :: (L, Rs.ns (("first", some (.ref FI)) :: ("second", some (.ref SD)) :: ("front", some (.ref FR)) :: ("end", some (.ref EN)) :: ("taken", none) :: ("other", none) :: lr)) :: (ad.row, Rs.cell none) :: (ad.names, Rs.cell (some (.ref NA))) :: (ad.signs, Rs.cell (some (.str (S sg) tsg))) :: T)) : wpAny (model PW w) A (execs (dLaw.body.drop 15) (envC dLaw L f code (cellsOf ad))) QQ EE s := by
    have G := X.g
    obtain ⟨ftr, hftr, Ftr⟩ := G.fn dTr (by simp [dAll])
    have hftr' : mg "translate" = some (.ref ftr) := hftr
    obtain ⟨frd, hfrd, Frd⟩ := G.fn dRead (by simp [dAll])
    have hfrd' : mg "_law_read" = some (.ref frd) := hfrd
    obtain ⟨ftk, hftk, Ftk⟩ := G.fn dTakes (by simp [dAll])
    have hftk' : mg "_law_takes" = some (.ref ftk) := hftk
    obtain ⟨hasc, hsg3⟩ := good_asc hsg
    have hl1 : frv.length ≤ 1 := by have := saLen hfrv; rw [this]; unfold edgeF; split <;> simp
    have hl2 : env'.length ≤ 1 := by have := saLen henv; rw [this]; unfold edgeF; split <;> simp
    have hl3 : fv.length ≤ 3 := by have := saLen hfv; simp at this; (first | lia | omega)
    have hl4 : s2.length ≤ 3 := by have := saLen hs2; simp at this; (first | lia | omega)
    have hpos : 1 ≤ xs.length := by (first | lia | omega)
    have hts1 := plains_of (xs := xs) hsg (oldF sg) (old_mem sg) (fun x => x / 21 % 3) (fun x => by (first | lia | omega))
    have hrow1 := row_of hsg hh1 ht1 hi1 hi3 hxl (oldF sg) (old_mem sg) (fun x => x / 21 % 3) (fun x => by (first | lia | omega))
    rw [spells_of hsg (oldF sg) (old_mem sg) (fun x => x / 21 % 3) (fun x => by (first | lia | omega))] at hfv
    have hlen1 : (xs.map fun x => tkF (oldF sg x) sg (x / 21 % 3)).length ≤ 3 := by simp; (first | lia | omega)
    have hlrow1 : (rowF hd tl (xs.map (oldF sg))).length ≤ 8 := by have := row_len hd tl (xs.map (oldF sg)); simp at this; (first | lia | omega)
    have hne1 : (xs.map fun x => tkF (oldF sg x) sg (x / 21 % 3)) ≠ [] := fun e => by have := congrArg List.length e; simp at this; simp [this] at hpos
    generalize (xs.map fun x => tkF (oldF sg x) sg (x / 21 % 3)) = ts1 at *
    refine wpAny_execs_cons ?_
    have hsa1 : StrsAre (frv ++ fv ++ env') ((edgeF hd ++ ts1.map Tk.sp ++ edgeF tl).map S) := by
      rw [List.map_append, List.map_append]; exact saApp (saApp hfrv hfv) henv
    have hed : ∀ n, (edgeF n).length ≤ 1 ∧ ∀ x ∈ edgeF n, x.length ≤ 5 := fun n => by unfold edgeF; split <;> simp
    (refine wpAny_Assign_Name ?_ (hs := by first | rfl | kernel_rfl); (with_reducible refine rCallN ?_; refine nG ‹_› ‹_› (by kernel_rfl) (by rfl) ‹_› ?_; refine rFn ‹_› (by with_unfolding_all rfl) ?_; refine rMore (by with_unfolding_all rfl) ?_; refine rCallN ?_; refine nG ‹_› ‹_› (by kernel_rfl) (by rfl) ‹_› ?_; refine rFn ‹_› (by with_unfolding_all rfl) ?_; refine rMore (by with_unfolding_all rfl) ?_; refine rMeth (by with_unfolding_all rfl) ?_; refine kStrS q16 ‹_› fun t' s' c9 => ?_; (try clear c'); rename Cx _ _ _ => c'; refine gmJoin ?_; refine rM1s (by with_unfolding_all rfl) ?_; refine rMore (by with_unfolding_all rfl) ?_; refine wpAny_BinOp ?_; refine wpAny_BinOp ?_; refine nL ‹_› (by kernel_rfl) (mm5 _ _ _ _ _ _ _) (mm2 _ _ _ _) ?_; refine nL ‹_› (by kernel_rfl) (mm5 _ _ _ _ _ _ _) (mm0 _ _) ?_; refine oAddL ‹_› (Cx.lat c' (mm2 _ _ _ _)) (Cx.lat c' (mm4 _ _ _ _ _ _)) (by first | assumption | (simp only [List.length_replicate]; wtm_at "zz_sz") | wtm_at "zz_sz") fun b' s' c9 => ?_; (try clear c'); rename Cx _ _ _ => c'; refine nL ‹_› (by kernel_rfl) (mm6 _ _ _ _ _ _ _ _) (mm3 _ _ _ _ _) ?_; refine oAddL ‹_› (Cx.lat c' (mm0 _ _)) (Cx.lat c' (mm2 _ _ _ _)) (by first | assumption | (simp only [List.length_replicate]; wtm_at "zz_sz") | wtm_at "zz_sz") fun b' s' c9 => ?_; (try clear c'); rename Cx _ _ _ => c'; refine spliced_none ?_); dsimp only)
    refine oJoin c' (c'.lat ((mm0 _ _))) hsa1 5 5 ?_ ?_ (by decide) (by decide) (fun t s' c' => ?_)
    · have h1 := (hed hd).1
      have h2 := (hed tl).1
      simp only [List.length_append, List.length_map]; (first | lia | omega)
    · intro x hx
      rcases List.mem_append.mp hx with hx | hx
      · rcases List.mem_append.mp hx with hx | hx
        · exact (hed hd).2 x hx
        · obtain ⟨t, ht, rfl⟩ := List.mem_map.mp hx
          exact (hts1 t ht).2
      · exact (hed tl).2 x hx
    rw [join_toks hne1 hd tl]
    have hok1 := ok_toks hne1 (fun t ht => (hts1 t ht).1) hd tl
    have hlt1 := len_toks hd tl ts1
    have hls1 := spell_len (sp_toks (b := 5) (by decide) (fun t ht => (hts1 t ht).2) hd tl)
    (with_reducible refine spliced_none ?_; refine ⟨Cx.keep ‹_›, ?_⟩)
    refine translate_ok (hR.le (by decide)) X Ftr c' (by simp only [List.mem_cons]; simp [hP]) (by (first | lia | omega)) (by (first | lia | omega)) hok1 (fun t s' c' => ?_)
    (with_reducible refine rMore (by with_unfolding_all rfl) ?_; refine nC ‹_› (by kernel_rfl) (by with_unfolding_all rfl) (mm10 _ _ _ _ _ _ _ _ _ _ _ _) ?_; refine spliced_none ?_; refine ⟨Cx.keep ‹_›, ?_⟩)
    have hjl1 := joinF_len (out_len hok1)
    rw [List.length_map] at hjl1
    refine read_ok (mg := mg) (rest := joinBody ((toksF hd tl ts1).map Tk.out) ++ [41, 92, 90]) (hR.le (by decide)) (Frd.keeps c'.keep) (G.keeps c'.keep) (by unfold joinF; simp) ⟨_, rfl⟩ (by (first | lia | omega)) hsg3 hasc (fun RW rv s' hrv d => ?_)
    replace c' := c'.trans d
    simp only [List.cons_append, List.nil_append] at c'
    change StrsAre rv ((readF sg (toksF hd tl ts1)).map S) at hrv
    rw [hrow1] at hrv
    (with_reducible refine sC ‹_› (by kernel_rfl) (by with_unfolding_all rfl) (mm9 _ _ _ _ _ _ _ _ _ _ _) (pt9 _ _ _ _ _ _ _ _ _ _ _) fun s' c9 => ?_; (try clear c'); rename Cx _ _ _ => c'; refine seqCons fun Q9 hQ9 => ?_)
    replace c' : Cx s₀ s' ((RW, Rs.lst rv) :: (NA, Rs.lst nv) :: (EN, Rs.lst env') :: (FR, Rs.lst frv) :: (SD, Rs.lst s2) :: (FI, Rs.lst fv) :: (L, Rs.ns (("first", some (.ref FI)) :: ("second", some (.ref SD)) :: ("front", some (.ref FR)) :: ("end", some (.ref EN)) :: ("taken", none) :: ("other", none) :: lr)) :: (ad.row, Rs.cell (some (.ref RW))) :: (ad.names, Rs.cell (some (.ref NA))) :: (ad.signs, Rs.cell (some (.str (S sg) tsg))) :: T) := c'.drop ((List.Sublist.cons_cons _ (List.Sublist.cons _ (List.Sublist.cons _ (List.Sublist.refl _)))))
    refine compUse (s₀ := s₀) (cl := [("row", ad.row)]) (by kernel_rfl) (by with_unfolding_all rfl) (by decide +kernel) rfl (by decide +kernel) (by decide +kernel) (by kernel_rfl) ?_
    (with_reducible refine nC ‹_› (by kernel_rfl) (by with_unfolding_all rfl) (mm8 _ _ _ _ _ _ _ _ _ _) ?_)
    refine useListA (items := names3 sg) (takesF (rowF hd tl (xs.map (oldF sg)))) (fun pre acc => StrsAre acc (pre.map S)) c' hR.handled (fun s c => c.lat ((mm1 _ _ _))) hnv (by rw [len_names3 sg hsg3]; decide) .nil ((mm6 _ _ _ _ _ _ _ _)) ?_ ?_
    · rintro C D' it' r' acc pre xi v s E hxi ⟨t, rfl⟩ hacc c'
      obtain ⟨na, nb, nc, rfl, _⟩ := names3_mem hxi
      (with_reducible refine tests1 ?_; refine rTest (by with_unfolding_all rfl) ?_; refine rCallN ?_; refine nG ‹_› ‹_› (by kernel_rfl) (by rfl) ‹_› ?_; refine fnV ‹_› ‹_› (Ats.cons (AtV.cell (by kernel_rfl) (by with_unfolding_all rfl) (mm10 _ _ _ _ _ _ _ _ _ _ _ _)) (Ats.cons (AtV.loc (by kernel_rfl) (mm0 _ _) (mm0 _ _)) Ats.nil)) ?_)
      refine takes_ok (mg := mg) hftk' _ rfl (hR.le (by (first | lia | omega))) (Ftk.keeps c'.keep) (G.keeps c'.keep) (c'.lat ((mm3 _ _ _ _ _))) hrv (by (first | lia | omega)) (by simp) (fun s' hkp => ?_)
      replace c' := c'.keeps hkp
      cases hk : takesF (rowF hd tl (xs.map (oldF sg))) [na, nb, nc] with
      | true =>
        (with_reducible refine wpAny_truthy_bool ?_; refine andT ?_; refine iteT ?_; refine nL ‹_› (by kernel_rfl) (mm0 _ _) (mm0 _ _) ?_)
        exact ⟨saApp1 hacc, c'⟩
      | false =>
        (with_reducible refine wpAny_truthy_bool ?_)
        exact ⟨rfl, c'⟩
    intro TK kv1 hkv1
    refine ⟨_, _, (pv4 _ _ _ _ _ _), (pt6 _ _ _ _ _ _ _ _), fun s' c' => ?_⟩
    clear hrv d
    replace c' : Cx s₀ s' ((TK, Rs.lst kv1) :: (NA, Rs.lst nv) :: (EN, Rs.lst env') :: (FR, Rs.lst frv) :: (SD, Rs.lst s2) :: (FI, Rs.lst fv) :: (L, Rs.ns (("first", some (.ref FI)) :: ("second", some (.ref SD)) :: ("front", some (.ref FR)) :: ("end", some (.ref EN)) :: ("taken", some (.ref TK)) :: ("other", none) :: lr)) :: (ad.row, Rs.cell (some (.ref RW))) :: (ad.names, Rs.cell (some (.ref NA))) :: (ad.signs, Rs.cell (some (.str (S sg) tsg))) :: T) := c'.drop ((List.Sublist.cons_cons _ (List.Sublist.cons _ (List.Sublist.refl _))))
    have hts2 := plains_of (xs := xs) hsg (newF sg) (new_mem sg) (fun x => x / 63 % 3) (fun x => by (first | lia | omega))
    have hrow2 := row_of hsg hh1 ht1 hi1 hi3 hxl (newF sg) (new_mem sg) (fun x => x / 63 % 3) (fun x => by (first | lia | omega))
    rw [spells_of hsg (newF sg) (new_mem sg) (fun x => x / 63 % 3) (fun x => by (first | lia | omega))] at hs2
    have hlen2 : (xs.map fun x => tkF (newF sg x) sg (x / 63 % 3)).length ≤ 3 := by simp; (first | lia | omega)
    have hlrow2 : (rowF hd tl (xs.map (newF sg))).length ≤ 8 := by have := row_len hd tl (xs.map (newF sg)); simp at this; (first | lia | omega)
    have hne2 : (xs.map fun x => tkF (newF sg x) sg (x / 63 % 3)) ≠ [] := fun e => by have := congrArg List.length e; simp at this; simp [this] at hpos
    generalize (xs.map fun x => tkF (newF sg x) sg (x / 63 % 3)) = ts2 at *
    (with_reducible refine seqNext ‹_› ?_)
    refine wpAny_execs_cons ?_
    have hsa2 : StrsAre (frv ++ s2 ++ env') ((edgeF hd ++ ts2.map Tk.sp ++ edgeF tl).map S) := by
      rw [List.map_append, List.map_append]; exact saApp (saApp hfrv hs2) henv
    have hed : ∀ n, (edgeF n).length ≤ 1 ∧ ∀ x ∈ edgeF n, x.length ≤ 5 := fun n => by unfold edgeF; split <;> simp
    (refine wpAny_Assign_Name ?_ (hs := by first | rfl | kernel_rfl); (with_reducible refine rCallN ?_; refine nG ‹_› ‹_› (by kernel_rfl) (by rfl) ‹_› ?_; refine rFn ‹_› (by with_unfolding_all rfl) ?_; refine rMore (by with_unfolding_all rfl) ?_; refine rCallN ?_; refine nG ‹_› ‹_› (by kernel_rfl) (by rfl) ‹_› ?_; refine rFn ‹_› (by with_unfolding_all rfl) ?_; refine rMore (by with_unfolding_all rfl) ?_; refine rMeth (by with_unfolding_all rfl) ?_; refine kStrS q16 ‹_› fun t' s' c9 => ?_; (try clear c'); rename Cx _ _ _ => c'; refine gmJoin ?_; refine rM1s (by with_unfolding_all rfl) ?_; refine rMore (by with_unfolding_all rfl) ?_; refine wpAny_BinOp ?_; refine wpAny_BinOp ?_; refine nL ‹_› (by kernel_rfl) (mm6 _ _ _ _ _ _ _ _) (mm2 _ _ _ _) ?_; refine nL ‹_› (by kernel_rfl) (mm6 _ _ _ _ _ _ _ _) (mm1 _ _ _) ?_; refine oAddL ‹_› (Cx.lat c' (mm3 _ _ _ _ _)) (Cx.lat c' (mm4 _ _ _ _ _ _)) (by first | assumption | (simp only [List.length_replicate]; wtm_at "zz_sz") | wtm_at "zz_sz") fun b' s' c9 => ?_; (try clear c'); rename Cx _ _ _ => c'; refine nL ‹_› (by kernel_rfl) (mm7 _ _ _ _ _ _ _ _ _) (mm3 _ _ _ _ _) ?_; refine oAddL ‹_› (Cx.lat c' (mm0 _ _)) (Cx.lat c' (mm3 _ _ _ _ _)) (by first | assumption | (simp only [List.length_replicate]; wtm_at "zz_sz") | wtm_at "zz_sz") fun b' s' c9 => ?_; (try clear c'); rename Cx _ _ _ => c'; refine spliced_none ?_); dsimp only)
    refine oJoin c' (c'.lat ((mm0 _ _))) hsa2 5 5 ?_ ?_ (by decide) (by decide) (fun t s' c' => ?_)
    · have h1 := (hed hd).1
      have h2 := (hed tl).1
      simp only [List.length_append, List.length_map]; (first | lia | omega)
    · intro x hx
      rcases List.mem_append.mp hx with hx | hx
      · rcases List.mem_append.mp hx with hx | hx
        · exact (hed hd).2 x hx
        · obtain ⟨t, ht, rfl⟩ := List.mem_map.mp hx
          exact (hts2 t ht).2
      · exact (hed tl).2 x hx
    rw [join_toks hne2 hd tl]
    have hok2 := ok_toks hne2 (fun t ht => (hts2 t ht).1) hd tl
    have hlt2 := len_toks hd tl ts2
    have hls2 := spell_len (sp_toks (b := 5) (by decide) (fun t ht => (hts2 t ht).2) hd tl)
    (with_reducible refine spliced_none ?_; refine ⟨Cx.keep ‹_›, ?_⟩)
    refine translate_ok (hR.le (by decide)) X Ftr c' (by simp only [List.mem_cons]; simp [hP]) (by (first | lia | omega)) (by (first | lia | omega)) hok2 (fun t s' c' => ?_)
    (with_reducible refine rMore (by with_unfolding_all rfl) ?_; refine nC ‹_› (by kernel_rfl) (by with_unfolding_all rfl) (mm11 _ _ _ _ _ _ _ _ _ _ _ _ _) ?_; refine spliced_none ?_; refine ⟨Cx.keep ‹_›, ?_⟩)
    have hjl2 := joinF_len (out_len hok2)
    rw [List.length_map] at hjl2
    refine read_ok (mg := mg) (rest := joinBody ((toksF hd tl ts2).map Tk.out) ++ [41, 92, 90]) (hR.le (by decide)) (Frd.keeps c'.keep) (G.keeps c'.keep) (by unfold joinF; simp) ⟨_, rfl⟩ (by (first | lia | omega)) hsg3 hasc (fun RW rv s' hrv d => ?_)
    replace c' := c'.trans d
    simp only [List.cons_append, List.nil_append] at c'
    change StrsAre rv ((readF sg (toksF hd tl ts2)).map S) at hrv
    rw [hrow2] at hrv
    (with_reducible refine sC ‹_› (by kernel_rfl) (by with_unfolding_all rfl) (mm10 _ _ _ _ _ _ _ _ _ _ _ _) (pt10 _ _ _ _ _ _ _ _ _ _ _ _) fun s' c9 => ?_; (try clear c'); rename Cx _ _ _ => c'; refine seqCons fun Q9 hQ9 => ?_)
    replace c' : Cx s₀ s' ((RW, Rs.lst rv) :: (TK, Rs.lst kv1) :: (NA, Rs.lst nv) :: (EN, Rs.lst env') :: (FR, Rs.lst frv) :: (SD, Rs.lst s2) :: (FI, Rs.lst fv) :: (L, Rs.ns (("first", some (.ref FI)) :: ("second", some (.ref SD)) :: ("front", some (.ref FR)) :: ("end", some (.ref EN)) :: ("taken", some (.ref TK)) :: ("other", none) :: lr)) :: (ad.row, Rs.cell (some (.ref RW))) :: (ad.names, Rs.cell (some (.ref NA))) :: (ad.signs, Rs.cell (some (.str (S sg) tsg))) :: T) := c'.drop ((List.Sublist.cons_cons _ (List.Sublist.cons _ (List.Sublist.cons _ (List.Sublist.refl _)))))
    refine compUse (s₀ := s₀) (cl := [("row", ad.row)]) (by kernel_rfl) (by with_unfolding_all rfl) (by decide +kernel) rfl (by decide +kernel) (by decide +kernel) (by kernel_rfl) ?_
    (with_reducible refine nC ‹_› (by kernel_rfl) (by with_unfolding_all rfl) (mm9 _ _ _ _ _ _ _ _ _ _ _) ?_)
    refine useListA (items := names3 sg) (takesF (rowF hd tl (xs.map (newF sg)))) (fun pre acc => StrsAre acc (pre.map S)) c' hR.handled (fun s c => c.lat ((mm2 _ _ _ _))) hnv (by rw [len_names3 sg hsg3]; decide) .nil ((mm7 _ _ _ _ _ _ _ _ _)) ?_ ?_
    · rintro C D' it' r' acc pre xi v s E hxi ⟨t, rfl⟩ hacc c'
      obtain ⟨na, nb, nc, rfl, _⟩ := names3_mem hxi
      (with_reducible refine tests1 ?_; refine rTest (by with_unfolding_all rfl) ?_; refine rCallN ?_; refine nG ‹_› ‹_› (by kernel_rfl) (by rfl) ‹_› ?_; refine fnV ‹_› ‹_› (Ats.cons (AtV.cell (by kernel_rfl) (by with_unfolding_all rfl) (mm11 _ _ _ _ _ _ _ _ _ _ _ _ _)) (Ats.cons (AtV.loc (by kernel_rfl) (mm0 _ _) (mm0 _ _)) Ats.nil)) ?_)
      refine takes_ok (mg := mg) hftk' _ rfl (hR.le (by (first | lia | omega))) (Ftk.keeps c'.keep) (G.keeps c'.keep) (c'.lat ((mm3 _ _ _ _ _))) hrv (by (first | lia | omega)) (by simp) (fun s' hkp => ?_)
      replace c' := c'.keeps hkp
      cases hk : takesF (rowF hd tl (xs.map (newF sg))) [na, nb, nc] with
      | true =>
        (with_reducible refine wpAny_truthy_bool ?_; refine andT ?_; refine iteT ?_; refine nL ‹_› (by kernel_rfl) (mm0 _ _) (mm0 _ _) ?_)
        exact ⟨saApp1 hacc, c'⟩
      | false =>
        (with_reducible refine wpAny_truthy_bool ?_)
        exact ⟨rfl, c'⟩
    intro OT kv2 hkv2
    refine ⟨_, _, (pv5 _ _ _ _ _ _ _), (pt7 _ _ _ _ _ _ _ _ _), fun s' c' => ?_⟩
    (with_reducible refine seqNext ‹_› ?_)
    exact next _ OT TK kv1 kv2 _ hkv1 hkv2 (c'.drop ((List.Sublist.cons_cons _ (List.Sublist.cons _ (List.Sublist.refl _)))))
end
section
set_option maxRecDepth 100000
set_option maxHeartbeats 4000000
open PySem PySem.W PyProof.Rows PySem.Calls
theorem law_s5 {mg mb : Str → Option Value} {w : World} {cd P f : Addr} {A : Around} {QQ : Flow → Shared → Prop} {EE : Value → Shared → Prop} {s₀ s : Shared} {T : Tab} {fr : List Env} {lr : List (Str × Option Value)} {L : Addr} {ad : LC} {code : Value}
    (hR : Room A 19) (X : Top1 w mg mb s₀.heap cd P) (hP : (P, tabR) ∈ T) (hfr' : A.frames = some ((envC dLaw L f code (cellsOf ad)) :: fr)) (hF : FrOk T fr) (hQ : ∀ s', Cx s₀ s' T → QQ (.ret (.bool true)) s') {PA KE NA : Addr} {th tt : Tok} {sg : List Nat} {hd tl inn : Nat} {xs : List Nat} {pv kv nv : List Value} {kept : List (List Nat)}
    (hsg : goodSg sg) (hh1 : hd ≤ 1) (ht1 : tl ≤ 1) (hi1 : 1 ≤ inn) (hi3 : hd + inn + tl ≤ 3) (hxl : xs.length = hd + inn + tl) (hpv : PairsIn pv (xs.map (pairF sg)) T)
    (hnv : StrsAre nv ((names3 sg).map S)) (hkv : StrsAre kv (kept.map S))
    (next : ∀ (s : Shared) (DU MO : Addr) (dw mv : List Value) (ds : List (List Nat)), StrsAre mv (((names3 sg).map (dressF (xs.map (pairF sg)) hd tl)).map S) → StrsAre dw (ds.map S) → riseL ds →
      ds.Perm (((List.range 27).filter fun k => kept.contains ((names3 sg)[k]?.getD [])).map fun k => ((names3 sg).map (dressF (xs.map (pairF sg)) hd tl))[k]?.getD []) → Cx s₀ s ((DU, Rs.lst dw) :: (MO, Rs.lst mv) :: (KE, Rs.lst kv) :: (NA, Rs.lst nv) :: (PA, Rs.lst pv) :: (L, Rs.ns (lr)) :: (ad.due, Rs.cell (some (.ref DU))) :: (ad.moved, Rs.cell (some (.ref MO))) :: (ad.kept, Rs.cell (some (.ref KE))) :: (ad.names, Rs.cell (some (.ref NA))) :: (ad.pairs, Rs.cell (some (.ref PA))) :: (ad.tail, Rs.cell (some (.int (tl : Nat) tt))) :: (ad.head, Rs.cell (some (.int (hd : Nat) th))) :: T) → wpAny (model PW w) A (execs (dLaw.body.drop 21) (envC dLaw L f code (cellsOf ad))) QQ EE s)
    (c' : Cx s₀ s ((KE, Rs.lst kv) :: (NA, Rs.lst nv) :: (PA, Rs.lst pv) :: (L, Rs.ns (lr)) :: (ad.due, Rs.cell none) :: (ad.moved, Rs.cell none) :: (ad.kept, Rs.cell (some (.ref KE))) :: (ad.names, Rs.cell (some (.ref NA))) :: (ad.pairs, Rs.cell (some (.ref PA))) :: (ad.tail, Rs.cell (some (.int (tl : Nat) tt))) :: (ad.head, Rs.cell (some (.int (hd : Nat) th))) :: T)) : wpAny (model PW w) A (execs (dLaw.body.drop 19) (envC dLaw L f code (cellsOf ad))) QQ EE s := by
    have G := X.g
    obtain ⟨fdr, hfdr, Fdr⟩ := G.fn dDress (by simp [dAll])
    have hfdr' : mg "_law_dress" = some (.ref fdr) := hfdr
    obtain ⟨hasc, hsg3⟩ := good_asc hsg
    have hnl : (names3 sg).length = 27 := len_names3 sg hsg3
    have hnvl : nv.length = 27 := by have := saLen hnv; rw [List.length_map, hnl] at this; exact this
    have hpp : ∀ p ∈ xs.map (pairF sg), p.1.length = 3 ∧ p.2.1.length = 3 ∧ ∀ ch ∈ sg, ch ∈ p.1 := by
      intro p hp
      obtain ⟨x, _, rfl⟩ := List.mem_map.mp hp
      obtain ⟨_, _, h1, h2, _⟩ := sets_facts hsg _ (old_mem sg x)
      obtain ⟨_, _, h3, _⟩ := sets_facts hsg _ (new_mem sg x)
      exact ⟨h1, h3, h2⟩
    have hpl : (xs.map (pairF sg)).length ≤ 3 ∧ 1 ≤ (xs.map (pairF sg)).length := by rw [List.length_map]; (first | lia | omega)
    generalize xs.map (pairF sg) = ps at *
    refine seqCons ?_
    intro Q7 hQ7
    (refine wpAny_Assign_Name ?_ (hs := by first | rfl | kernel_rfl))
    refine compW (s₀ := s₀) (cl := _) (by with_unfolding_all rfl) (by decide +kernel) rfl (by decide +kernel) (by decide +kernel) ?_
    (with_reducible refine nC ‹_› (by kernel_rfl) (by with_unfolding_all rfl) (mm7 _ _ _ _ _ _ _ _ _) ?_)
    refine readyList (items := names3 sg) (p := fun _ => true) (f := dressF ps hd tl) c' hR.handled (fun s c => c.lat ((mm1 _ _ _))) hnv (by rw [hnl]; decide) ?_ ?_
    · intro C D' it' r' acc xi t s E hx c'
      obtain ⟨na, nb, nc, rfl, ha, hb, hc⟩ := names3_mem hx
      (with_reducible refine tests0 ?_; refine andT ?_; refine iteT ?_; refine rCallN ?_; refine nG ‹_› ‹_› (by kernel_rfl) (by rfl) ‹_› ?_; refine fnV ‹_› ‹_› (Ats.cons (AtV.loc (by kernel_rfl) (mm0 _ _) (mm0 _ _)) (Ats.cons (AtV.cell (by kernel_rfl) (by with_unfolding_all rfl) (mm11 _ _ _ _ _ _ _ _ _ _ _ _ _)) (Ats.cons (AtV.cell (by kernel_rfl) (by with_unfolding_all rfl) (mm13 _ _ _ _ _ _ _ _ _ _ _ _ _ _ _)) (Ats.cons (AtV.cell (by kernel_rfl) (by with_unfolding_all rfl) (mm12 _ _ _ _ _ _ _ _ _ _ _ _ _ _)) Ats.nil)))) ?_)
      refine dress_ok (mg := mg) (hR.le (by decide)) (Fdr.keeps c'.keep) (G.keeps c'.keep) (c'.lat ((mm5 _ _ _ _ _ _ _))) (hpv.at (c'.drop ((List.Sublist.cons _ (List.Sublist.cons _ (List.Sublist.cons _ (List.Sublist.cons _ (List.Sublist.cons _ (List.Sublist.cons _ (List.Sublist.cons _ (List.Sublist.cons _ (List.Sublist.cons _ (List.Sublist.cons _ (List.Sublist.cons _ (List.Sublist.cons _ (List.Sublist.cons _ (List.Sublist.cons _ (List.Sublist.refl _)))))))))))))))))) (by (first | lia | omega)) rfl hpl.2 (by (first | lia | omega)) (by (first | lia | omega)) (fun p hp => ⟨(hpp p hp).1, (hpp p hp).2.1, fun ch hch => (hpp p hp).2.2 ch ?_⟩) (fun t s' hkp => ?_)
      · simp only [List.mem_cons, List.not_mem_nil, or_false] at hch
        rcases hch with rfl | rfl | rfl <;> assumption
      · exact ⟨_, rfl, c'.keeps hkp⟩
    intro MO mv s' hmv c'
    rw [List.filter_eq_self.mpr (fun _ _ => rfl)] at hmv
    have hmvl : mv.length = 27 := by have := saLen hmv; rw [List.length_map, List.length_map, hnl] at this; exact this
    ((with_reducible refine sC ‹_› (by kernel_rfl) (by with_unfolding_all rfl) (mm6 _ _ _ _ _ _ _ _) (pt6 _ _ _ _ _ _ _ _) fun s' c9 => ?_; (try clear c'); rename Cx _ _ _ => c'; refine seqNext ‹_› ?_; refine seqCons fun Q9 hQ9 => ?_); refine wpAny_Assign_Name ?_ (hs := by first | rfl | kernel_rfl); (with_reducible refine rCallN ?_; refine nB ‹_› ‹_› (by kernel_rfl) (by rfl) (by rfl) (mm3 _ _ _ _ _) ?_; refine rB1 (by with_unfolding_all rfl) ?_; refine rMore (by with_unfolding_all rfl) ?_))
    refine compW (s₀ := s₀) (cl := _) (by with_unfolding_all rfl) (by decide +kernel) rfl (by decide +kernel) (by decide +kernel) ?_
    (with_reducible refine rCallN ?_; refine nB ‹_› ‹_› (by kernel_rfl) (by rfl) (by rfl) (mm1 _ _ _) ?_; refine rT1 (by with_unfolding_all rfl) ?_; refine rMore (by with_unfolding_all rfl) ?_; refine kInt ‹_› fun t' s' c9 => ?_; (try clear c'); rename Cx _ _ _ => c'; refine spliced_none ?_; refine rangeIter1 ‹_› (by first | assumption | omega | wtm_at "zz_sz") (by first | assumption | omega | wtm_at "zz_sz") fun it' s' c9 => ?_; (try clear c'); rename Cx _ _ _ => c')
    refine readyRange2 (n := 27) (fun k => kept.contains ((names3 sg)[k]?.getD [])) (fun pre acc => StrsAre acc ((pre.map fun k => ((names3 sg).map (dressF ps hd tl))[k]?.getD []).map S)) c' hR.handled (by decide) .nil ?_ ?_
    · rintro C D' it' r' acc pre k v s E hk ⟨tk, rfl⟩ hacc c'
      have hk27 : k < 27 := by simpa using hk
      obtain ⟨nm, hnm⟩ : ∃ x, (names3 sg)[k]? = some x := ⟨_, List.getElem?_eq_getElem (by (first | lia | omega))⟩
      obtain ⟨tnm, htnm⟩ := saGet hnv (i := k) (y := S nm) (by simp [hnm])
      obtain ⟨md, hmd⟩ : ∃ x, ((names3 sg).map (dressF ps hd tl))[k]? = some x := ⟨_, List.getElem?_eq_getElem (by simp; (first | lia | omega))⟩
      obtain ⟨tmd, htmd⟩ := saGet hmv (i := k) (y := S md) (by rw [List.getElem?_map, hmd]; rfl)
      (with_reducible refine tests1 ?_; refine wpAny_isTrue_Compare1 ?_; refine evSub ‹_› (AtV.cell (by kernel_rfl) (by with_unfolding_all rfl) (mm11 _ _ _ _ _ _ _ _ _ _ _ _ _)) (AtI.val (AtV.loc (by kernel_rfl) (mm0 _ _) (mm0 _ _))) fun t' s' c9 => ?_; (try clear c'); rename Cx _ _ _ => c')
      refine oItemL (v := .str (S nm) tnm) (c'.lat ((mm5 _ _ _ _ _ _ _))) (by (first | lia | omega)) (by (first | lia | omega)) (by rw [Int.toNat_natCast]; exact htnm) rfl ?_
      (with_reducible refine nC ‹_› (by kernel_rfl) (by with_unfolding_all rfl) (mm10 _ _ _ _ _ _ _ _ _ _ _ _) ?_; refine oInLS (Cx.lat c' (mm4 _ _ _ _ _ _)) ‹_› ?_; refine wpAny_truthy_bool ?_)
      rw [hnm]
      show _ = kept.contains nm ∧ _
      cases hk : kept.contains nm with
      | true =>
        (with_reducible refine andT ?_; refine iteT ?_; refine evSub ‹_› (AtV.cell (by kernel_rfl) (by with_unfolding_all rfl) (mm9 _ _ _ _ _ _ _ _ _ _ _)) (AtI.val (AtV.loc (by kernel_rfl) (mm0 _ _) (mm0 _ _))) fun t' s' c9 => ?_; (try clear c'); rename Cx _ _ _ => c')
        refine oItemL (v := .str (S md) tmd) (c'.lat ((mm3 _ _ _ _ _))) (by (first | lia | omega)) (by (first | lia | omega)) (by rw [Int.toNat_natCast]; exact htmd) rfl ?_
        refine ⟨?_, c'⟩
        rw [List.map_append, List.map_cons, List.map_nil, hmd]
        exact saApp1 hacc
      | false =>
        skip
        exact ⟨rfl, c'⟩
    intro DR dr s' hdr c'
    (with_reducible refine spliced_none ?_)
    refine oSortL c' (c'.lat ((mm0 _ _))) hdr (by rw [List.length_map]; exact Nat.lt_of_le_of_lt (List.length_filter_le _ _) (by simp)) (fun DU s' dw ds hdw hperm hrise c' => ?_)
    (with_reducible refine sC ‹_› (by kernel_rfl) (by with_unfolding_all rfl) (mm7 _ _ _ _ _ _ _ _ _) (pt7 _ _ _ _ _ _ _ _ _) fun s' c9 => ?_; (try clear c'); rename Cx _ _ _ => c')
    (with_reducible refine seqNext ‹_› ?_)
    exact next _ DU MO dw mv ds hmv hdw hrise hperm (c'.drop ((List.Sublist.cons_cons _ (List.Sublist.cons _ (List.Sublist.refl _)))))
end
section
set_option maxRecDepth 100000
set_option maxHeartbeats 4000000
open PySem PySem.W PyProof.Rows PySem.Calls
open Builtin.Int (intBits)
theorem law_s6 {mg mb : Str → Option Value} {w : World} {cd P f : Addr} {A : Around} {QQ : Flow → Shared → Prop} {EE : Value → Shared → Prop} {s₀ s : Shared} {T : Tab} {fr : List Env} {lr : List (Str × Option Value)} {L : Addr} {ad : LC} {code : Value}
    (hR : Room A 19) (X : Top1 w mg mb s₀.heap cd P) (hP : (P, tabR) ∈ T) (hfr' : A.frames = some ((envC dLaw L f code (cellsOf ad)) :: fr)) (hF : FrOk T fr) (hQ : ∀ s', Cx s₀ s' T → QQ (.ret (.bool true)) s') {O KE NA OT TK DU MO : Addr} {th tt : Tok}  {hd tl inn : Nat} {ov kv nv kv1 kv2 dw mv : List Value} {olds names kept taken other moved ds : List (List Nat)}
    (hh1 : hd ≤ 1) (ht1 : tl ≤ 1) (hi1 : 1 ≤ inn) (hi3 : hd + inn + tl ≤ 3) (holl : olds.length = hd + inn + tl) (ho3 : ∀ m ∈ olds, m.length ≤ 3)
    (hov : StrsAre ov (olds.map S)) (hnv : StrsAre nv (names.map S)) (hkv : StrsAre kv (kept.map S)) (hkv1 : StrsAre kv1 (taken.map S)) (hkv2 : StrsAre kv2 (other.map S)) (hmv : StrsAre mv (moved.map S)) (hdw : StrsAre dw (ds.map S))
    (hn27 : names.length = 27) (hm27 : moved.length = 27) (hk27 : kept.length ≤ 27) (hsub : ∀ x ∈ taken, x ∈ names) (hnd : taken.Nodup) (hnd2 : other.Nodup)
    (P1 : taken = kept) (P2 : other = ds) (P3 : (taken.length : Int) = countF (olds.map fun m => (m.length : Int)) hd tl) (P4 : dedupF moved = moved) (P5 : uldF moved names = ([], []))
    (P6 : cmpF (taken.map fun nm => moved[names.idxOf nm]?.getD []) (other ++ other.take 1) = true) (P7 : sldF taken other = (kept.filter (fun x => !ds.contains x), ds.filter (fun x => !kept.contains x))) (P8 : cmpF taken other = decide (kept = ds)) (hd27 : ds.length ≤ 27)
    (c' : Cx s₀ s ((DU, Rs.lst dw) :: (MO, Rs.lst mv) :: (OT, Rs.lst kv2) :: (TK, Rs.lst kv1) :: (KE, Rs.lst kv) :: (NA, Rs.lst nv) :: (O, Rs.lst ov) :: (L, Rs.ns (("taken", some (.ref TK)) :: ("other", some (.ref OT)) :: lr)) :: (ad.due, Rs.cell (some (.ref DU))) :: (ad.moved, Rs.cell (some (.ref MO))) :: (ad.kept, Rs.cell (some (.ref KE))) :: (ad.names, Rs.cell (some (.ref NA))) :: (ad.olds, Rs.cell (some (.ref O))) :: (ad.tail, Rs.cell (some (.int (tl : Nat) tt))) :: (ad.head, Rs.cell (some (.int (hd : Nat) th))) :: T)) : wpAny (model PW w) A (execs (dLaw.body.drop 21) (envC dLaw L f code (cellsOf ad))) QQ EE s := by
    have G := X.g
    obtain ⟨fct, hfct, Fct⟩ := G.fn dCount (by simp [dAll])
    have hfct' : mg "_law_count" = some (.ref fct) := hfct
    obtain ⟨fdd, hfdd, Fdd⟩ := G.fn dDedup (by simp [dAll])
    have hfdd' : mg "_deduplicate_unhashable" = some (.ref fdd) := hfdd
    obtain ⟨ful, hful, Ful⟩ := G.fn dUld (by simp [dAll])
    have hful' : mg "unorderable_list_difference" = some (.ref ful) := hful
    obtain ⟨fcm, hfcm, Fcm⟩ := G.fn dCmp (by simp [dAll])
    have hfcm' : mg "_compare_args_orderless" = some (.ref fcm) := hfcm
    obtain ⟨fsl, hfsl, Fsl⟩ := G.fn dSld (by simp [dAll])
    have hfsl' : mg "sorted_list_difference" = some (.ref fsl) := hfsl
    have ht27 : taken.length ≤ 27 := by rw [P1]; exact hk27
    have hot27 : other.length ≤ 27 := by rw [P2]; exact hd27
    have l1 : ov.length = olds.length := by simpa using saLen hov
    have l2 : nv.length = names.length := by simpa using saLen hnv
    have l3 : kv.length = kept.length := by simpa using saLen hkv
    have l4 : kv1.length = taken.length := by simpa using saLen hkv1
    have l5 : kv2.length = other.length := by simpa using saLen hkv2
    have l6 : mv.length = moved.length := by simpa using saLen hmv
    have l7 : dw.length = ds.length := by simpa using saLen hdw
    refine seqCons ?_
    intro Q7 hQ7
    (with_reducible refine wpAny_If ?_; refine isTrue_or ?_; refine wpAny_isTrue_Compare1 ?_; refine nL ‹_› (by kernel_rfl) (mm7 _ _ _ _ _ _ _ _ _) (mm0 _ _) ?_; refine nC ‹_› (by kernel_rfl) (by with_unfolding_all rfl) (mm10 _ _ _ _ _ _ _ _ _ _ _ _) ?_; refine oNeLL (Room.u ‹_›) (Cx.lat c' (mm3 _ _ _ _ _)) (Cx.lat c' (mm4 _ _ _ _ _ _)) ‹_› ‹_› ?_; refine wpAny_truthy_bool ?_)
    first | refine iteDT P1 ?_ | rw [decide_eq_true P1]
    (with_reducible refine iteNF ?_; refine isTrue_or ?_; refine wpAny_isTrue_Compare1 ?_; refine nL ‹_› (by kernel_rfl) (mm7 _ _ _ _ _ _ _ _ _) (mm1 _ _ _) ?_; refine nC ‹_› (by kernel_rfl) (by with_unfolding_all rfl) (mm8 _ _ _ _ _ _ _ _ _ _) ?_; refine oNeLL (Room.u ‹_›) (Cx.lat c' (mm2 _ _ _ _)) (Cx.lat c' (mm0 _ _)) ‹_› ‹_› ?_; refine wpAny_truthy_bool ?_)
    first | refine iteDT P2 ?_ | rw [decide_eq_true P2]
    (with_reducible refine iteNF ?_; refine isTrue_or ?_; refine wpAny_isTrue_Compare1 ?_; refine rCallN ?_; refine nB ‹_› ‹_› (by kernel_rfl) (by rfl) (by rfl) (mm0 _ _) ?_; refine blV ‹_› (Ats.cons (AtV.loc (by kernel_rfl) (mm7 _ _ _ _ _ _ _ _ _) (mm0 _ _)) Ats.nil) ?_; refine oLenL ‹_› (Cx.lat c' (mm3 _ _ _ _ _)) (by first | assumption | wtm_at "zz_sz") fun t' s' c9 => ?_; (try clear c'); rename Cx _ _ _ => c'; refine rCallN ?_; refine nG ‹_› ‹_› (by kernel_rfl) (by rfl) ‹_› ?_; refine rFn ‹_› (by with_unfolding_all rfl) ?_; refine rMore (by with_unfolding_all rfl) ?_)
    refine compW (s₀ := s₀) (cl := _) (by with_unfolding_all rfl) (by decide +kernel) rfl (by decide +kernel) (by decide +kernel) ?_
    (with_reducible refine nC ‹_› (by kernel_rfl) (by with_unfolding_all rfl) (mm12 _ _ _ _ _ _ _ _ _ _ _ _ _ _) ?_)
    refine readyListA (items := olds) (fun _ => true) (fun pre acc => IntsAre acc (pre.map fun m => (m.length : Int))) c' hR.handled (fun s c => c.lat ((mm6 _ _ _ _ _ _ _ _))) hov (by unfold sizeLine; (first | lia | omega)) .nil ?_ ?_
    · rintro C D' it' r' acc pre xi v s E hxi ⟨t, rfl⟩ hacc c'
      have hx3 := ho3 xi hxi
      (with_reducible refine tests0 ?_; refine andT ?_; refine iteT ?_; refine rCallN ?_; refine nB ‹_› ‹_› (by kernel_rfl) (by rfl) (by rfl) (mm0 _ _) ?_; refine blV ‹_› (Ats.cons (AtV.loc (by kernel_rfl) (mm0 _ _) (mm0 _ _)) Ats.nil) ?_; refine oLenSS ‹_› (by first | assumption | wtm_at "zz_sz") fun t' s' c9 => ?_; (try clear c'); rename Cx _ _ _ => c')
      exact ⟨by rw [List.map_append]; exact iaApp hacc (.cons _ _ .nil), c'⟩
    intro SZ sz s' hsz c'
    rw [List.filter_eq_self.mpr (fun _ _ => rfl)] at hsz
    have hszl := iaLen hsz
    (with_reducible refine rMore (by with_unfolding_all rfl) ?_; refine nC ‹_› (by kernel_rfl) (by with_unfolding_all rfl) (mm15 _ _ _ _ _ _ _ _ _ _ _ _ _ _ _ _ _) ?_; refine rMore (by with_unfolding_all rfl) ?_; refine nC ‹_› (by kernel_rfl) (by with_unfolding_all rfl) (mm14 _ _ _ _ _ _ _ _ _ _ _ _ _ _ _ _) ?_; refine spliced_none ?_; refine ⟨Cx.keep ‹_›, ?_⟩)
    refine count_ok (mg := mg) (hR.le (by decide)) (Fct.keeps c'.keep) (G.keeps c'.keep) (c'.lat ((mm0 _ _))) hsz (by simp; (first | lia | omega)) ht1 hh1 (by simp; (first | lia | omega)) ?_ (fun t s' hkp => ?_)
    · intro x hx
      obtain ⟨m, hm, rfl⟩ := List.mem_map.mp hx
      have := ho3 m hm
      have h4 : m.length = 0 ∨ m.length = 1 ∨ m.length = 2 ∨ m.length = 3 := by (first | lia | omega)
      rcases h4 with h | h | h | h <;> rw [h] <;> decide
    replace c' := (c'.keeps hkp).tail rfl
    (with_reducible refine oNeI ?_; refine wpAny_truthy_bool ?_)
    rw [l4, decide_eq_true P3]
    (with_reducible refine iteNF ?_; refine isTrue_or_nil ?_; refine iteF ?_; refine wpAny_execs_nil ?_; refine seqNext ‹_› ?_; refine seqCons fun Q9 hQ9 => ?_; refine wpAny_If ?_; refine isTrue_or ?_; refine wpAny_isTrue_Compare1 ?_; refine rCallN ?_; refine nG ‹_› ‹_› (by kernel_rfl) (by rfl) ‹_› ?_; refine fnV ‹_› ‹_› (Ats.cons (AtV.cell (by kernel_rfl) (by with_unfolding_all rfl) (mm9 _ _ _ _ _ _ _ _ _ _ _)) Ats.nil) ?_)
    refine dedup_ok (mg := mg) (hR.le (by decide)) (Fdd.keeps c'.keep) (G.keeps c'.keep) (c'.lat ((mm1 _ _ _))) hmv (by (first | lia | omega)) (fun DD dd s' hdd d => ?_)
    replace c' := c'.trans d
    simp only [List.cons_append, List.nil_append] at c'
    clear d
    rw [P4] at hdd
    (with_reducible refine nC ‹_› (by kernel_rfl) (by with_unfolding_all rfl) (mm10 _ _ _ _ _ _ _ _ _ _ _ _) ?_; refine oNeLL (Room.u ‹_›) (Cx.lat c' (mm0 _ _)) (Cx.lat c' (mm2 _ _ _ _)) ‹_› ‹_› ?_; refine wpAny_truthy_bool ?_)
    first | refine iteDT rfl ?_ | rw [decide_eq_true rfl]
    (with_reducible refine iteNF ?_; refine isTrue_or ?_; refine wpAny_isTrue_Compare1 ?_; refine rCallN ?_; refine nG ‹_› ‹_› (by kernel_rfl) (by rfl) ‹_› ?_; refine rFn ‹_› (by with_unfolding_all rfl) ?_; refine rMore (by with_unfolding_all rfl) ?_; refine rCallN ?_; refine nB ‹_› ‹_› (by kernel_rfl) (by rfl) (by rfl) (mm2 _ _ _ _) ?_; refine rT1 (by with_unfolding_all rfl) ?_; refine rMore (by with_unfolding_all rfl) ?_; refine nC ‹_› (by kernel_rfl) (by with_unfolding_all rfl) (mm10 _ _ _ _ _ _ _ _ _ _ _ _) ?_; refine spliced_none ?_; refine oCopyL ‹_› (Cx.lat c' (mm2 _ _ _ _)) (by first | assumption | wtm_at "zz_sz") fun b' s' c9 => ?_; (try clear c'); rename Cx _ _ _ => c'; refine rMore (by with_unfolding_all rfl) ?_; refine rCallN ?_; refine nB ‹_› ‹_› (by kernel_rfl) (by rfl) (by rfl) (mm2 _ _ _ _) ?_; refine rT1 (by with_unfolding_all rfl) ?_; refine rMore (by with_unfolding_all rfl) ?_; refine nC ‹_› (by kernel_rfl) (by with_unfolding_all rfl) (mm13 _ _ _ _ _ _ _ _ _ _ _ _ _ _ _) ?_; refine spliced_none ?_; refine oCopyL ‹_› (Cx.lat c' (mm7 _ _ _ _ _ _ _ _ _)) (by first | assumption | wtm_at "zz_sz") fun b' s' c9 => ?_; (try clear c'); rename Cx _ _ _ => c'; refine spliced_none ?_; refine ⟨Cx.keep ‹_›, ?_⟩)
    refine uld_ok (hR.le (by decide)) Ful G c' hfr' (FrOk.cons (hF.sub fun p hp => (List.mem_cons_of_mem _ (List.mem_cons_of_mem _ (List.mem_cons_of_mem _ (List.mem_cons_of_mem _ (List.mem_cons_of_mem _ (List.mem_cons_of_mem _ (List.mem_cons_of_mem _ (List.mem_cons_of_mem _ (List.mem_cons_of_mem _ (List.mem_cons_of_mem _ (List.mem_cons_of_mem _ (List.mem_cons_of_mem _ (List.mem_cons_of_mem _ (List.mem_cons_of_mem _ (List.mem_cons_of_mem _ (List.mem_cons_of_mem _ ‹_›))))))))))))))))) (show dLaw.scope.kind ≠ _ by decide +kernel) rfl ((mm8 _ _ _ _ _ _ _ _ _ _))) hmv (by (first | lia | omega)) hnv (by (first | lia | omega)) (fun tp mi mw aw s' hmw haw c' => ?_)
    rw [P5] at hmw haw
    (with_reducible refine Tuple_ ?_; refine rMore (by with_unfolding_all rfl) ?_; refine List_ ?_; refine spliced_none ?_; refine oNewL ‹_› (by exact Nat.le_of_ble_eq_true rfl) fun b' s' c9 => ?_; (try clear c'); rename Cx _ _ _ => c'; refine rMore (by with_unfolding_all rfl) ?_; refine List_ ?_; refine spliced_none ?_; refine oNewL ‹_› (by exact Nat.le_of_ble_eq_true rfl) fun b' s' c9 => ?_; (try clear c'); rename Cx _ _ _ => c'; refine spliced_none ?_; refine oNewT ‹_› (by exact Nat.le_of_ble_eq_true rfl) fun b' s' c9 => ?_; (try clear c'); rename Cx _ _ _ => c')
    refine oNeT2 (xa := []) (ya := []) (xb := []) (yb := []) (by have := hR.units; (first | lia | omega)) (c'.tup ((mm3 _ _ _ _ _))) (c'.tup ((mm0 _ _))) ?_ ?_ (c'.lat ((mm4 _ _ _ _ _ _))) (c'.lat ((mm2 _ _ _ _))) (c'.lat ((mm5 _ _ _ _ _ _ _))) (c'.lat ((mm1 _ _ _))) hmw .nil haw .nil ?_
    · exact c'.ne2 (i := 4) (j := 2) rfl rfl (by decide)
    · exact c'.ne2 (i := 5) (j := 1) rfl rfl (by decide)
    replace c' : Cx s₀ s' ((DU, Rs.lst dw) :: (MO, Rs.lst mv) :: (OT, Rs.lst kv2) :: (TK, Rs.lst kv1) :: (KE, Rs.lst kv) :: (NA, Rs.lst nv) :: (O, Rs.lst ov) :: (L, Rs.ns (("taken", some (.ref TK)) :: ("other", some (.ref OT)) :: lr)) :: (ad.due, Rs.cell (some (.ref DU))) :: (ad.moved, Rs.cell (some (.ref MO))) :: (ad.kept, Rs.cell (some (.ref KE))) :: (ad.names, Rs.cell (some (.ref NA))) :: (ad.olds, Rs.cell (some (.ref O))) :: (ad.tail, Rs.cell (some (.int (tl : Nat) tt))) :: (ad.head, Rs.cell (some (.int (hd : Nat) th))) :: T) := c'.drop ((List.Sublist.cons _ (List.Sublist.cons _ (List.Sublist.cons _ (List.Sublist.cons _ (List.Sublist.cons _ (List.Sublist.cons _ (List.Sublist.cons _ (List.Sublist.refl _)))))))))
    rw [show (!(decide (([] : List (List Nat)) = []) && decide (([] : List (List Nat)) = []))) = false from rfl]
    (with_reducible refine wpAny_truthy_bool ?_; refine iteF ?_; refine isTrue_or_nil ?_; refine iteF ?_; refine wpAny_execs_nil ?_; refine seqNext ‹_› ?_; refine seqCons fun Q9 hQ9 => ?_; refine wpAny_If ?_; refine wpAny_isTrue_Compare1 ?_; refine rCallN ?_; refine nG ‹_› ‹_› (by kernel_rfl) (by rfl) ‹_› ?_; refine rFn ‹_› (by with_unfolding_all rfl) ?_; refine rMore (by with_unfolding_all rfl) ?_)
    refine compW (s₀ := s₀) (cl := _) (by with_unfolding_all rfl) (by decide +kernel) rfl (by decide +kernel) (by decide +kernel) ?_
    (with_reducible refine nL ‹_› (by kernel_rfl) (mm7 _ _ _ _ _ _ _ _ _) (mm0 _ _) ?_)
    refine readyList (items := taken) (p := fun _ => true) (f := fun nm => moved[names.idxOf nm]?.getD []) c' hR.handled (fun s c => c.lat ((mm3 _ _ _ _ _))) hkv1 (by unfold sizeLine; (first | lia | omega)) ?_ ?_
    · intro C D' it' r' acc xi t s E hx c'
      have hin := hsub xi hx
      have hj := List.idxOf_lt_length_iff.mpr hin
      obtain ⟨md, hmd⟩ : ∃ x, moved[names.idxOf xi]? = some x := ⟨_, List.getElem?_eq_getElem (by (first | lia | omega))⟩
      obtain ⟨tmd, htmd⟩ := saGet hmv (i := names.idxOf xi) (y := S md) (by simp [hmd])
      (with_reducible refine tests0 ?_; refine andT ?_; refine iteT ?_; refine Subscript_ ?_; refine nC ‹_› (by kernel_rfl) (by with_unfolding_all rfl) (mm12 _ _ _ _ _ _ _ _ _ _ _ _ _ _) ?_; refine rMeth (by with_unfolding_all rfl) ?_; refine nC ‹_› (by kernel_rfl) (by with_unfolding_all rfl) (mm14 _ _ _ _ _ _ _ _ _ _ _ _ _ _ _ _) ?_; refine gmIdxL (Cx.lat c' (mm8 _ _ _ _ _ _ _ _ _ _)) ?_; refine rM1s (by with_unfolding_all rfl) ?_; refine rMore (by with_unfolding_all rfl) ?_; refine nL ‹_› (by kernel_rfl) (mm0 _ _) (mm0 _ _) ?_; refine spliced_none ?_)
      refine oIdxLS c' (c'.lat ((mm8 _ _ _ _ _ _ _ _ _ _))) hnv (by (first | lia | omega)) hin (fun t' s' c' => ?_)
      skip
      refine oItemL (v := .str (S md) tmd) (c'.lat ((mm4 _ _ _ _ _ _))) (by (first | lia | omega)) (by (first | lia | omega)) (by rw [Int.toNat_natCast]; exact htmd) rfl ?_
      exact ⟨_, by rw [hmd]; rfl, c'⟩
    intro MV mw2 s' hmw2 c'
    rw [List.filter_eq_self.mpr (fun _ _ => rfl)] at hmw2
    (with_reducible refine rMore (by with_unfolding_all rfl) ?_; refine wpAny_BinOp ?_; refine nL ‹_› (by kernel_rfl) (mm8 _ _ _ _ _ _ _ _ _ _) (mm1 _ _ _) ?_; refine evCL ‹_› (AtV.loc (by kernel_rfl) (mm8 _ _ _ _ _ _ _ _ _ _) (mm1 _ _ _)) AtP.none (AtP.some AtI.const) (fun s' c9 => (Cx.lat ‹_› (mm3 _ _ _ _ _))) (by first | assumption | wtm_at "zz_sz") (by intro _; with_unfolding_all rfl) (by intro _ _; with_unfolding_all rfl) fun b' s' c9 => ?_; (try clear c'); rename Cx _ _ _ => c')
    have hcut1 : cutL kv2 none (some 1) = kv2.take 1 := cut_head kv2 1
    rw [hcut1] at c'
    have hsa2 : StrsAre (kv2 ++ kv2.take 1) ((other ++ other.take 1).map S) := by
      have h1 := saTake hkv2 1
      rw [← List.map_take] at h1
      rw [List.map_append]; exact saApp hkv2 h1
    have hcz : kv2.length + (kv2.take 1).length ≤ sizeLine := by rw [List.length_take]; unfold sizeLine; (first | lia | omega)
    (with_reducible refine oAddL ‹_› (Cx.lat c' (mm4 _ _ _ _ _ _)) (Cx.lat c' (mm0 _ _)) (by first | assumption | (simp only [List.length_replicate]; wtm_at "zz_sz") | wtm_at "zz_sz") fun b' s' c9 => ?_; (try clear c'); rename Cx _ _ _ => c'; refine spliced_none ?_; refine ⟨Cx.keep ‹_›, ?_⟩)
    refine cmp_ok hfdd' (hR.le (by decide)) Fcm Fdd G c' hfr' (FrOk.cons (hF.sub fun p hp => (List.mem_cons_of_mem _ (List.mem_cons_of_mem _ (List.mem_cons_of_mem _ (List.mem_cons_of_mem _ (List.mem_cons_of_mem _ (List.mem_cons_of_mem _ (List.mem_cons_of_mem _ (List.mem_cons_of_mem _ (List.mem_cons_of_mem _ (List.mem_cons_of_mem _ (List.mem_cons_of_mem _ (List.mem_cons_of_mem _ (List.mem_cons_of_mem _ (List.mem_cons_of_mem _ (List.mem_cons_of_mem _ (List.mem_cons_of_mem _ (List.mem_cons_of_mem _ (List.mem_cons_of_mem _ ‹_›))))))))))))))))))) (show dLaw.scope.kind ≠ _ by decide +kernel) rfl ((mm10 _ _ _ _ _ _ _ _ _ _ _ _))) (fun s c => c.lat ((mm2 _ _ _ _))) hmw2 (by simp; (first | lia | omega)) (fun s c => c.lat ((mm0 _ _))) hsa2 (by simp; (first | lia | omega)) (fun s' c' => ?_)
    rw [P6]
    replace c' : Cx s₀ s' ((DU, Rs.lst dw) :: (MO, Rs.lst mv) :: (OT, Rs.lst kv2) :: (TK, Rs.lst kv1) :: (KE, Rs.lst kv) :: (NA, Rs.lst nv) :: (O, Rs.lst ov) :: (L, Rs.ns (("taken", some (.ref TK)) :: ("other", some (.ref OT)) :: lr)) :: (ad.due, Rs.cell (some (.ref DU))) :: (ad.moved, Rs.cell (some (.ref MO))) :: (ad.kept, Rs.cell (some (.ref KE))) :: (ad.names, Rs.cell (some (.ref NA))) :: (ad.olds, Rs.cell (some (.ref O))) :: (ad.tail, Rs.cell (some (.int (tl : Nat) tt))) :: (ad.head, Rs.cell (some (.int (hd : Nat) th))) :: T) := c'.drop ((List.Sublist.cons _ (List.Sublist.cons _ (List.Sublist.cons _ (List.Sublist.refl _)))))
    (with_reducible refine kBool ?_; refine oIsNotB ?_; refine wpAny_truthy_bool ?_)
    rw [show (true != true) = false from rfl]
    (with_reducible refine iteF ?_; refine wpAny_execs_nil ?_; refine seqNext ‹_› ?_; refine seqCons fun Q9 hQ9 => ?_; refine wpAny_If ?_; refine wpAny_isTrue_Compare1 ?_; refine rCallN ?_; refine nG ‹_› ‹_› (by kernel_rfl) (by rfl) ‹_› ?_; refine fnV ‹_› ‹_› (Ats.cons (AtV.loc (by kernel_rfl) (mm7 _ _ _ _ _ _ _ _ _) (mm0 _ _)) (Ats.cons (AtV.loc (by kernel_rfl) (mm7 _ _ _ _ _ _ _ _ _) (mm1 _ _ _)) Ats.nil)) ?_)
    refine sld_ok (hR.le (by decide)) Fsl G c' hfr' (FrOk.cons (hF.sub fun p hp => (List.mem_cons_of_mem _ (List.mem_cons_of_mem _ (List.mem_cons_of_mem _ (List.mem_cons_of_mem _ (List.mem_cons_of_mem _ (List.mem_cons_of_mem _ (List.mem_cons_of_mem _ (List.mem_cons_of_mem _ (List.mem_cons_of_mem _ (List.mem_cons_of_mem _ (List.mem_cons_of_mem _ (List.mem_cons_of_mem _ (List.mem_cons_of_mem _ (List.mem_cons_of_mem _ (List.mem_cons_of_mem _ ‹_›)))))))))))))))) (show dLaw.scope.kind ≠ _ by decide +kernel) rfl ((mm7 _ _ _ _ _ _ _ _ _))) (fun s c => c.lat ((mm3 _ _ _ _ _))) hkv1 (by (first | lia | omega)) hnd (fun s c => c.lat ((mm2 _ _ _ _))) hkv2 (by (first | lia | omega)) hnd2 (fun tp mi un mw3 uw s' hmw3 huw c' => ?_)
    rw [P7] at hmw3 huw
    (with_reducible refine Tuple_ ?_; refine rMore (by with_unfolding_all rfl) ?_)
    refine compW (s₀ := s₀) (cl := _) (by with_unfolding_all rfl) (by decide +kernel) rfl (by decide +kernel) (by decide +kernel) ?_
    (with_reducible refine nC ‹_› (by kernel_rfl) (by with_unfolding_all rfl) (mm13 _ _ _ _ _ _ _ _ _ _ _ _ _ _ _) ?_)
    refine readyList (items := kept) (p := fun x => !ds.contains x) (f := id) c' hR.handled (fun s c => c.lat ((mm7 _ _ _ _ _ _ _ _ _))) hkv (by unfold sizeLine; (first | lia | omega)) ?_ ?_
    · intro C D' it' r' acc xi t s E hx c'
      (with_reducible refine tests1 ?_; refine wpAny_isTrue_Compare1 ?_; refine nL ‹_› (by kernel_rfl) (mm0 _ _) (mm0 _ _) ?_; refine nC ‹_› (by kernel_rfl) (by with_unfolding_all rfl) (mm14 _ _ _ _ _ _ _ _ _ _ _ _ _ _ _ _) ?_; refine oNotInLS (Cx.lat c' (mm6 _ _ _ _ _ _ _ _)) ‹_› ?_; refine wpAny_truthy_bool ?_)
      refine ⟨rfl, ?_⟩
      cases hk : ds.contains xi with
      | true => (with_reducible refine iteNF ?_); exact c'
      | false => (with_reducible refine iteNT ?_; refine nL ‹_› (by kernel_rfl) (mm0 _ _) (mm0 _ _) ?_); exact ⟨_, rfl, c'⟩
    intro W1 w1 s' hw1 c'
    rw [List.map_id] at hw1
    (with_reducible refine rMore (by with_unfolding_all rfl) ?_)
    refine compW (s₀ := s₀) (cl := _) (by with_unfolding_all rfl) (by decide +kernel) rfl (by decide +kernel) (by decide +kernel) ?_
    (with_reducible refine nC ‹_› (by kernel_rfl) (by with_unfolding_all rfl) (mm12 _ _ _ _ _ _ _ _ _ _ _ _ _ _) ?_)
    refine readyList (items := ds) (p := fun x => !kept.contains x) (f := id) c' hR.handled (fun s c => c.lat ((mm4 _ _ _ _ _ _))) hdw (by unfold sizeLine; (first | lia | omega)) ?_ ?_
    · intro C D' it' r' acc xi t s E hx c'
      (with_reducible refine tests1 ?_; refine wpAny_isTrue_Compare1 ?_; refine nL ‹_› (by kernel_rfl) (mm0 _ _) (mm0 _ _) ?_; refine nC ‹_› (by kernel_rfl) (by with_unfolding_all rfl) (List.mem_cons_of_mem _ (mm16 _ _ _ _ _ _ _ _ _ _ _ _ _ _ _ _ _ _)) ?_; refine oNotInLS (Cx.lat c' (mm11 _ _ _ _ _ _ _ _ _ _ _ _ _)) ‹_› ?_; refine wpAny_truthy_bool ?_)
      refine ⟨rfl, ?_⟩
      cases hk : kept.contains xi with
      | true => (with_reducible refine iteNF ?_); exact c'
      | false => (with_reducible refine iteNT ?_; refine nL ‹_› (by kernel_rfl) (mm0 _ _) (mm0 _ _) ?_); exact ⟨_, rfl, c'⟩
    intro W2 w2 s' hw2 c'
    rw [List.map_id] at hw2
    (with_reducible refine spliced_none ?_; refine oNewT ‹_› (by exact Nat.le_of_ble_eq_true rfl) fun b' s' c9 => ?_; (try clear c'); rename Cx _ _ _ => c')
    refine oNeT2 (by have := hR.units; (first | lia | omega)) (c'.tup ((mm3 _ _ _ _ _))) (c'.tup ((mm0 _ _))) ?_ ?_ (c'.lat ((mm5 _ _ _ _ _ _ _))) (c'.lat ((mm2 _ _ _ _))) (c'.lat ((mm4 _ _ _ _ _ _))) (c'.lat ((mm1 _ _ _))) hmw3 hw1 huw hw2 ?_
    · exact c'.ne2 (i := 5) (j := 2) rfl rfl (by decide)
    · exact c'.ne2 (i := 4) (j := 1) rfl rfl (by decide)
    rw [decide_eq_true rfl, decide_eq_true rfl, show (!(true && true)) = false from rfl]
    replace c' : Cx s₀ s' ((DU, Rs.lst dw) :: (MO, Rs.lst mv) :: (OT, Rs.lst kv2) :: (TK, Rs.lst kv1) :: (KE, Rs.lst kv) :: (NA, Rs.lst nv) :: (O, Rs.lst ov) :: (L, Rs.ns (("taken", some (.ref TK)) :: ("other", some (.ref OT)) :: lr)) :: (ad.due, Rs.cell (some (.ref DU))) :: (ad.moved, Rs.cell (some (.ref MO))) :: (ad.kept, Rs.cell (some (.ref KE))) :: (ad.names, Rs.cell (some (.ref NA))) :: (ad.olds, Rs.cell (some (.ref O))) :: (ad.tail, Rs.cell (some (.int (tl : Nat) tt))) :: (ad.head, Rs.cell (some (.int (hd : Nat) th))) :: T) := c'.drop ((List.Sublist.cons _ (List.Sublist.cons _ (List.Sublist.cons _ (List.Sublist.cons _ (List.Sublist.cons _ (List.Sublist.cons _ (List.Sublist.refl _))))))))
    (with_reducible refine wpAny_truthy_bool ?_; refine iteF ?_; refine wpAny_execs_nil ?_; refine seqNext ‹_› ?_; refine seqCons fun Q9 hQ9 => ?_; refine wpAny_Return_some ?_; refine wpAny_Compare1 ?_; refine rCallN ?_; refine nG ‹_› ‹_› (by kernel_rfl) (by rfl) ‹_› ?_; refine fnV ‹_› ‹_› (Ats.cons (AtV.loc (by kernel_rfl) (mm7 _ _ _ _ _ _ _ _ _) (mm0 _ _)) (Ats.cons (AtV.loc (by kernel_rfl) (mm7 _ _ _ _ _ _ _ _ _) (mm1 _ _ _)) Ats.nil)) ?_)
    refine cmp_ok hfdd' (hR.le (by decide)) Fcm Fdd G c' hfr' (FrOk.cons (hF.sub fun p hp => (List.mem_cons_of_mem _ (List.mem_cons_of_mem _ (List.mem_cons_of_mem _ (List.mem_cons_of_mem _ (List.mem_cons_of_mem _ (List.mem_cons_of_mem _ (List.mem_cons_of_mem _ (List.mem_cons_of_mem _ (List.mem_cons_of_mem _ (List.mem_cons_of_mem _ (List.mem_cons_of_mem _ (List.mem_cons_of_mem _ (List.mem_cons_of_mem _ (List.mem_cons_of_mem _ (List.mem_cons_of_mem _ ‹_›)))))))))))))))) (show dLaw.scope.kind ≠ _ by decide +kernel) rfl ((mm7 _ _ _ _ _ _ _ _ _))) (fun s c => c.lat ((mm3 _ _ _ _ _))) hkv1 (by (first | lia | omega)) (fun s c => c.lat ((mm2 _ _ _ _))) hkv2 (by (first | lia | omega)) (fun s' c' => ?_)
    (with_reducible refine wpAny_Compare1 ?_; refine nC ‹_› (by kernel_rfl) (by with_unfolding_all rfl) (mm10 _ _ _ _ _ _ _ _ _ _ _ _) ?_; refine nC ‹_› (by kernel_rfl) (by with_unfolding_all rfl) (mm8 _ _ _ _ _ _ _ _ _ _) ?_; refine oEqLL (Room.u ‹_›) (Cx.lat c' (mm4 _ _ _ _ _ _)) (Cx.lat c' (mm0 _ _)) ‹_› ‹_› ?_; refine oIsB ?_; refine seqRet ‹_› ?_)
    rw [P8, beq_self_eq_true]
    exact hQ _ (c'.drop ((List.Sublist.cons _ (List.Sublist.cons _ (List.Sublist.cons _ (List.Sublist.cons _ (List.Sublist.cons _ (List.Sublist.cons _ (List.Sublist.cons _ (List.Sublist.cons _ (List.Sublist.cons _ (List.Sublist.cons _ (List.Sublist.cons _ (List.Sublist.cons _ (List.Sublist.cons _ (List.Sublist.cons _ (List.Sublist.cons _ (List.Sublist.refl _))))))))))))))))))
end
section
set_option maxRecDepth 100000
set_option maxHeartbeats 4000000
open PySem PySem.W PyProof.Rows PySem.Calls
theorem law_ok {mg mb : Str → Option Value} {w : World} {cd P f : Addr} {A : Around} {Q E : Value → Shared → Prop} {s₀ s : Shared} {T : Tab} {fr : List Env} {l : Addr} {vs : List Value} {ns : List Int}
    (hA : Room A 20) (X : Top1 w mg mb s₀.heap cd P) (F : FnAt s₀.heap dLaw f) (c0 : Cx s₀ s T) (hP : (P, tabR) ∈ T) (hfr : A.frames = some fr) (hF : FrOk T fr)
    (hl : s₀.heap.IsList l vs.toArray) (hs : IntsAre vs ns) (hz : vs.length ≤ 1000)
    (hQ : ∀ s', Cx s₀ s' T → Q (.bool true) s') : wpAny (model PW w) A (call (.ref f) [.ref l]) Q E s := by
    have G := X.g
    refine callD (binds := [("script", .ref l)]) [] [("script", .ref l)] ["draws", "inner", "sets", "first", "second", "x", "spot", "front", "end", "taken", "other"] ["due", "moved", "row", "kept", "names", "new", "old", "pairs", "olds", "signs", "tail", "head", "script"] ["draws", "inner", "sets", "first", "second", "x", "spot", "front", "end", "taken", "other"] _ [none, none, none, none, none, none, none, none, none, none, none, none, some (.ref l)] (ks2 := ["script"]) hA.d (F.keeps c0.keep) (G.keeps c0.keep).lim (fun _ _ _ => by kernel_rfl) (by kernel_rfl) (by kernel_rfl) (by kernel_rfl)
      (by kernel_rfl) (by kernel_rfl) (by decide +kernel) (by decide +kernel) (by kernel_rfl) (by decide +kernel) rfl (by kernel_rfl) (by kernel_rfl) (by kernel_rfl) (by kernel_rfl) ?_
    intro L code as s₁ has c
    simp only [List.map_cons, List.map_nil, List.cons_append, List.nil_append, List.zip_nil_right, List.zip_nil_left] at c ⊢
    obtain ⟨ad, rfl⟩ := lc_of has
    simp only [List.zip_cons_cons, List.zip_nil_right, List.map_cons, List.map_nil] at c ⊢
    replace c := c0.trans c
    simp only [List.cons_append, List.nil_append] at c
    have hR : Room (A.deeper (envC dLaw L f code (cellsOf ad))) 19 := Room.deeper hA
    have hfr' : (A.deeper (envC dLaw L f code (cellsOf ad))).frames = some ((envC dLaw L f code (cellsOf ad)) :: fr) := by show A.frames.map _ = _; rw [hfr]; rfl
    have arg : ∀ {T : Tab} (H : Tab), (P, tabR) ∈ T → FrOk T fr → (P, tabR) ∈ H ++ T ∧ FrOk (H ++ T) fr := fun H h1 h2 => ⟨List.mem_append_right _ h1, h2.sub fun p hp => List.mem_append_right _ hp⟩
    have z1 := arg [(ad.due, Rs.cell none), (ad.moved, Rs.cell none), (ad.row, Rs.cell none), (ad.kept, Rs.cell none), (ad.names, Rs.cell none), (ad.new, Rs.cell none), (ad.old, Rs.cell none)] hP hF
    refine law_s1 (T := [(ad.due, Rs.cell none), (ad.moved, Rs.cell none), (ad.row, Rs.cell none), (ad.kept, Rs.cell none), (ad.names, Rs.cell none), (ad.new, Rs.cell none), (ad.old, Rs.cell none)] ++ T) hR X z1.1 hfr' z1.2 (fun s' c => hQ s' (c.drop (List.sublist_append_right _ _))) hl hs hz (fun s D SE O PA FI SD th tt ti tsg sg hd tl inn sv dv ns hsg hh1 ht1 hi1 hi3 hsv hdv hnl c => ?_) (Cx.pick (Cx.pickNs c 0 rfl [0, 1, 2, 3, 4, 5, 6, 7, 8, 9, 10] 11 rfl rfl) [0, 8, 9, 10, 11, 12, 13, 1, 2, 3, 4, 5, 6, 7] 14 rfl rfl)
    have z2 := arg [(ad.due, Rs.cell none), (ad.moved, Rs.cell none), (ad.row, Rs.cell none), (ad.kept, Rs.cell none), (ad.names, Rs.cell none), (ad.script, Rs.cell (some (.ref l)))] hP hF
    refine law_s2 (T := [(ad.due, Rs.cell none), (ad.moved, Rs.cell none), (ad.row, Rs.cell none), (ad.kept, Rs.cell none), (ad.names, Rs.cell none), (ad.script, Rs.cell (some (.ref l)))] ++ T) hR X z2.1 hfr' z2.2 (fun s' c => hQ s' (c.drop (List.sublist_append_right _ _))) hsg hh1 ht1 hi1 hi3 hsv hdv hnl (fun s pt xs s2 fv pv ov o_d o_t o_x o_s o_o o_n hxl hpv hov hfv hs2 c => ?_) (Cx.pick (Cx.pickNs c 6 rfl [0, 1, 2, 3, 4, 5, 6, 7, 8, 9, 10] 11 rfl rfl) [0, 1, 2, 3, 4, 5, 6, 18, 19, 7, 8, 9, 10, 11, 13, 14, 15, 16, 17, 12] 20 rfl rfl)
    replace hQ : ∀ s', Cx s₀ s' (T ++ pt) → _ := fun s' c => hQ s' (c.drop (List.sublist_append_left _ _))
    replace hP : (P, tabR) ∈ T ++ pt := List.mem_append_left _ hP
    replace hF : FrOk (T ++ pt) fr := hF.sub fun p hp => List.mem_append_left _ hp
    replace hpv : PairsIn pv (xs.map (pairF sg)) (T ++ pt) := hpv.sub fun p hp => List.mem_append_right _ hp
    obtain ⟨U, hU⟩ : ∃ U, U = T ++ pt := ⟨_, rfl⟩
    replace c : Cx s₀ s ((SD, Rs.lst s2) :: (FI, Rs.lst fv) :: (PA, Rs.lst pv) :: (O, Rs.lst ov) :: (L, Rs.ns [("draws", o_d), ("inner", some (.int (inn : Nat) ti)), ("sets", o_t), ("first", some (.ref FI)), ("second", some (.ref SD)), ("x", o_x), ("spot", o_s), ("front", none), ("end", none), ("taken", none), ("other", none)]) :: (ad.new, Rs.cell (o_n)) :: (ad.old, Rs.cell (o_o)) :: (ad.pairs, Rs.cell (some (.ref PA))) :: (ad.olds, Rs.cell (some (.ref O))) :: (ad.signs, Rs.cell (some (.str (S sg) tsg))) :: (ad.tail, Rs.cell (some (.int (tl : Nat) tt))) :: (ad.head, Rs.cell (some (.int (hd : Nat) th))) :: (ad.due, Rs.cell none) :: (ad.moved, Rs.cell none) :: (ad.row, Rs.cell none) :: (ad.kept, Rs.cell none) :: (ad.names, Rs.cell none) :: (ad.script, Rs.cell (some (.ref l))) :: U) := hU ▸ c
    rw [← hU] at hQ hP hF hpv
    have z3 := arg [(SD, Rs.lst s2), (FI, Rs.lst fv), (PA, Rs.lst pv), (ad.due, Rs.cell none), (ad.moved, Rs.cell none), (ad.row, Rs.cell none), (ad.new, Rs.cell (o_n)), (ad.old, Rs.cell (o_o)), (ad.pairs, Rs.cell (some (.ref PA))), (ad.script, Rs.cell (some (.ref l)))] hP hF
    refine law_s3 (T := [(SD, Rs.lst s2), (FI, Rs.lst fv), (PA, Rs.lst pv), (ad.due, Rs.cell none), (ad.moved, Rs.cell none), (ad.row, Rs.cell none), (ad.new, Rs.cell (o_n)), (ad.old, Rs.cell (o_o)), (ad.pairs, Rs.cell (some (.ref PA))), (ad.script, Rs.cell (some (.ref l)))] ++ U) hR X z3.1 hfr' z3.2 (fun s' c => hQ s' (c.drop (List.sublist_append_right _ _))) hsg hh1 ht1 hi1 hi3 hxl hov (fun s KE NA EN FR kv nv env' frv hfrv henv hnv hkv c => ?_) (Cx.pick (Cx.pickNs c 4 rfl [7, 8, 0, 1, 2, 3, 4, 5, 6, 9, 10] 11 rfl rfl) [3, 4, 15, 16, 8, 9, 10, 11, 0, 1, 2, 12, 13, 14, 5, 6, 7, 17] 18 rfl rfl)
    have z4 := arg [(KE, Rs.lst kv), (PA, Rs.lst pv), (O, Rs.lst ov), (ad.due, Rs.cell none), (ad.moved, Rs.cell none), (ad.kept, Rs.cell (some (.ref KE))), (ad.new, Rs.cell (o_n)), (ad.old, Rs.cell (o_o)), (ad.pairs, Rs.cell (some (.ref PA))), (ad.olds, Rs.cell (some (.ref O))), (ad.tail, Rs.cell (some (.int (tl : Nat) tt))), (ad.head, Rs.cell (some (.int (hd : Nat) th))), (ad.script, Rs.cell (some (.ref l)))] hP hF
    refine law_s4 (T := [(KE, Rs.lst kv), (PA, Rs.lst pv), (O, Rs.lst ov), (ad.due, Rs.cell none), (ad.moved, Rs.cell none), (ad.kept, Rs.cell (some (.ref KE))), (ad.new, Rs.cell (o_n)), (ad.old, Rs.cell (o_o)), (ad.pairs, Rs.cell (some (.ref PA))), (ad.olds, Rs.cell (some (.ref O))), (ad.tail, Rs.cell (some (.int (tl : Nat) tt))), (ad.head, Rs.cell (some (.int (hd : Nat) th))), (ad.script, Rs.cell (some (.ref l)))] ++ U) hR X z4.1 hfr' z4.2 (fun s' c => hQ s' (c.drop (List.sublist_append_right _ _))) hsg hh1 ht1 hi1 hi3 hxl hfv hs2 hfrv henv hnv (fun s OT TK kv1 kv2 o_w hkv1 hkv2 c => ?_) (Cx.pick (Cx.pickNs c 5 rfl [5, 6, 0, 1, 9, 10, 2, 3, 4, 7, 8] 11 rfl rfl) [1, 2, 3, 12, 13, 5, 17, 7, 9, 0, 14, 4, 15, 16, 6, 18, 19, 20, 8, 10, 11, 21] 22 rfl rfl)
    have z5 := arg [(OT, Rs.lst kv2), (TK, Rs.lst kv1), (EN, Rs.lst env'), (FR, Rs.lst frv), (SD, Rs.lst s2), (FI, Rs.lst fv), (O, Rs.lst ov), (ad.row, Rs.cell (o_w)), (ad.new, Rs.cell (o_n)), (ad.old, Rs.cell (o_o)), (ad.olds, Rs.cell (some (.ref O))), (ad.signs, Rs.cell (some (.str (S sg) tsg))), (ad.script, Rs.cell (some (.ref l)))] hP hF
    refine law_s5 (T := [(OT, Rs.lst kv2), (TK, Rs.lst kv1), (EN, Rs.lst env'), (FR, Rs.lst frv), (SD, Rs.lst s2), (FI, Rs.lst fv), (O, Rs.lst ov), (ad.row, Rs.cell (o_w)), (ad.new, Rs.cell (o_n)), (ad.old, Rs.cell (o_o)), (ad.olds, Rs.cell (some (.ref O))), (ad.signs, Rs.cell (some (.str (S sg) tsg))), (ad.script, Rs.cell (some (.ref l)))] ++ U) hR X z5.1 hfr' z5.2 (fun s' c => hQ s' (c.drop (List.sublist_append_right _ _))) hsg hh1 ht1 hi1 hi3 hxl (hpv.sub fun p hp => List.mem_append_right _ hp) hnv hkv (fun s DU MO dw mv ds hmv hdw hrise hperm c => ?_) (Cx.pick (Cx.pickNs c 7 rfl [6, 7, 8, 0, 1, 9, 10, 2, 3, 4, 5] 11 rfl rfl) [11, 2, 12, 7, 14, 15, 16, 9, 19, 21, 22, 0, 1, 3, 4, 5, 6, 13, 8, 17, 18, 20, 10, 23] 24 rfl rfl)
    have W := facts hsg hh1 ht1 hi1 hi3 hxl hrise hperm
    have hn27 : (names3 sg).length = 27 := len_names3 sg (good_asc hsg).2
    have hfl : ∀ p : List Nat → Bool, ((names3 sg).filter p).length ≤ 27 := fun p => by have := List.length_filter_le p (names3 sg); (first | lia | omega)
    have z6 := arg [(EN, Rs.lst env'), (FR, Rs.lst frv), (SD, Rs.lst s2), (FI, Rs.lst fv), (PA, Rs.lst pv), (ad.row, Rs.cell (o_w)), (ad.new, Rs.cell (o_n)), (ad.old, Rs.cell (o_o)), (ad.pairs, Rs.cell (some (.ref PA))), (ad.signs, Rs.cell (some (.str (S sg) tsg))), (ad.script, Rs.cell (some (.ref l)))] hP hF
    refine law_s6 (T := [(EN, Rs.lst env'), (FR, Rs.lst frv), (SD, Rs.lst s2), (FI, Rs.lst fv), (PA, Rs.lst pv), (ad.row, Rs.cell (o_w)), (ad.new, Rs.cell (o_n)), (ad.old, Rs.cell (o_o)), (ad.pairs, Rs.cell (some (.ref PA))), (ad.signs, Rs.cell (some (.str (S sg) tsg))), (ad.script, Rs.cell (some (.ref l)))] ++ U) hR X z6.1 hfr' z6.2 (fun s' c => hQ s' (c.drop (List.sublist_append_right _ _))) hh1 ht1 hi1 hi3 (by rw [List.length_map, hxl]) (fun m hm => ?_) hov hnv hkv hkv1 hkv2 hmv hdw hn27 (by rw [List.length_map, hn27]) (hfl _) W.sub W.nd W.nd2 W.P1 W.P2 W.P3 W.P4 W.P5 W.P6 W.P7 W.P8 (by rw [← W.P2]; exact hfl _) (Cx.pick (Cx.pickNs c 5 rfl [9, 10, 0, 1, 2, 3, 4, 5, 6, 7, 8] 11 rfl rfl) [0, 1, 13, 14, 2, 3, 19, 5, 6, 7, 8, 9, 23, 11, 12, 15, 16, 17, 18, 4, 20, 21, 22, 10, 24, 25] 26 rfl rfl)
    obtain ⟨x, _, rfl⟩ := List.mem_map.mp hm
    exact (sets_facts hsg _ (old_mem sg x)).2.1
end
section
set_option maxRecDepth 100000
set_option maxHeartbeats 4000000
open PySem PySem.W PyProof.Rows PySem.Calls
theorem recs_all : recsOf qV = dAll := by kernel_rfl
noncomputable def oAt (P : Params) (a : Addr) : Obj := match (kTop P).lookup a with
  | some o => o
  | none => { cls := .none, data := .plain }
noncomputable def entsOf (o : Obj) : Array DictEntry := match o.data with
  | .dict es _ => es
  | _ => #[]
noncomputable def epOf (o : Obj) : Nat := match o.data with
  | .dict _ ep => ep
  | _ => 0
noncomputable def fldOf (o : Obj) : Array Value := match o.data with
  | .fields vs => vs
  | _ => #[]
noncomputable def seqOf (o : Obj) : Array Value := match o.data with
  | .seq vs _ => vs
  | _ => #[]
noncomputable def seqN (o : Obj) : Nat := match o.data with
  | .seq _ n => n
  | _ => 0
theorem look (P : Params) (a : Addr) (h : ((kTop P).lookup a).isSome = true) : (kTop P).lookup a = some (oAt P a) := by
  unfold oAt
  cases e : (kTop P).lookup a with
  | none => rw [e] at h; cases h
  | some o => rfl
theorem ns_is {h : Heap} {m : Str → Option Value} {a : Addr} {o : Obj} (hn : h.Ns a m) (ho : h.get? a = some o) : ∀ x, m x = nsFind (entsOf o) x := by
  obtain ⟨o', es, ep, ho', hd, _, hf⟩ := hn
  rw [ho'] at ho; cases ho
  intro x
  rw [← hf x]
  unfold entsOf
  rw [hd]
theorem top1 {w : World} {s₀ : Shared} {mg mb : Str → Option Value} {h : Heap}
    (G : Ground qV looseV PySem.Challenge.rw_kt0025_01.row.records (XL qV []) w s₀ mg mb h) (Y : hookV.says w h) :
    Top1 w mg mb (hideAll h [71]) 75 71 := by
  have X : (kTop w.params).In h := km_in_of Y.1
  have h71 : h.get? 71 = some (tabObj #[]) := km_tabs_of Y.1 71 (by simp)
  have T := G.T
  have keep : ∀ b o, h.get? b = some o → o ≠ tabObj #[] → (hideAll h [71]).get? b = some o := fun b o hb hne => hideAll_get _ hb (by
    intro hm
    have : b = 71 := by simpa using hm
    subst this
    rw [h71] at hb; cases hb; exact hne rfl)
  have nsK : ∀ a m, h.Ns a m → (hideAll h [71]).Ns a m := fun a m hn => by
    obtain ⟨o, es, ep, ho, hd, r⟩ := hn
    exact ⟨o, es, ep, keep a o ho (fun q => by rw [q] at hd; cases hd), hd, r⟩
  have X' : (kTop w.params).In (hideAll h [71]) := fun a o hl => by
    refine hideAll_get _ (X a o hl) (fun hm => ?_)
    have : a = 71 := by simpa using hm
    subst this
    have n : ((kTop w.params).lookup 71).isNone = true := by kernel_rfl
    rw [hl] at n; cases n
  have g3 := X 3 _ (look w.params 3 (by kernel_rfl))
  have hmg := ns_is T.g g3
  have ktr : mg "_translate" = some (.ref 76) := (hmg _).trans (by kernel_rfl)
  have kre : mg "_twin_re_1" = some (.ref 50) := (hmg _).trans (by kernel_rfl)
  have ksp : mg "_special_chars_map" = some (.ref 59) := (hmg _).trans (by kernel_rfl)
  have g2 := X 2 _ (look w.params 2 (by kernel_rfl))
  have fnk : ∀ {d : DefRec} {a o pm code doc}, h.get? a = some o → o.data = .func (docDef d.name d.params d.body d.scope pm code doc) → h.CodeRec code d.name → FnAt (hideAll h [71]) d a := fun {d a o pm code doc} ho hd hc => by
    obtain ⟨c, oc, vs, t, e1, e2, e3, e4⟩ := hc
    refine ⟨⟨o, pm, code, doc, keep _ _ ho (fun q => by rw [q] at hd; cases hd), hd, c, oc, vs, t, e1, keep _ _ e2 (fun q => ?_), e3, e4⟩⟩
    rw [q] at e3; cases e3; simp at e4
  refine ⟨⟨nsK _ _ T.g, nsK _ _ T.b, ?_, ?_, ?_, ?_⟩, ?_, ?_, ?_, ?_, ?_⟩
  · obtain ⟨mc, a, b⟩ := T.nolimit
    exact ⟨mc, nsK _ _ a, b⟩
  · obtain ⟨mc, a, b⟩ := T.nodigits
    exact ⟨mc, nsK _ _ a, (ns_is a g2 _).trans (by kernel_rfl)⟩
  · intro d hdm
    obtain ⟨a, o, pm, code, doc, e1, e2, e3, e4⟩ := T.fn d (by rw [recs_all]; exact hdm)
    exact ⟨a, e1, fnk e2 e3 e4⟩
  · have free : ∀ x ∈ bTab.map (·.1), x ∉ startupNames ∧ x ∉ looseW qV looseV ∧ x ∉ (recsOf qV).map (·.name) ∧ x ∉ (litsOf qV).map (·.1) ∧ x ∉ (clssOf qV (looseW qV looseV)).map (·.name) ∧ x ≠ "__name__" := by decide +kernel
    have boot : ∀ p ∈ bTab, bootBuiltins p.1 = some p.2 := by decide +kernel
    intro p hp
    obtain ⟨f1, f2, f3, f4, f5, f6⟩ := free p.1 (List.mem_map_of_mem hp)
    exact ⟨T.free _ f1 f2 f3 f4 f5, (T.builtins _ f6).trans (boot p hp)⟩
  · intro f hf o pm code doc ho hdt
    rw [ktr] at hf; cases hf
    obtain ⟨o76, g76, hc⟩ := code75_of Y.2
    have g76' := keep 76 o76 g76 (fun q => by rw [q] at hc; cases hc)
    rw [g76'] at ho
    cases ho
    unfold codeOf at hc
    rw [hdt] at hc
    exact hc
  · exact codeHd_of_K X' (by kernel_rfl)
  · obtain ⟨bm, ob, e1, e2, e3, e4, e5, e6⟩ := T.bmain
    refine ⟨bm, ob, e1, e2, ?_, ?_, keep _ _ e3 (fun q => by rw [q] at e4; cases e4), e4, e5, e6⟩
    · intro q
      obtain ⟨o, es, ep, ho, hdd, _⟩ := T.g
      rw [q, ho] at e3; cases e3; rw [hdd] at e6; cases e6
    · intro q
      rw [q, h71] at e3; cases e3; cases e4
  · refine ⟨50, kre, ⟨oAt w.params 50, fldOf (oAt w.params 50), 49, oAt w.params 49, seqOf (oAt w.params 49), seqN (oAt w.params 49), X' 50 _ (look w.params 50 (by kernel_rfl)), by kernel_rfl, by kernel_rfl, by kernel_rfl, by kernel_rfl, by kernel_rfl,
      X' 49 _ (look w.params 49 (by kernel_rfl)), by kernel_rfl, by kernel_rfl, by kernel_rfl⟩⟩
  · refine ⟨59, fun k => findBy Value.isInt (entsOf (oAt w.params 59)) k, 445, ksp, by decide +kernel, ⟨oAt w.params 59, entsOf (oAt w.params 59), epOf (oAt w.params 59), X' 59 _ (look w.params 59 (by kernel_rfl)), ⟨by kernel_rfl, by kernel_rfl, by kernel_rfl⟩, by kernel_rfl, ?_, fun k => rfl⟩, ?_⟩
    · have hall : (entsOf (oAt w.params 59)).all (fun e => match e.key with | .int k _ => e.hash == hashInt k | _ => false) = true := by kernel_rfl
      intro e he
      have := Array.all_eq_true_iff_forall_mem.mp hall e he
      split at this
      · rename_i k t hk
        exact ⟨k, by rw [hk]; simp [intKind, Value.isInt], eq_of_beq this⟩
      · cases this
    · intro ch hch
      simp only [List.mem_cons, List.not_mem_nil, or_false] at hch
      rcases hch with rfl | rfl | rfl | rfl
      · rw [if_pos rfl]; kernel_rfl
      · rw [if_neg (by decide)]; kernel_rfl
      · rw [if_neg (by decide)]; kernel_rfl
      · rw [if_neg (by decide)]; kernel_rfl
theorem start71 {s₁ : Shared} (h71 : s₁.heap.get? 71 = some (tabObj #[])) : Cx { s₁ with heap := hideAll s₁.heap [71] } s₁ [(71, tabR)] := by
  refine ⟨⟨s₁.heap, s₁.toks, s₁.gens, rfl, id⟩, fun b o hb => of_hideAll _ hb, fun p hp => ?_, by simp⟩
  rcases List.mem_singleton.mp hp with rfl
  exact ⟨hideAll_none _ (by simp), _, h71, _, rfl, trivial⟩
end
end Mine
open PySem PySem.W PyProof.Rows Mine
set_option maxRecDepth 100000
set_option maxHeartbeats 8000000 in
theorem PySem.Challenge.cw_kt0025_01_holds : PySem.Challenge.rw_kt0025_01.Holds := by
  refine holds_law said_all fun said => ?_
  refine holds_open (q := qV) (loose := looseV) (Xt := fun s => xlAt qV [] s && recOk (RowW.records PySem.Challenge.rw_kt0025_01.row.toRowW) s) (XP := XL qV []) (Yf := hookV.obs) (Ya := hookV.val) (YP := hookV.says) (d := dLaw) (kwd := []) (N := 3900)
    left_at hookV.of hookV.keeps (fun s e => xl_of s (Bool.and_eq_true_iff.mp e).1) XL.keeps (by kernel_rfl) (by kernel_rfl) (by kernel_rfl) (fun s e => recFacts_of (Bool.and_eq_true_iff.mp e).2) (by rfl) said (by kernel_rfl) ⟨rfl, rfl, rfl, rfl, rfl, by kernel_rfl⟩ ?hw ?hc
  case hw => w_witness2
  case hc =>
  intro w s₀ s₁ mg mb G Y fa o pm cd doc dV kV ho hd' hcd hD hmg hg args vals as hpre hlay hrd hwl hlo
  have X1 := top1 G Y
  have h71 : s₁.heap.get? 71 = some (tabObj #[]) := km_tabs_of Y.1 71 (by simp)
  obtain ⟨fl, hfl, Fl⟩ := X1.g.fn dLaw (by simp [dAll])
  have efa : fl = fa := by
    have := hfl.symm.trans hmg
    cases this; rfl
  have c71 : ∃ c o vs, s₁.heap.get? c = some o ∧ o.cls = .type "code" ∧ o.data = .fields vs ∧ vs[11]? = some (.ref 71) := by
    obtain ⟨o, vs, _, _, _, _, _, _, _, e1, e2, e3, e4, _⟩ := X1.hd
    exact ⟨75, o, vs, of_hideAll _ e1, e2, e3, e4⟩
  subst efa
  clear hd' hcd hD hmg ho
  wrow_args hpre hlay hrd hwl hlo
  rename_i ns _ _ _ _ _ _ _ l vs _ hl _ _ _ hI _ hlen _
  have c0 := start71 h71
  have hlP : l ≠ 71 := fun q => by
    obtain ⟨o, ho, hc, _⟩ := hl
    rw [q, h71] at ho; cases ho; cases hc
  have hl' : (hideAll s₁.heap [71]).IsList l vs.toArray := by
    obtain ⟨o, ho, r⟩ := hl
    exact ⟨o, hideAll_get _ ho (by simpa using hlP), r⟩
  have hvl : vs.length ≤ 1000 := by
    have := IntsAre.length hI
    (first | lia | omega)
  refine law_ok (A := callerA) (T := [(71, tabR)]) (fr := []) ⟨rfl, by decide, by decide⟩ X1 Fl c0 (by simp) rfl ⟨fun e he => by cases he⟩ hl' hI hvl (fun s' c => ?_)
  obtain ⟨o71, e71, ps, rfl, hps⟩ := c.sat List.mem_cons_self
  obtain ⟨h', tk, g', es, hb⟩ := c.same
  refine ⟨.inl ⟨_, .bool true, [], rfl, fun _ => rfl, ReadsW.bool true, by wrow_post, fun _ => ⟨List.nodup_nil, fun _ hm => (nomatch hm)⟩⟩, ⟨fun b o hbo => ?_, fun b o hbo => ?_⟩, by rw [es], ?_⟩
  · by_cases hb71 : b = 71
    · subst hb71
      rw [h71] at hbo; cases hbo
      exact .inr (.inl ⟨c71, rfl, #[], ps, rfl, by rw [e71]; simp⟩)
    · exact .inl (c.keep b o (hideAll_get _ hbo (by simpa using hb71)))
  · by_cases hb71 : b = 71
    · subst hb71; exact ⟨_, e71⟩
    · exact ⟨o, c.keep b o (hideAll_get _ hbo (by simpa using hb71))⟩
  · rw [es]
    exact hb (.of_eq hg)
