import PyProof.Rows.All
import Wide.All
import OpenK.AllK
import Wide.FinOn
import PySem.Challenge.RW_dh5003_01
set_option Elab.async false
section
open PySem PySem.Calls PySem.W PyProof.Rows
set_option maxRecDepth 100000
namespace Mine

/-! ## heaps -/
def Ext (h h' : Heap) : Prop := ∀ b o, h.get? b = some o → h'.get? b = some o
theorem Ext.refl (h : Heap) : Ext h h := fun _ _ e => e
theorem Ext.trans {a b c : Heap} (x : Ext a b) (y : Ext b c) : Ext a c := fun k o e => y k o (x k o e)
theorem Ext.push (h : Heap) (o : Obj) : Ext h (h.push o) := fun _ _ e => Heap.get?_push_of_some o e

/-- what is known of an object -/
inductive Fact where
  | lst (xs : List Value)
  | tup (xs : List Value)
  | cell (v : Option Value)
  | ns (E : List (Str × Value))
  | obj (o : Obj)
  | li (l : Addr) (i : Nat)
  | ti (l : Addr) (i : Nat)
def Fact.ok : Fact → Obj → Prop
  | .lst xs, o => o.cls = .type "list" ∧ o.dict = none ∧ o.slots = #[] ∧ ∃ n, o.data = .seq xs.toArray n
  | .tup xs, o => o.cls = .type "tuple" ∧ o.dict = none ∧ o.slots = #[] ∧ ∃ n, o.data = .seq xs.toArray n
  | .cell v, o => o.data = .cell v
  | .ns E, o => ∃ es ep, o.data = .dict es ep ∧ StrKeys es ∧ ∀ x v, E.lookup x = some v → nsFind es x = some v
  | .obj o', o => o = o'
  | .li l i, o => o.cls = .type "list_iterator" ∧ o.data = .fields #[.ref l, .int i 0]
  | .ti l i, o => o.cls = .type "tuple_iterator" ∧ o.data = .fields #[.ref l, .int i 0]
def Fact.at (f : Fact) (h : Heap) (a : Addr) : Prop := ∃ o, h.get? a = some o ∧ f.ok o
theorem Fact.at.keep {f : Fact} {h h' : Heap} {a : Addr} (x : f.at h a) (k : ∀ o, h.get? a = some o → h'.get? a = some o) : f.at h' a := let ⟨o, e, p⟩ := x; ⟨o, k o e, p⟩
theorem Fact.at.lt {f : Fact} {h : Heap} {a : Addr} (x : f.at h a) : a < h.objs.size := let ⟨_, e, _⟩ := x; Heap.lt_size e
theorem Fact.at.isList {xs : List Value} {h : Heap} {a : Addr} (x : (Fact.lst xs).at h a) : h.IsList a xs.toArray := let ⟨o, e, c, _, _, n, d⟩ := x; ⟨o, e, c, n, d⟩
theorem Fact.at.isTuple {xs : List Value} {h : Heap} {a : Addr} (x : (Fact.tup xs).at h a) : h.IsTuple a xs.toArray := let ⟨o, e, c, _, _, n, d⟩ := x; ⟨o, e, c, n, d⟩
theorem Fact.at.isLi {l : Addr} {i : Nat} {h : Heap} {a : Addr} (x : (Fact.li l i).at h a) : h.IsListIter a l i := x
theorem Fact.at.isTi {l : Addr} {i : Nat} {h : Heap} {a : Addr} (x : (Fact.ti l i).at h a) : h.IsTupleIter a l i := x
theorem ns_at {h : Heap} {a : Addr} {m : Str → Option Value} {E : List (Str × Value)} (x : h.Ns a m) (y : ∀ n v, E.lookup n = some v → m n = some v) : (Fact.ns E).at h a :=
  let ⟨o, es, ep, ho, hd, hk, hm⟩ := x; ⟨o, ho, es, ep, hd, hk, fun n v e => (hm n).trans (y n v e)⟩
theorem Fact.at.ns {E : List (Str × Value)} {h : Heap} {a : Addr} (x : (Fact.ns E).at h a) : ∃ m, h.Ns a m ∧ ∀ n v, E.lookup n = some v → m n = some v :=
  let ⟨o, e, es, ep, d, k, z⟩ := x; ⟨nsFind es, ⟨o, es, ep, e, d, k, fun _ => rfl⟩, z⟩
theorem Fact.at.isCell {v : Option Value} {h : Heap} {a : Addr} (x : (Fact.cell v).at h a) : h.IsCell a v := x

/-! ## the world -/
structure FnAt (mg : Str → Option Value) (h : Heap) (name : Str) (params : Arguments) (body : List Stmt) (scope : Scope) (a : Addr) : Prop where
  g : mg name = some (.ref a)
  o : ∃ o pm code doc, h.get? a = some o ∧ o.data = .func (docDef name params body scope pm code doc) ∧ h.CodeRec code name
def blts : List (Str × Value) := [("len", .builtin "len"), ("min", .builtin "min"), ("max", .builtin "max"), ("sum", .builtin "sum"), ("sorted", .builtin "sorted"), ("isinstance", .builtin "isinstance"), ("issubclass", .builtin "issubclass"),
  ("range", .type "range"), ("list", .type "list"), ("type", .type "type"), ("bytes", .type "bytes"), ("str", .type "str"), ("tuple", .type "tuple"), ("map", .type "map"), ("enumerate", .type "enumerate")]
structure Wd (mg mb : Str → Option Value) (h : Heap) : Prop where
  g : h.Ns mainGlobals mg
  b : h.Ns builtinsNs mb
  nolim : h.NoLimit
  blt : ∀ x v, blts.lookup x = some v → mg x = none ∧ mb x = some v
theorem Wd.ext {mg mb : Str → Option Value} {h h' : Heap} (W : Wd mg mb h) (k : Ext h h') : Wd mg mb h' := ⟨W.g.keeps k, W.b.keeps k, W.nolim.keeps k, W.blt⟩
theorem FnAt.ext {mg : Str → Option Value} {h h' : Heap} {name : Str} {params : Arguments} {body : List Stmt} {scope : Scope} {a : Addr} (F : FnAt mg h name params body scope a) (k : Ext h h') : FnAt mg h' name params body scope a :=
  ⟨F.g, let ⟨o, pm, cd, dc, e, d, c⟩ := F.o; ⟨o, pm, cd, dc, k _ _ e, d, c.keeps k⟩⟩

/-! ## the ledger -/
structure St (mg mb : Str → Option Value) (h₀ : Heap) (N : List (Addr × Fact)) (h : Heap) : Prop where
  wd : Wd mg mb h₀
  keep : Ext h₀ h
  here : ∀ p ∈ N, p.2.at h p.1
  own : ∀ p ∈ N, h₀.get? p.1 = none
  nd : (N.map (·.1)).Nodup

inductive Upd (a : Addr) (f' : Fact) : Fact → List (Addr × Fact) → List (Addr × Fact) → Prop
  | head {f r} : Upd a f' f ((a, f) :: r) ((a, f') :: r)
  | tail {f p r r'} : Upd a f' f r r' → Upd a f' f (p :: r) (p :: r')
theorem Upd.keys {a f' f N N'} (u : Upd a f' f N N') : N'.map (·.1) = N.map (·.1) := by
  induction u with
  | head => rfl
  | tail _ ih => simp [ih]
theorem Upd.mem {a f' f N N'} (u : Upd a f' f N N') : (a, f) ∈ N := by
  induction u with
  | head => exact .head _
  | tail _ ih => exact .tail _ ih
theorem Upd.split {a f' f N N'} (u : Upd a f' f N N') (nd : (N.map (·.1)).Nodup) : ∀ p ∈ N', p = (a, f') ∨ (p ∈ N ∧ p.1 ≠ a) := by
  induction u with
  | @head r =>
    intro p hp
    rw [List.map_cons, List.nodup_cons] at nd
    rcases List.mem_cons.mp hp with rfl | hp
    · exact .inl rfl
    · exact .inr ⟨.tail _ hp, fun e => nd.1 (e ▸ List.mem_map_of_mem (f := (·.1)) hp)⟩
  | @tail q r r' u ih =>
    intro p hp
    rw [List.map_cons, List.nodup_cons] at nd
    rcases List.mem_cons.mp hp with rfl | hp
    · exact .inr ⟨.head _, fun e => nd.1 (e ▸ List.mem_map_of_mem (f := (·.1)) u.mem)⟩
    · rcases ih nd.2 p hp with h | h
      · exact .inl h
      · exact .inr ⟨.tail _ h.1, h.2⟩

inductive Del (a : Addr) : List (Addr × Fact) → List (Addr × Fact) → Prop
  | head {f r} : Del a ((a, f) :: r) r
  | tail {p r r'} : Del a r r' → Del a (p :: r) (p :: r')
theorem Del.mem {a N N'} (u : Del a N N') : ∃ f, (a, f) ∈ N := by
  induction u with
  | head => exact ⟨_, .head _⟩
  | tail _ ih => let ⟨f, hf⟩ := ih; exact ⟨f, .tail _ hf⟩
theorem Del.subl {a N N'} (u : Del a N N') : List.Sublist N' N := by
  induction u with
  | head => exact List.sublist_cons_self _ _
  | tail _ ih => exact ih.cons_cons _
theorem Del.ne {a N N'} (u : Del a N N') (nd : (N.map (·.1)).Nodup) : ∀ p ∈ N', p.1 ≠ a := by
  induction u with
  | @head f r =>
    intro p hp e
    rw [List.map_cons, List.nodup_cons] at nd
    exact nd.1 (e ▸ List.mem_map_of_mem (f := (·.1)) hp)
  | @tail q r r' u ih =>
    intro p hp
    rw [List.map_cons, List.nodup_cons] at nd
    rcases List.mem_cons.mp hp with rfl | hp
    · intro e
      obtain ⟨f, hf⟩ := u.mem
      exact nd.1 (e ▸ List.mem_map_of_mem (f := (·.1)) hf)
    · exact ih nd.2 p hp

section
variable {mg mb : Str → Option Value} {h₀ h h' : Heap} {N N' : List (Addr × Fact)} {a : Addr} {f f' : Fact}
theorem St.start (W : Wd mg mb h) : St mg mb h [] h := ⟨W, Ext.refl _, fun _ hp => (nomatch hp), fun _ hp => (nomatch hp), List.nodup_nil⟩
theorem St.get (D : St mg mb h₀ N h) (hm : (a, f) ∈ N) : f.at h a := D.here _ hm
theorem St.old (D : St mg mb h₀ N h) {o : Obj} (e : h₀.get? a = some o) : h.get? a = some o := D.keep _ _ e
theorem St.oldf (D : St mg mb h₀ N h) (hf : f.at h₀ a) : f.at h a := hf.keep fun o => D.keep _ o
theorem St.wdn (D : St mg mb h₀ N h) : Wd mg mb h := D.wd.ext D.keep
theorem St.ext (D : St mg mb h₀ N h) (k : Ext h h') : St mg mb h₀ N h' := ⟨D.wd, D.keep.trans k, fun p hp => (D.here p hp).keep fun o => k _ o, D.own, D.nd⟩
theorem St.fresh (D : St mg mb h₀ N h) : h₀.get? h.objs.size = none ∧ ∀ p ∈ N, p.1 ≠ h.objs.size := by
  refine ⟨?_, fun p hp => Nat.ne_of_lt (D.here p hp).lt⟩
  cases e : h₀.get? h.objs.size with
  | none => rfl
  | some o => exact absurd (Heap.lt_size (D.keep _ _ e)) (Nat.lt_irrefl _)
/-- a new object -/
theorem St.add (D : St mg mb h₀ N h) (k : Ext h h') (hf : f.at h' a) (ha : h.objs.size ≤ a) : St mg mb h₀ ((a, f) :: N) h' := by
  have D' := D.ext k
  refine ⟨D'.wd, D'.keep, ?_, ?_, ?_⟩
  · intro p hp
    rcases List.mem_cons.mp hp with rfl | hp
    · exact hf
    · exact D'.here p hp
  · intro p hp
    rcases List.mem_cons.mp hp with rfl | hp
    · cases e : h₀.get? a with
      | none => rfl
      | some o => exact absurd (Nat.lt_of_lt_of_le (Heap.lt_size (D.keep _ _ e)) ha) (Nat.lt_irrefl _)
    · exact D.own p hp
  · rw [List.map_cons, List.nodup_cons]
    refine ⟨fun hm => ?_, D.nd⟩
    obtain ⟨p, hp, e⟩ := List.mem_map.mp hm
    exact absurd (Nat.lt_of_lt_of_le (D.here p hp).lt ha) (e ▸ Nat.lt_irrefl _)
theorem St.put (D : St mg mb h₀ N h) (k : Ext h h') (hf : f.at h' a) (hn : h.get? a = none) : St mg mb h₀ ((a, f) :: N) h' := by
  have D' := D.ext k
  refine ⟨D'.wd, D'.keep, ?_, ?_, ?_⟩
  · intro p hp
    rcases List.mem_cons.mp hp with rfl | hp
    · exact hf
    · exact D'.here p hp
  · intro p hp
    rcases List.mem_cons.mp hp with rfl | hp
    · cases e : h₀.get? a with
      | none => rfl
      | some o => have := D.keep _ _ e; rw [hn] at this; cases this
    · exact D.own p hp
  · rw [List.map_cons, List.nodup_cons]
    refine ⟨fun hm => ?_, D.nd⟩
    obtain ⟨p, hp, e⟩ := List.mem_map.mp hm
    obtain ⟨ob, eb, _⟩ := D.here p hp
    rw [e] at eb
    change h.get? a = some ob at eb
    rw [hn] at eb
    cases eb
theorem St.new (D : St mg mb h₀ N h) (hm : (a, f) ∈ N) : h₀.get? a = none := D.own _ hm
theorem St.push (D : St mg mb h₀ N h) {o : Obj} (hf : f.ok o) (hfr : o.isFreed = false) : St mg mb h₀ ((h.objs.size, f) :: N) (h.push o) :=
  D.add (Ext.push h o) ⟨o, Heap.get?_push_size _ hfr, hf⟩ (Nat.le_refl _)
/-- a change of one object of the ledger -/
theorem St.upd (D : St mg mb h₀ N h) (u : Upd a f' f N N') (k : Heap.ExtBut a h h') (hf : f'.at h' a) : St mg mb h₀ N' h' := by
  have ha := D.own _ u.mem
  refine ⟨D.wd, fun b o e => k b o (fun z => by subst z; rw [ha] at e; cases e) (D.keep b o e), ?_, ?_, ?_⟩
  · intro p hp
    rcases u.split D.nd p hp with rfl | ⟨hp, hne⟩
    · exact hf
    · exact (D.here p hp).keep fun o => k _ o hne
  · intro p hp
    rcases u.split D.nd p hp with rfl | ⟨hp, _⟩
    · exact ha
    · exact D.own p hp
  · rw [u.keys]; exact D.nd
theorem St.sub (D : St mg mb h₀ N h) (s : List.Sublist N' N) : St mg mb h₀ N' h :=
  ⟨D.wd, D.keep, fun p hp => D.here p (s.subset hp), fun p hp => D.own p (s.subset hp), (s.map _).nodup D.nd⟩
/-- an object let go -/
theorem St.del (D : St mg mb h₀ N h) (u : Del a N N') (k : Heap.ExtBut a h h') : St mg mb h₀ N' h' := by
  obtain ⟨f, hf⟩ := u.mem
  have ha := D.own _ hf
  refine ⟨D.wd, fun b o e => k b o (fun z => by subst z; rw [ha] at e; cases e) (D.keep b o e), fun p hp => ?_, fun p hp => D.own p (u.subl.subset hp), (u.subl.map _).nodup D.nd⟩
  exact (D.here p (u.subl.subset hp)).keep fun o => k _ o (u.ne D.nd p hp)
theorem St.tl (D : St mg mb h₀ ((a, f) :: N) h) : St mg mb h₀ N h := D.sub (List.sublist_cons_self _ _)
theorem St.perm (D : St mg mb h₀ N h) (s : List.Perm N' N) : St mg mb h₀ N' h :=
  ⟨D.wd, D.keep, fun p hp => D.here p (s.subset hp), fun p hp => D.own p (s.subset hp), (s.map _).symm.nodup D.nd⟩
theorem St.ne {b : Addr} {f₂ : Fact} {r : List (Addr × Fact)} (D : St mg mb h₀ ((a, f) :: r) h) (hm : (b, f₂) ∈ r) : a ≠ b := by
  have := D.nd
  rw [List.map_cons, List.nodup_cons] at this
  exact fun e => this.1 (e ▸ List.mem_map_of_mem (f := (·.1)) hm)
inductive Sees (E : List (Str × Value)) : List (Str × Value) → Prop
  | nil : Sees E []
  | cons {x v r} : E.lookup x = some v → Sees E r → Sees E ((x, v) :: r)
theorem Sees.get {E E' : List (Str × Value)} (s : Sees E E') {x : Str} {v : Value} (e : E'.lookup x = some v) : E.lookup x = some v := by
  induction s with
  | nil => cases e
  | @cons y u r hy _ ih =>
    rw [List.lookup_cons] at e
    by_cases hx : x = y
    · subst hx
      rw [beq_self_eq_true] at e
      exact hy.trans e
    · rw [beq_eq_false_iff_ne.mpr hx] at e
      exact ih e
/-- a namespace seen with less -/
theorem St.see (D : St mg mb h₀ N h) {E E' : List (Str × Value)} (u : Upd a (.ns E') (.ns E) N N') (s : Sees E E') : St mg mb h₀ N' h := by
  refine D.upd u (Heap.ExtBut.refl _ _) ?_
  obtain ⟨ob, e, es, ep, hd, hk, hl⟩ := D.get u.mem
  exact ⟨ob, e, es, ep, hd, hk, fun x v hx => hl x v (s.get hx)⟩
theorem St.off (D : St mg mb h₀ N h) (hm : (a, f) ∈ N) {b : Addr} {o : Obj} (e : h₀.get? b = some o) : b ≠ a := fun z => by
  have := D.own _ hm
  rw [z] at e
  rw [e] at this
  cases this
end
end Mine

end
section
open PySem PySem.Calls PySem.W PyProof.Rows
set_option maxRecDepth 100000
namespace Mine
section
variable {prog : Program} {w : World} {A : Around} {X : Value → Shared → Prop} {g : Array GenState} {d : Drawn} {t : Nat} {o : OsState} {mg mb : Str → Option Value} {h₀ h : Heap} {N N' : List (Addr × Fact)} {env : Env}

/-! names -/
theorem r_local {x : Str} {pos : Pos} {v : Value} {L : Addr} {E : List (Str × Value)} {Q : Value → Shared → Prop} (D : St mg mb h₀ N h) (hm : (L, Fact.ns E) ∈ N) (hv : E.lookup x = some v) (hQ : Q v ⟨h, g, d, t, o⟩)
    (hL : env.locals = L := by rfl) (hk : env.scope.kind = .function := by rfl) (hl : env.kindOf x = some .local := by rfl) (hd : (x == ("__debug__" : Str)) = false := by decide) :
    wpAny (model prog w) A (eval (.Name x pos) env) Q X ⟨h, g, d, t, o⟩ := by
  subst hL
  obtain ⟨m, hn, hm'⟩ := (D.get hm).ns
  exact wpAny_Name (wpAny_loadName_local hk hl hn (hm' _ _ hv) hQ) hd
theorem r_localN {x : Str} {v : Value} {L : Addr} {E : List (Str × Value)} {Q : Value → Shared → Prop} (D : St mg mb h₀ N h) (hm : (L, Fact.ns E) ∈ N) (hv : E.lookup x = some v) (hQ : Q v ⟨h, g, d, t, o⟩)
    (hL : env.locals = L := by rfl) (hk : env.scope.kind = .function := by rfl) (hl : env.kindOf x = some .local := by rfl) :
    wpAny (model prog w) A (loadName env x) Q X ⟨h, g, d, t, o⟩ := by
  subst hL
  obtain ⟨m, hn, hm'⟩ := (D.get hm).ns
  exact wpAny_loadName_local hk hl hn (hm' _ _ hv) hQ
theorem r_cell {x : Str} {pos : Pos} {v : Value} {c : Addr} {Q : Value → Shared → Prop} (D : St mg mb h₀ N h) (hc : env.cells.lookup x = some c) (hm : (c, Fact.cell (some v)) ∈ N) (hQ : Q v ⟨h, g, d, t, o⟩)
    (hk : env.scope.kind = .function := by rfl) (hl : env.kindOf x = some .cell := by rfl) (hd : (x == ("__debug__" : Str)) = false := by decide) :
    wpAny (model prog w) A (eval (.Name x pos) env) Q X ⟨h, g, d, t, o⟩ :=
  wpAny_Name (wpAny_loadName_cell hk hl hc (D.get hm).isCell hQ) hd
theorem r_cellN {x : Str} {v : Value} {c : Addr} {Q : Value → Shared → Prop} (D : St mg mb h₀ N h) (hc : env.cells.lookup x = some c) (hm : (c, Fact.cell (some v)) ∈ N) (hQ : Q v ⟨h, g, d, t, o⟩)
    (hk : env.scope.kind = .function := by rfl) (hl : env.kindOf x = some .cell := by rfl) :
    wpAny (model prog w) A (loadName env x) Q X ⟨h, g, d, t, o⟩ :=
  wpAny_loadName_cell hk hl hc (D.get hm).isCell hQ
theorem r_glob {x : Str} {pos : Pos} {v : Value} {Q : Value → Shared → Prop} (D : St mg mb h₀ N h) (hv : mg x = some v) (hQ : Q v ⟨h, g, d, t, o⟩)
    (hg : env.globals = mainGlobals := by rfl) (hk : env.scope.kind = .function := by rfl) (hl : env.kindOf x = some .globalImplicit := by rfl) (hd : (x == ("__debug__" : Str)) = false := by decide) :
    wpAny (model prog w) A (eval (.Name x pos) env) Q X ⟨h, g, d, t, o⟩ :=
  Name_function_global hk hl (loadGlobal_global (by rw [hg]; exact D.wdn.g) hv hQ) hd
theorem r_blt {x : Str} {pos : Pos} {v : Value} {Q : Value → Shared → Prop} (D : St mg mb h₀ N h) (hv : blts.lookup x = some v) (hQ : Q v ⟨h, g, d, t, o⟩)
    (hg : env.globals = mainGlobals := by rfl) (hb : env.builtins = builtinsNs := by rfl) (hk : env.scope.kind = .function := by rfl) (hl : env.kindOf x = some .globalImplicit := by rfl) (hd : (x == ("__debug__" : Str)) = false := by decide) :
    wpAny (model prog w) A (eval (.Name x pos) env) Q X ⟨h, g, d, t, o⟩ :=
  Name_function_global hk hl (loadGlobal_builtin (by rw [hg]; exact D.wdn.g) (D.wd.blt x v hv).1 (by rw [hb]; exact D.wdn.b) (D.wd.blt x v hv).2 hQ) hd

/-! stores -/
theorem r_st {x : Str} {v : Value} {L : Addr} {E : List (Str × Value)} {Q : Unit → Shared → Prop} (D : St mg mb h₀ N h) (u : Upd L (.ns ((x, v) :: E)) (.ns E) N N') (hQ : ∀ h' t', St mg mb h₀ N' h' → Q () ⟨h', g, d, t', o⟩)
    (hL : env.locals = L := by rfl) (hk : env.scope.kind = .function := by rfl) (hl : env.kindOf x = some .local := by rfl) :
    wpAny (model prog w) A (storeName env x v) Q X ⟨h, g, d, t, o⟩ := by
  subst hL
  obtain ⟨m, hn, hm'⟩ := (D.get u.mem).ns
  refine wpAny_storeName_local hl hn (fun h' hn' hs => hQ h' _ (D.upd u hs.extBut (ns_at hn' fun n v' e => ?_))) (by rw [hk]; rfl)
  rw [List.lookup_cons] at e
  by_cases hx : n = x
  · subst hx; simpa using e
  · rw [beq_eq_false_iff_ne.mpr hx] at e
    simpa [hx] using hm' _ _ e
theorem r_stc {x : Str} {v : Value} {v₀ : Option Value} {c : Addr} {Q : Unit → Shared → Prop} (D : St mg mb h₀ N h) (hc : env.cells.lookup x = some c) (u : Upd c (.cell (some v)) (.cell v₀) N N') (hQ : ∀ h' t', St mg mb h₀ N' h' → Q () ⟨h', g, d, t', o⟩)
    (hk : env.scope.kind = .function := by rfl) (hl : env.kindOf x = some .cell := by rfl) :
    wpAny (model prog w) A (storeName env x v) Q X ⟨h, g, d, t, o⟩ :=
  wpAny_storeName_cell hk hl hc (D.get u.mem).isCell (fun h' hv hs => hQ h' _ (D.upd u hs.extBut hv))

/-! constants -/
theorem r_int {i : Int} {k : Nat} {pos : Pos} {Q : Value → Shared → Prop} (hQ : ∀ t t', Q (.int i t) ⟨h, g, d, t', o⟩) : wpAny (model prog w) A (eval (.Constant (.int i) k pos) env) Q X ⟨h, g, d, t, o⟩ := wpAny_Constant_int (hQ _ _)
theorem r_str {x : Str} {k : Nat} {pos : Pos} {Q : Value → Shared → Prop} (hQ : ∀ t t', Q (.str x t) ⟨h, g, d, t', o⟩) : wpAny (model prog w) A (eval (.Constant (.str x) k pos) env) Q X ⟨h, g, d, t, o⟩ := wpAny_Constant_str (hQ _ _)
theorem r_bytes {b : List UInt8} {k : Nat} {pos : Pos} {Q : Value → Shared → Prop} (hQ : ∀ t t', Q (.bytes b.toArray t) ⟨h, g, d, t', o⟩) : wpAny (model prog w) A (eval (.Constant (.bytes b) k pos) env) Q X ⟨h, g, d, t, o⟩ := fun _ _ _ => hQ _ _

/-! calls -/
theorem cw_blt {id : String} {e : Expr} {rest : List Expr} {first : List Value} {pos : Pos} {s : Shared} {Q : Value → Shared → Prop}
    (hq : wpAny (model prog w) A (spliced (backTo pos (starEach (e :: rest) env))) (fun vs s₁ => wpAny (model prog w) A (call (.builtin id) (first ++ vs)) Q X s₁) X s)
    (he : starEach (e :: rest) env = (false, eval e env) :: starEach rest env := by rfl) (hp : (backTo pos (starEach rest env)).any (·.1) = false := by rfl) :
    wpAny (model prog w) A (callWith pos (.builtin id) first (backTo pos (starEach (e :: rest) env)) []) Q X s := by
  rw [he] at hq ⊢
  exact callWith_of (P := fun _ => True) (by show ((false || (backTo pos (starEach rest env)).any (·.1)) || false) = false; rw [hp]; rfl) (fun _ _ => ⟨.machine, .inr (.inl rfl), Looks.of_pure rfl⟩)
    (evalArgs_plain (wpAny_mono hq (fun _ _ q => ⟨trivial, q⟩) fun _ _ e => e))
theorem cw_type {id : String} {e : Expr} {rest : List Expr} {first : List Value} {pos : Pos} {s : Shared} {Q : Value → Shared → Prop}
    (hq : wpAny (model prog w) A (spliced (backTo pos (starEach (e :: rest) env))) (fun vs s₁ => wpAny (model prog w) A (call (.type id) (first ++ vs)) Q X s₁) X s)
    (he : starEach (e :: rest) env = (false, eval e env) :: starEach rest env := by rfl) (hp : (backTo pos (starEach rest env)).any (·.1) = false := by rfl) :
    wpAny (model prog w) A (callWith pos (.type id) first (backTo pos (starEach (e :: rest) env)) []) Q X s := by
  rw [he] at hq ⊢
  exact callWith_of (P := fun _ => True) (by show ((false || (backTo pos (starEach rest env)).any (·.1)) || false) = false; rw [hp]; rfl) (fun _ _ => ⟨.machine, .inr (.inl rfl), Looks.of_pure rfl⟩)
    (evalArgs_plain (wpAny_mono hq (fun _ _ q => ⟨trivial, q⟩) fun _ _ e => e))
/-- a def of the text's -/
def FnHere (a : Addr) (h : Heap) : Prop := ∃ o fd, h.get? a = some o ∧ o.data = .func fd
theorem FnHere.ext {a : Addr} {h h' : Heap} (x : FnHere a h) (k : Ext h h') : FnHere a h' := let ⟨o, fd, e, d⟩ := x; ⟨o, fd, k _ _ e, d⟩
theorem FnAt.here {mg : Str → Option Value} {h : Heap} {name : Str} {params : Arguments} {body : List Stmt} {scope : Scope} {a : Addr} (F : FnAt mg h name params body scope a) : FnHere a h := let ⟨o, _, _, _, e, d, _⟩ := F.o; ⟨o, _, e, d⟩
theorem cw_fn {a : Addr} {e : Expr} {rest : List Expr} {first : List Value} {pos : Pos} {s : Shared} {Q : Value → Shared → Prop}
    (hq : wpAny (model prog w) A (spliced (backTo pos (starEach (e :: rest) env))) (fun vs s₁ => FnHere a s₁.heap ∧ wpAny (model prog w) A (call (.ref a) (first ++ vs)) Q X s₁) X s)
    (he : starEach (e :: rest) env = (false, eval e env) :: starEach rest env := by rfl) (hp : (backTo pos (starEach rest env)).any (·.1) = false := by rfl) :
    wpAny (model prog w) A (callWith pos (.ref a) first (backTo pos (starEach (e :: rest) env)) []) Q X s := by
  rw [he] at hq ⊢
  exact callWith_of (P := FnHere a) (by show ((false || (backTo pos (starEach rest env)).any (·.1)) || false) = false; rw [hp]; rfl)
    (fun hh y => let ⟨o, fd, e, dd⟩ := y; ⟨.frame, .inl rfl, (Looks.ld (part := none) e).andThen (by rw [dd]; exact Looks.now)⟩)
    (evalArgs_plain hq)

theorem fcall {name : Str} {params : Arguments} {body : List Stmt} {scope : Scope} {a : Addr} {args : List Value} {binds : List (Str × Value)} {Q : Value → Shared → Prop}
    (W : Wd mg mb h) (F : FnAt mg h name params body scope a) (hR : A.depth < recursionLimit)
    (hbind : ∀ pm cd doc, bindArgs (docDef name params body scope pm cd doc) ⟨args, []⟩ = pure binds)
    (hloc : ∀ x ∈ binds, scope.names.lookup x.1 = some .local)
    (hq : ∀ L cd h₁ t₁, St mg mb h [(L, .ns binds.reverse)] h₁ → wpAny (model prog w) (A.deeper (envOf name scope L a cd)) (execs body (envOf name scope L a cd))
      (fun f s' => Q (match f with | .ret v => v | _ => .none) s') (fun _ _ => False) ⟨h₁, g, d, t₁, o⟩)
    (hco : scope.isCoroutine = false := by rfl) (hgen : scope.isGenerator = false := by rfl) (hk : scope.kind = .function := by rfl)
    (hcell : ∀ x ∈ scope.names, x.2 ≠ .cell := by decide) :
    wpAny (model prog w) A (call (.ref a) args) Q X ⟨h, g, d, t, o⟩ := by
  obtain ⟨ob, pm, cd, doc, ho, hd, hc⟩ := F.o
  refine wpAny_call (call_plain_ret hR ho hd W.nolim hc (hbind pm cd doc) hloc (fun h₁ F₁ => ?_) hco hgen hk hcell)
  refine wpAny_mono (hq _ cd h₁ _ ⟨W, F₁.keep, ?_, ?_, by simp⟩) (fun _ _ q => q) fun _ _ e => e
  · intro p hp
    rw [List.mem_singleton.mp hp]
    exact ns_at F₁.ns fun _ _ e => e
  · intro p hp
    rw [List.mem_singleton.mp hp]
    show h.get? h.objs.size = none
    cases e : h.get? h.objs.size with
    | none => rfl
    | some o => exact absurd (Heap.lt_size e) (Nat.lt_irrefl _)

/-! lists -/
theorem r_newList {vs : List Value} {Q : Value → Shared → Prop} (D : St mg mb h₀ N h) (hQ : ∀ a h', St mg mb h₀ ((a, .lst vs) :: N) h' → Q (.ref a) ⟨h', g, d, t, o⟩) (hsz : vs.length ≤ sizeLine := by size_fits) :
    wpAny (model prog w) A (newList vs) Q X ⟨h, g, d, t, o⟩ := by
  refine wpAny_newObj_type (hQ _ _ (D.push ?_ rfl)) (by show vs.toArray.size ≤ sizeLine; rw [List.size_toArray]; exact hsz)
  exact ⟨rfl, rfl, rfl, _, rfl⟩
theorem r_newTuple {vs : List Value} {Q : Value → Shared → Prop} (D : St mg mb h₀ N h) (hQ : ∀ a h', St mg mb h₀ ((a, .tup vs) :: N) h' → Q (.ref a) ⟨h', g, d, t, o⟩) (hsz : vs.length ≤ sizeLine := by size_fits) :
    wpAny (model prog w) A (newTuple vs) Q X ⟨h, g, d, t, o⟩ := by
  refine wpAny_newObj_type (hQ _ _ (D.push ?_ rfl)) (by show vs.toArray.size ≤ sizeLine; rw [List.size_toArray]; exact hsz)
  exact ⟨rfl, rfl, rfl, _, rfl⟩
theorem r_append {xs : List Value} {a : Addr} {x : Value} {Q : Value → Shared → Prop} (D : St mg mb h₀ N h) (u : Upd a (.lst (xs ++ [x])) (.lst xs) N N') (hQ : ∀ h', St mg mb h₀ N' h' → Q .none ⟨h', g, d, t, o⟩) (hsz : xs.length ≤ sizeLine := by size_fits) :
    wpAny (model prog w) A (call (.builtin "list.append") [.ref a, x]) Q X ⟨h, g, d, t, o⟩ := by
  obtain ⟨ob, ho, hc, hdi, hsl, n, hd⟩ := D.get u.mem
  refine wpAny_call_entry slot_list_append ⟨ob, ho, hc⟩ entry_list_append ?_ (args_list_append _ _)
  show wpAny _ _ (updateSeq a (·.push x) >>= fun _ => ret .none) _ _ _
  refine wpAny_bind ?_
  refine wpAny_updateSeq ho hd (wpAny_pure ⟨.none, rfl, hQ _ (D.upd u (Heap.SameBut.update ..).extBut ?_)⟩)
  obtain ⟨c, di, dt, sl⟩ := ob
  dsimp only at hc hdi hsl hd
  subst hc hdi hsl hd
  exact ⟨_, Heap.get?_update_self _ ho rfl, rfl, rfl, rfl, n + 1, by simp [Obj.mapSeq]⟩
end
end Mine

end
section
open PySem PySem.Calls PySem.W PyProof.Rows
set_option maxRecDepth 100000
namespace Mine
section
variable {prog : Program} {w : World} {A : Around} {X : Value → Shared → Prop} {g : Array GenState} {d : Drawn} {t : Nat} {o : OsState} {mg mb : Str → Option Value} {h₀ h : Heap} {N N' : List (Addr × Fact)} {env : Env}

/-! iterators -/
theorem pi_list {l : Addr} {xs : List Value} {Q : Value → Shared → Prop} (D : St mg mb h₀ N h) (hl : (Fact.lst xs).at h l) (hQ : ∀ I h', St mg mb h₀ ((I, .li l 0) :: N) h' → Q (.ref I) ⟨h', g, d, t, o⟩) :
    wpAny (model prog w) A (pyIter (.ref l)) Q X ⟨h, g, d, t, o⟩ := wpAny_pyIter_list (s := ⟨h, g, d, t, o⟩) hl.isList (hQ _ _ (D.push ⟨rfl, rfl⟩ rfl))
theorem pi_tup {l : Addr} {xs : List Value} {Q : Value → Shared → Prop} (D : St mg mb h₀ N h) (hl : (Fact.tup xs).at h l) (hQ : ∀ I h', St mg mb h₀ ((I, .ti l 0) :: N) h' → Q (.ref I) ⟨h', g, d, t, o⟩) :
    wpAny (model prog w) A (pyIter (.ref l)) Q X ⟨h, g, d, t, o⟩ := wpAny_pyIter_tuple (s := ⟨h, g, d, t, o⟩) hl.isTuple (hQ _ _ (D.push ⟨rfl, rfl⟩ rfl))
theorem pn_list {I l : Addr} {k : Nat} {xs : List Value} {v : Value} {Q : Option Value → Shared → Prop} (D : St mg mb h₀ N h) (u : Upd I (.li l (k + 1)) (.li l k) N N') (hl : (Fact.lst xs).at h l) (hx : xs[k]? = some v)
    (hQ : ∀ h', St mg mb h₀ N' h' → Q (some v) ⟨h', g, d, t, o⟩) : wpAny (model prog w) A (pyNext (.ref I)) Q X ⟨h, g, d, t, o⟩ :=
  wpAny_pyNext_list_item (s := ⟨h, g, d, t, o⟩) (D.get u.mem).isLi hl.isList (by rw [List.getElem?_toArray]; exact hx) fun h' hit hs => hQ h' (D.upd u hs.extBut hit)
theorem pn_list_end {I l : Addr} {k : Nat} {xs : List Value} {Q : Option Value → Shared → Prop} (hh : A.handled = none) (D : St mg mb h₀ N h) (hm : (I, Fact.li l k) ∈ N) (hl : (Fact.lst xs).at h l) (hx : xs.length ≤ k) (u : Del I N N')
    (hQ : ∀ h', St mg mb h₀ N' h' → Q none ⟨h', g, d, t, o⟩) : wpAny (model prog w) A (pyNext (.ref I)) Q X ⟨h, g, d, t, o⟩ :=
  wpAny_pyNext_list_end (s := ⟨h, g, d, t, o⟩) hh (D.get hm).isLi hl.isList (by rw [List.getElem?_toArray]; exact List.getElem?_eq_none hx) fun h' k => hQ h' (D.del u k)
theorem pn_tup {I l : Addr} {k : Nat} {xs : List Value} {v : Value} {Q : Option Value → Shared → Prop} (D : St mg mb h₀ N h) (u : Upd I (.ti l (k + 1)) (.ti l k) N N') (hl : (Fact.tup xs).at h l) (hx : xs[k]? = some v)
    (hQ : ∀ h', St mg mb h₀ N' h' → Q (some v) ⟨h', g, d, t, o⟩) : wpAny (model prog w) A (pyNext (.ref I)) Q X ⟨h, g, d, t, o⟩ :=
  wpAny_pyNext_tuple_item (s := ⟨h, g, d, t, o⟩) (D.get u.mem).isTi hl.isTuple (by rw [List.getElem?_toArray]; exact hx) fun h' hit hs => hQ h' (D.upd u hs.extBut hit)
theorem pn_tup_end {I l : Addr} {k : Nat} {xs : List Value} {Q : Option Value → Shared → Prop} (hh : A.handled = none) (D : St mg mb h₀ N h) (hm : (I, Fact.ti l k) ∈ N) (hl : (Fact.tup xs).at h l) (hx : xs.length ≤ k) (u : Del I N N')
    (hQ : ∀ h', St mg mb h₀ N' h' → Q none ⟨h', g, d, t, o⟩) : wpAny (model prog w) A (pyNext (.ref I)) Q X ⟨h, g, d, t, o⟩ :=
  wpAny_pyNext_tuple_end (s := ⟨h, g, d, t, o⟩) hh (D.get hm).isTi hl.isTuple (by rw [List.getElem?_toArray]; exact List.getElem?_eq_none hx) fun h' k => hQ h' (D.del u k)

/-! for -/
def ForT (prog : Program) (w : World) (A : Around) (E : Value → Shared → Prop) (env : Env) (tgt : Expr) (it : Value) (body orelse : List Stmt) (Q : Flow → Shared → Prop) : Nat → Shared → Prop
  | 0, s => wpAny (model prog w) A (pyNext it) (fun r s₁ => match r with
      | none => wpAny (model prog w) A (execs orelse env) Q E s₁
      | some _ => False) E s
  | n + 1, s => wpAny (model prog w) A (pyNext it) (fun r s₁ => match r with
      | none => wpAny (model prog w) A (execs orelse env) Q E s₁
      | some v => wpAny (model prog w) A (letOwnedTupleGo tgt it v) (fun _ s₁' => wpAny (model prog w) A (assign tgt env v) (fun _ s₂ => wpAny (model prog w) A (execs body env) (fun f s₃ => match f with
          | .next | .cont => ForT prog w A E env tgt it body orelse Q n s₃
          | .brk => Q .next s₃
          | .ret v => Q (.ret v) s₃) E s₂) E s₁') E s₁) E s
theorem forT_loop {tgt : Expr} {it : Value} {body orelse : List Stmt} {Q : Flow → Shared → Prop} {E : Value → Shared → Prop} {s : Shared} (n : Nat)
    (h : ForT prog w A (notedBy (model prog w) A env (cameBackBy (model prog w) A env E)) env tgt it body orelse Q n s) :
    codeAny (model prog w) A (.forLoop tgt it body orelse env) (fun r s' => match r with | .ok f => Q f s' | .error e => cameBackBy (model prog w) A env E e s') s := by
  refine codeAny_forLoop_any (fun k s' => ForT prog w A (notedBy (model prog w) A env (cameBackBy (model prog w) A env E)) env tgt it body orelse Q k s') (fun k s' hk => ?_) n h
  cases k with
  | zero =>
    refine wpAny_mono hk (fun r s₁ h₁ => ?_) fun _ _ e => e
    cases r with
    | none => exact h₁
    | some v => exact h₁.elim
  | succ k =>
    refine wpAny_mono hk (fun r s₁ h₁ => ?_) fun _ _ e => e
    cases r with
    | none => exact h₁
    | some v =>
      refine wpAny_mono h₁ (fun _ s₁' h₁' => wpAny_mono h₁' (fun _ s₂ h₂ => wpAny_mono h₂ (fun f s₃ h₃ => ?_) fun _ _ e => e) fun _ _ e => e) fun _ _ e => e
      cases f with
      | next => exact ⟨k, Nat.lt_succ_self _, h₃⟩
      | cont => exact ⟨k, Nat.lt_succ_self _, h₃⟩
      | brk => exact h₃
      | ret v => exact h₃
theorem r_For {target iter : Expr} {body orelse : List Stmt} {pos : Pos} {Q : Flow → Shared → Prop} {s : Shared}
    (h : wpAny (model prog w) A (eval iter env) (fun x s₁ => wpAny (model prog w) A (pyIter x) (fun it s₂ => ∃ n, ∀ E, ForT prog w A E env target it body orelse Q n s₂) X s₁) X s)
    (hs : ∀ x, foldedSetIterable iter env x = pure x := by intro _; rfl) :
    wpAny (model prog w) A (exec (.For target iter body orelse pos) env) Q X s :=
  wpAny_For (wpAny_mono h (fun x s₁ h₁ => wpAny_mono h₁ (fun it s₂ h₂ => let ⟨n, hn⟩ := h₂; forT_loop n (hn _)) fun _ _ e => e) fun _ _ e => e) hs

/-! comprehensions -/
def CompT (prog : Program) (w : World) (A : Around) (E : Value → Shared → Prop) (cenv : Env) (tgt : Expr) (ifs : List Expr) (it : Value) (work : Sem Unit) (Q : Shared → Prop) : Nat → Shared → Prop
  | 0, s => wpAny (model prog w) A (pyNext it) (fun r s₁ => match r with | none => Q s₁ | some _ => False) E s
  | n + 1, s => wpAny (model prog w) A (pyNext it) (fun r s₁ => match r with
      | none => Q s₁
      | some v => wpAny (model prog w) A (letOwnedTupleGo tgt it v) (fun _ s₁' => wpAny (model prog w) A (assign tgt cenv v) (fun _ s₂ =>
          wpAny (model prog w) A (forIn ifs true fun c r => if r = true then do let ok ← isTrue c cenv (eval c cenv); pure (ForInStep.yield ok) else pure (ForInStep.yield r)) (fun ok s₃ =>
            if ok = true then wpAny (model prog w) A work (fun _ s₄ => CompT prog w A E cenv tgt ifs it work Q n s₄) E s₃ else CompT prog w A E cenv tgt ifs it work Q n s₃) E s₂) E s₁') E s₁) E s
def turnTree (p : Pos) (c : Code) (tgt : Expr) (ifs : List Expr) (it : Value) (work : Sem Unit) (env : Env) : Sem Fin := do
  standAt p
  match ← pyNext it with
  | none => pure (.done .next)
  | some v =>
    letOwnedTupleGo tgt it v
    assign tgt env v
    let mut ok := true
    for c in ifs do
      if ok then ok ← isTrue c env (eval c env)
    if ok then work
    again c
theorem compT_loop {c : Code} {tgt : Expr} {ifs : List Expr} {it : Value} {work : Sem Unit} {R : Result → Shared → Prop} {s : Shared} {p : Pos} (n : Nat)
    (hq : c.quiet = true) (hden : (model prog w).den c = (turnTree p c tgt ifs it work env).onRaise (fun x => do noteFrame x env; theTreesLotGoes x))
    (hA : A.under c = A)
    (h : CompT prog w A (notedBy (model prog w) A env fun e s' => R (.error e) s') env tgt ifs it work (R (.ok .next)) n s) :
    codeAny (model prog w) A c R s := by
  refine codeAny_loop hq (fun k s' => CompT prog w A (notedBy (model prog w) A env fun e s' => R (.error e) s') env tgt ifs it work (R (.ok .next)) k s') (fun k s' hk => ?_) n h
  rw [hden, hA]
  refine wpAny_noted ?_
  cases k with
  | zero =>
    refine wpAny_bind (wpAny_standAt (wpAny_bind (wpAny_mono hk (fun r s₁ h₁ => ?_) fun _ _ h' => h')))
    cases r with
    | none => exact wpAny_pure h₁
    | some v => exact h₁.elim
  | succ k =>
    refine wpAny_bind (wpAny_standAt (wpAny_bind (wpAny_mono hk (fun r s₁ h₁ => ?_) fun _ _ h' => h')))
    cases r with
    | none => exact wpAny_pure h₁
    | some v =>
      refine wpAny_bind (wpAny_mono h₁ (fun _ s₁' h₁' => ?_) fun _ _ h' => h')
      refine wpAny_bind (wpAny_mono h₁' (fun _ s₂ h₂ => wpAny_bind (wpAny_mono h₂ (fun ok s₃ h₃ => ?_) fun _ _ h' => h')) fun _ _ h' => h')
      cases ok with
      | false => exact wpAny_pure ⟨rfl, k, Nat.lt_succ_self _, h₃⟩
      | true => exact wpAny_bind (wpAny_mono h₃ (fun _ s₄ h₄ => wpAny_pure ⟨rfl, k, Nat.lt_succ_self _, h₄⟩) fun _ _ h' => h')
def emitL (elt : Expr) (acc : Value) (env : Env) : Sem Unit := do let _ ← call (.builtin "list.append") [acc, ← eval elt env]
def innerL (elt : Expr) (gens : List Comprehension) (iter : Expr) (scope : Scope) (pos : Pos) (acc : Value) (env : Env) : Sem Unit := do
  let x ← eval iter env
  standAt iter.pos
  let x ← foldedSetIterable iter env x
  let _ ← runOwn (.compStart (.ListComp elt gens scope pos) 1 (← holding [x] (pyIter x)) acc env) env
theorem comp1 {elt tgt iter : Expr} {ifs : List Expr} {scope : Scope} {pos : Pos} {it acc : Value} {R : Result → Shared → Prop} {s : Shared}
    (h : ∃ n, ∀ E, CompT prog w A E env tgt ifs it (emitL elt acc env) (R (.ok .next)) n s) :
    codeAny (model prog w) A (.compLoop (.ListComp elt [⟨tgt, iter, ifs, 0⟩] scope pos) 0 it acc env) R s :=
  let ⟨n, h⟩ := h; compT_loop n rfl rfl rfl (h _)
theorem comp20 {elt tgt iter tgt' iter' : Expr} {ifs ifs' : List Expr} {scope : Scope} {pos : Pos} {it acc : Value} {R : Result → Shared → Prop} {s : Shared}
    (h : ∃ n, ∀ E, CompT prog w A E env tgt ifs it (innerL elt [⟨tgt, iter, ifs, 0⟩, ⟨tgt', iter', ifs', 0⟩] iter' scope pos acc env) (R (.ok .next)) n s) :
    codeAny (model prog w) A (.compLoop (.ListComp elt [⟨tgt, iter, ifs, 0⟩, ⟨tgt', iter', ifs', 0⟩] scope pos) 0 it acc env) R s :=
  by
  obtain ⟨n, h⟩ := h
  refine compT_loop (p := iter.pos) n rfl ?_ rfl (h _)
  unfold turnTree innerL
  simp only [bind_assoc]
  rfl
theorem comp21 {elt tgt iter tgt' iter' : Expr} {ifs ifs' : List Expr} {scope : Scope} {pos : Pos} {it acc : Value} {R : Result → Shared → Prop} {s : Shared}
    (h : ∃ n, ∀ E, CompT prog w A E env tgt' ifs' it (emitL elt acc env) (R (.ok .next)) n s) :
    codeAny (model prog w) A (.compLoop (.ListComp elt [⟨tgt, iter, ifs, 0⟩, ⟨tgt', iter', ifs', 0⟩] scope pos) 1 it acc env) R s :=
  let ⟨n, h⟩ := h; compT_loop n rfl rfl rfl (h _)
def emitS (elt : Expr) (acc : Value) (env : Env) : Sem Unit := do let v ← eval elt env; standAt elt.pos; let _ ← call (.builtin "set.add") [acc, v]
theorem compS {elt tgt iter : Expr} {ifs : List Expr} {scope : Scope} {pos : Pos} {it acc : Value} {R : Result → Shared → Prop} {s : Shared}
    (h : ∃ n, ∀ E, CompT prog w A E env tgt ifs it (emitS elt acc env) (R (.ok .next)) n s) :
    codeAny (model prog w) A (.compLoop (.SetComp elt [⟨tgt, iter, ifs, 0⟩] scope pos) 0 it acc env) R s :=
  let ⟨n, h⟩ := h; compT_loop n rfl rfl rfl (h _)
end
end Mine

end
section
open PySem PySem.Calls PySem.W PyProof.Rows
set_option maxRecDepth 100000
namespace Mine
section
variable {prog : Program} {w : World} {A : Around} {X : Value → Shared → Prop} {g : Array GenState} {d : Drawn} {t : Nat} {o : OsState} {mg mb : Str → Option Value} {h₀ h : Heap} {N N' : List (Addr × Fact)} {env : Env}
abbrev rgObj (x left : Int) : Obj := { cls := .type "range_iterator", dict := none, data := .fields #[rawInt x, rawInt left, rawInt 1], slots := #[] }
def Fact.iter : Fact → Prop
  | .li _ _ => True
  | .ti _ _ => True
  | .obj o => ∃ x left, o = rgObj x left
  | _ => False
theorem self_iter {I : Addr} {f : Fact} {s : Shared} {Q : Value → Shared → Prop} (hf : f.at s.heap I) (hi : f.iter) (hQ : Q (.ref I) s) : wpAny (model prog w) A (pyIter (.ref I)) Q X s := by
  cases f with
  | li l i => exact wpAny_pyIter_listiter hf.isLi hQ
  | ti l i =>
    have ht := hf.isTi
    refine wpAny_pyIter_slot ht.typeIs F.slot_tuple_iterator_iter (wpAny_call_entry F.slot_tuple_iterator_iter ht.typeIs F.entry_tuple_iterator_iter ?_ (F.args_tuple_iterator_iter_1 _))
    show wpAny _ _ (ret (.ref I)) _ _ s
    exact wpAny_pure ⟨_, rfl, "tuple_iterator", _, ht.typeIs, F.slot_tuple_iterator_next.lookup, hQ⟩
  | obj ob =>
    obtain ⟨x, left, rfl⟩ := hi
    obtain ⟨o', e, rfl⟩ := hf
    have hT : s.TypeIs (.ref I) "range_iterator" := ⟨_, e, rfl⟩
    refine wpAny_pyIter_slot hT F.slot_range_iterator_iter (wpAny_call_entry F.slot_range_iterator_iter hT F.entry_range_iterator_iter ?_ (F.args_range_iterator_iter_1 _))
    show wpAny _ _ (ret (.ref I)) _ _ s
    exact wpAny_pure ⟨_, rfl, "range_iterator", _, hT, F.slot_range_iterator_next.lookup, hQ⟩
  | _ => exact hi.elim

theorem cstart0 {elt : Expr} {gs : List Comprehension} {tg it0 : Expr} {ifs : List Expr} {scope : Scope} {pos : Pos} {I : Addr} {acc : Value} {f : Fact} {R : Result → Shared → Prop} {s : Shared} (hf : f.at s.heap I) (hi : f.iter)
    (h0 : codeAny (model prog w) A (.compLoop (.ListComp elt (⟨tg, it0, ifs, 0⟩ :: gs) scope pos) 0 (.ref I) acc env) R s) :
    codeAny (model prog w) A (.compStart (.ListComp elt (⟨tg, it0, ifs, 0⟩ :: gs) scope pos) 0 (.ref I) acc env) R s :=
  codeAny_compStart_list h0 (self_iter hf hi h0)
theorem cstart1 {elt : Expr} {gs : List Comprehension} {g0 : Comprehension} {tg it0 : Expr} {ifs : List Expr} {scope : Scope} {pos : Pos} {I : Addr} {acc : Value} {f : Fact} {R : Result → Shared → Prop} {s : Shared} (hf : f.at s.heap I) (hi : f.iter)
    (h0 : codeAny (model prog w) A (.compLoop (.ListComp elt (g0 :: ⟨tg, it0, ifs, 0⟩ :: gs) scope pos) 1 (.ref I) acc env) R s) :
    codeAny (model prog w) A (.compStart (.ListComp elt (g0 :: ⟨tg, it0, ifs, 0⟩ :: gs) scope pos) 1 (.ref I) acc env) R s := by
  refine codeAny_of_tree ?_
  show wpAny _ _ ((compStart (.ListComp elt (g0 :: ⟨tg, it0, ifs, 0⟩ :: gs) scope pos) 1 (.ref I) acc env).onRaise (fun x => do noteFrame x env; standAt theWindowsPlace)) _ _ s
  refine wpAny_notedAt ?_
  unfold compStart
  show wpAny _ _ (ask >>= _) _ _ s
  refine wpAny_bind (wpAny_askSetting (wpAny_ite ?_))
  split
  · first
      | exact wpAny_bind (wpAny_pure (wpAny_pure (And.intro rfl h0)))
      | exact wpAny_pure (And.intro rfl h0)
  · have h := fun E => self_iter (prog := prog) (w := w) (A := A) (X := E) (Q := fun it' s' => codeAny (model prog w) A (.compLoop (.ListComp elt (g0 :: ⟨tg, it0, ifs, 0⟩ :: gs) scope pos) 1 it' acc env) R s') hf hi h0
    first
      | exact wpAny_bind (wpAny_rule (wpAny_bind (wpAny_standAt (wpAny_bind (wpAny_mono (h _) (fun it' s' h' => wpAny_pure (And.intro rfl h')) fun _ _ x => x)))))
      | (refine wpAny_bind (wpAny_rule ?_); show wpAny _ _ (standAt _ >>= _) _ _ s; exact wpAny_bind (wpAny_standAt (wpAny_bind (wpAny_mono (h _) (fun it' s' h' => wpAny_pure (And.intro rfl h')) fun _ _ x => x))))
theorem cstartS {elt : Expr} {gs : List Comprehension} {tg it0 : Expr} {ifs : List Expr} {scope : Scope} {pos : Pos} {I : Addr} {acc : Value} {f : Fact} {R : Result → Shared → Prop} {s : Shared} (hf : f.at s.heap I) (hi : f.iter)
    (h0 : codeAny (model prog w) A (.compLoop (.SetComp elt (⟨tg, it0, ifs, 0⟩ :: gs) scope pos) 0 (.ref I) acc env) R s) :
    codeAny (model prog w) A (.compStart (.SetComp elt (⟨tg, it0, ifs, 0⟩ :: gs) scope pos) 0 (.ref I) acc env) R s := by
  refine codeAny_of_tree ?_
  show wpAny _ _ ((compStart (.SetComp elt (⟨tg, it0, ifs, 0⟩ :: gs) scope pos) 0 (.ref I) acc env).onRaise (fun x => do noteFrame x env; standAt theWindowsPlace)) _ _ s
  refine wpAny_notedAt ?_
  unfold compStart
  show wpAny _ _ (ask >>= _) _ _ s
  refine wpAny_bind (wpAny_askSetting (wpAny_ite ?_))
  split
  · first
      | exact wpAny_bind (wpAny_pure (wpAny_pure (And.intro rfl h0)))
      | exact wpAny_pure (And.intro rfl h0)
  · have h := fun E => self_iter (prog := prog) (w := w) (A := A) (X := E) (Q := fun it' s' => codeAny (model prog w) A (.compLoop (.SetComp elt (⟨tg, it0, ifs, 0⟩ :: gs) scope pos) 0 it' acc env) R s') hf hi h0
    first
      | exact wpAny_bind (wpAny_rule (wpAny_bind (wpAny_standAt (wpAny_bind (wpAny_mono (h _) (fun it' s' h' => wpAny_pure (And.intro rfl h')) fun _ _ x => x)))))
      | (refine wpAny_bind (wpAny_rule ?_); show wpAny _ _ (standAt _ >>= _) _ _ s; exact wpAny_bind (wpAny_standAt (wpAny_bind (wpAny_mono (h _) (fun it' s' h' => wpAny_pure (And.intro rfl h')) fun _ _ x => x))))

theorem wp_emitL {elt : Expr} {acc : Value} {Q : Unit → Shared → Prop} {s : Shared} (h : wpAny (model prog w) A (eval elt env) (fun x s₁ => wpAny (model prog w) A (call (.builtin "list.append") [acc, x]) (fun _ s₂ => Q () s₂) X s₁) X s) :
    wpAny (model prog w) A (emitL elt acc env) Q X s := by
  unfold emitL
  exact wpAny_bind (wpAny_mono h (fun x s₁ h₁ => wpAny_bind (wpAny_mono h₁ (fun _ s₂ h₂ => wpAny_pure h₂) fun _ _ e => e)) fun _ _ e => e)
theorem wp_emitS {elt : Expr} {acc : Value} {Q : Unit → Shared → Prop} {s : Shared} (h : wpAny (model prog w) A (eval elt env) (fun x s₁ => wpAny (model prog w) A (call (.builtin "set.add") [acc, x]) (fun _ s₂ => Q () s₂) X s₁) X s) :
    wpAny (model prog w) A (emitS elt acc env) Q X s := by
  unfold emitS
  exact wpAny_bind (wpAny_mono h (fun x s₁ h₁ => wpAny_bind (wpAny_standAt (wpAny_bind (wpAny_mono h₁ (fun _ s₂ h₂ => wpAny_pure h₂) fun _ _ e => e)))) fun _ _ e => e)
def CompGo (prog : Program) (w : World) (A : Around) (X : Value → Shared → Prop) (env : Env) (cl : List (Str × Addr)) (scope : Scope) (e : Expr) (use : Option (Value → Sem Unit)) (Q : Value → Shared → Prop) (it : Value) (s₂ : Shared) : Prop :=
  wpAny (model prog w) A (newList []) (fun acc s₃ => wpAny (model prog w) A (newFunctionEnv scope env.globals cl [] env.qual none .none (some env)) (fun cenv s₄ =>
    codeAny (model prog w) A (.compStart e 0 it acc { cenv with scope := relabel scope env }) (compPost (model prog w) A X use Q acc cenv.locals) s₄) X s₃) X s₂
theorem compGo_of {cl : List (Str × Addr)} {scope : Scope} {elt : Expr} {gs : List Comprehension} {tg it0 : Expr} {ifs : List Expr} {pos : Pos} {use : Option (Value → Sem Unit)} {Q : Value → Shared → Prop} {I : Addr} {f : Fact}
    (D : St mg mb h₀ N h) (hm : (I, f) ∈ N) (hi : f.iter)
    (hq : ∀ C Dl h' t', St mg mb h₀ ((C, .ns []) :: (Dl, .lst []) :: N) h' → codeAny (model prog w) A (.compLoop (.ListComp elt (⟨tg, it0, ifs, 0⟩ :: gs) scope pos) 0 (.ref I) (.ref Dl) (compEnvC scope cl C env)) (compPost (model prog w) A X use Q (.ref Dl) C) ⟨h', g, d, t', o⟩)
    (hcell : ∀ y ∈ scope.names, y.2 ≠ .cell := by decide) (hkind : scope.kind = .function := by rfl) :
    CompGo prog w A X env cl scope (.ListComp elt (⟨tg, it0, ifs, 0⟩ :: gs) scope pos) use Q (.ref I) ⟨h, g, d, t, o⟩ := by
  refine r_newList D fun Dl h₁ D₁ => ?_
  refine wpAny_newFunctionEnv hcell (by intro y hy; simp at hy) (fun h₂ hns₂ hsb₂ => ?_) hkind
  have k : Ext h₁ h₂ := fun b ob e => hsb₂.extBut b ob (Nat.ne_of_lt (Heap.lt_size e)) (Heap.get?_push_of_some _ e)
  have D₂ : St mg mb h₀ ((h₁.objs.size, .ns []) :: (Dl, .lst []) :: N) h₂ := D₁.add k (ns_at hns₂ fun _ _ e => nomatch e) (Nat.le_refl _)
  exact cstart0 (D₂.get (.tail _ (.tail _ hm))) hi (hq _ _ _ _ D₂)
def CompGoS (prog : Program) (w : World) (A : Around) (X : Value → Shared → Prop) (env : Env) (cl : List (Str × Addr)) (scope : Scope) (e : Expr) (use : Option (Value → Sem Unit)) (Q : Value → Shared → Prop) (it : Value) (s₂ : Shared) : Prop :=
  wpAny (model prog w) A (newSet (.type "set")) (fun acc s₃ => wpAny (model prog w) A (newFunctionEnv scope env.globals cl [] env.qual none .none (some env)) (fun cenv s₄ =>
    codeAny (model prog w) A (.compStart e 0 it acc { cenv with scope := relabel scope env }) (compPost (model prog w) A X use Q acc cenv.locals) s₄) X s₃) X s₂

theorem r_ListComp {elt iter tgt : Expr} {ifs : List Expr} {gs : List Comprehension} {scope : Scope} {cl : List (Str × Addr)} {pos : Pos} {s : Shared} {Q : Value → Shared → Prop}
    (hclos : closureFor scope env = pure cl)
    (h : wpAny (model prog w) A (eval iter env) (fun xv s₁ => wpAny (model prog w) A (pyIter xv) (fun it s₂ => CompGo prog w A X env cl scope (.ListComp elt (⟨tgt, iter, ifs, 0⟩ :: gs) scope pos) none Q it s₂) X s₁) X s)
    (hkind : scope.kind = .function := by rfl) (hnames : ∀ y ∈ scope.names, y.2 = .local → scope.names.lookup y.1 = some .local := by decide) (hs : ∀ x, foldedSetIterable iter env x = pure x := by intro _; rfl) :
    wpAny (model prog w) A (eval (.ListComp elt (⟨tgt, iter, ifs, 0⟩ :: gs) scope pos) env) Q X s := by
  rw [eval_ListComp]
  exact wpAny_comprehension_free (use := none) rfl hs hclos hkind hnames h
theorem r_SetComp {elt iter tgt : Expr} {ifs : List Expr} {gs : List Comprehension} {scope : Scope} {cl : List (Str × Addr)} {pos : Pos} {s : Shared} {Q : Value → Shared → Prop}
    (hclos : closureFor scope env = pure cl)
    (h : wpAny (model prog w) A (eval iter env) (fun xv s₁ => wpAny (model prog w) A (pyIter xv) (fun it s₂ => CompGoS prog w A X env cl scope (.SetComp elt (⟨tgt, iter, ifs, 0⟩ :: gs) scope pos) none Q it s₂) X s₁) X s)
    (hkind : scope.kind = .function := by rfl) (hnames : ∀ y ∈ scope.names, y.2 = .local → scope.names.lookup y.1 = some .local := by decide) (hs : ∀ x, foldedSetIterable iter env x = pure x := by intro _; rfl) :
    wpAny (model prog w) A (eval (.SetComp elt (⟨tgt, iter, ifs, 0⟩ :: gs) scope pos) env) Q X s := by
  rw [arm_eval_SetComp]
  exact wpAny_comprehension_free (use := none) rfl hs hclos hkind hnames h
theorem cp_none {C Dl : Addr} {E : List (Str × Value)} {Q : Value → Shared → Prop} (D : St mg mb h₀ N h) (hm : (C, Fact.ns E) ∈ N) (u : Del C N N') (hQ : ∀ h', St mg mb h₀ N' h' → Q (.ref Dl) ⟨h', g, d, t, o⟩) :
    compPost (model prog w) A X none Q (.ref Dl) C (.ok .next) ⟨h, g, d, t, o⟩ := by
  obtain ⟨m, hn, _⟩ := (D.get hm).ns
  exact ⟨m, hn, fun h' hs => hQ h' (D.del u hs.extBut)⟩
theorem r_AssignComp {elt iter tgt : Expr} {ifs : List Expr} {gs : List Comprehension} {scope : Scope} {cl : List (Str × Addr)} {pos spos py : Pos} {y : Str} {s : Shared} {Q : Flow → Shared → Prop}
    (hclos : closureFor scope env = pure cl)
    (h : wpAny (model prog w) A (eval iter env) (fun xv s₁ => wpAny (model prog w) A (pyIter xv) (fun it s₂ => CompGo prog w A X env cl scope (.ListComp elt (⟨tgt, iter, ifs, 0⟩ :: gs) scope pos) (some (assign (.Name y py) env)) (fun _ => Q .next) it s₂) X s₁) X s)
    (hsw : swapsWith (.ListComp elt (⟨tgt, iter, ifs, 0⟩ :: gs) scope pos) (some (.Name y py)) spos.line env = pure true := by rfl)
    (hkind : scope.kind = .function := by rfl) (hnames : ∀ y ∈ scope.names, y.2 = .local → scope.names.lookup y.1 = some .local := by decide) (hs : ∀ x, foldedSetIterable iter env x = pure x := by intro _; rfl) :
    wpAny (model prog w) A (exec (.Assign [.Name y py] (.ListComp elt (⟨tgt, iter, ifs, 0⟩ :: gs) scope pos) spos) env) Q X s := by
  rw [exec_Assign_Name_used _ _ _ _ hsw]
  refine wpAny_bind (wpAny_standAt (wpAny_bind ?_))
  show wpAny _ A (do let _ ← comprehension (.ListComp elt (⟨tgt, iter, ifs, 0⟩ :: gs) scope pos) scope env _ (newList []) false (eval iter env) (some (assign (.Name y py) env))) _ _ s
  exact wpAny_bind (wpAny_mono (wpAny_comprehension_free (use := some (assign (.Name y py) env)) (Q := fun _ s' => Q .next s') rfl hs hclos hkind hnames h) (fun _ s' hq => wpAny_pure (wpAny_pure hq)) fun _ _ e => e)
theorem cp_some {C Dl L : Addr} {y : Str} {py : Pos} {E Ec : List (Str × Value)} {N'' : List (Addr × Fact)} {Q : Value → Shared → Prop} (D : St mg mb h₀ N h) (u : Upd L (.ns ((y, .ref Dl) :: E)) (.ns E) N N') (hm : (C, Fact.ns Ec) ∈ N') (u' : Del C N' N'')
    (hQ : ∀ h' t', St mg mb h₀ N'' h' → Q .none ⟨h', g, d, t', o⟩) (hL : env.locals = L := by rfl) (hk : env.scope.kind = .function := by rfl) (hl : env.kindOf y = some .local := by rfl) :
    compPost (model prog w) A X (some (assign (.Name y py) env)) Q (.ref Dl) C (.ok .next) ⟨h, g, d, t, o⟩ := by
  show wpAny _ _ (assign (.Name y py) env (.ref Dl)) _ _ _
  refine wpAny_assign_Name (r_st D u (fun h₁ t₁ D₁ => ?_) hL hk hl)
  obtain ⟨m, hn, _⟩ := (D₁.get hm).ns
  exact ⟨m, hn, fun h' hs => hQ h' _ (D₁.del u' hs.extBut)⟩
end
end Mine

end
section
open PySem PySem.Calls PySem.W PyProof.Rows
set_option maxRecDepth 100000
namespace Mine
section
variable {prog : Program} {w : World} {A : Around} {X : Value → Shared → Prop} {g : Array GenState} {d : Drawn} {t : Nat} {o : OsState} {mg mb : Str → Option Value} {h₀ h : Heap} {N N' : List (Addr × Fact)} {env : Env}

/-! ranges -/
abbrev rngObj (n : Int) (a b c : Nat) : Obj := { cls := .type "range", dict := none, data := .fields #[.int 0 a, .int n b, .int 1 c], slots := #[] }
theorem r_range {n : Int} {tk : Nat} {Q : Value → Shared → Prop} (D : St mg mb h₀ N h) (hQ : ∀ a x y h' t', St mg mb h₀ ((a, .obj (rngObj n x tk y)) :: N) h' → Q (.ref a) ⟨h', g, d, t', o⟩) :
    wpAny (model prog w) A (call (.type "range") [.int n tk]) Q X ⟨h, g, d, t, o⟩ := call_range_1 (hQ _ _ _ _ _ (D.push rfl rfl))
theorem pi_range {n : Nat} {r : Addr} {a b c : Nat} {Q : Value → Shared → Prop} (D : St mg mb h₀ N h) (hm : (r, Fact.obj (rngObj n a b c)) ∈ N) (hn : n ≤ 1000000)
    (hQ : ∀ I h', St mg mb h₀ ((I, .obj (rgObj ((0 : Nat) : Int) (n : Int))) :: N) h' → Q (.ref I) ⟨h', g, d, t, o⟩) :
    wpAny (model prog w) A (pyIter (.ref r)) Q X ⟨h, g, d, t, o⟩ := by
  obtain ⟨ob, ho, rfl⟩ := D.get hm
  have e : Builtin.Range.rangeSize 0 (n : Int) 1 = (n : Int) := by unfold Builtin.Range.rangeSize; simp; omega
  refine wpAny_pyIter_range (s := ⟨h, g, d, t, o⟩) ho (small_one (by omega) (by omega) (by omega) (by omega)) ?_
  rw [e]
  exact hQ _ _ (D.push rfl rfl)
theorem pn_range {I : Addr} {x left : Nat} {Q : Option Value → Shared → Prop} (D : St mg mb h₀ N h) (u : Upd I (.obj (rgObj ((x + 1 : Nat) : Int) ((left : Nat) : Int))) (.obj (rgObj ((x : Nat) : Int) ((left + 1 : Nat) : Int))) N N')
    (hQ : ∀ h' t' tk, St mg mb h₀ N' h' → Q (some (.int ((x : Nat) : Int) tk)) ⟨h', g, d, t', o⟩) : wpAny (model prog w) A (pyNext (.ref I)) Q X ⟨h, g, d, t, o⟩ := by
  obtain ⟨ob, ho, rfl⟩ := D.get u.mem
  refine wpAny_pyNext_range_item (s := ⟨h, g, d, t, o⟩) ho (by omega) fun h' hi hs => hQ h' _ _ (D.upd u hs.extBut ⟨_, hi, ?_⟩)
  show rgObj _ _ = rgObj _ _
  have e1 : ((x : Nat) : Int) + 1 = ((x + 1 : Nat) : Int) := by omega
  have e2 : ((left + 1 : Nat) : Int) - 1 = ((left : Nat) : Int) := by omega
  rw [e1, e2]
theorem pn_range_end {I : Addr} {x : Int} {Q : Option Value → Shared → Prop} (hh : A.handled = none) (D : St mg mb h₀ N h) (hm : (I, Fact.obj (rgObj x ((0 : Nat) : Int))) ∈ N) (u : Del I N N')
    (hQ : ∀ h', St mg mb h₀ N' h' → Q none ⟨h', g, d, t, o⟩) : wpAny (model prog w) A (pyNext (.ref I)) Q X ⟨h, g, d, t, o⟩ := by
  obtain ⟨ob, ho, rfl⟩ := D.get hm
  exact wpAny_pyNext_range_end (s := ⟨h, g, d, t, o⟩) hh ho (by omega) fun h' k => hQ h' (D.del u k)

/-! while -/
def WhileT (prog : Program) (w : World) (A : Around) (E : Value → Shared → Prop) (env : Env) (test : Expr) (body orelse : List Stmt) (Q : Flow → Shared → Prop) : Nat → Shared → Prop
  | 0, _ => False
  | n + 1, s => wpAny (model prog w) A (isTrue test env (eval test env)) (fun b s₂ =>
        if b then wpAny (model prog w) A (execs body env) (fun f s₃ => match f with
            | .next | .cont => WhileT prog w A E env test body orelse Q n s₃
            | .brk => Q .next s₃
            | .ret v => Q (.ret v) s₃) E s₂
        else wpAny (model prog w) A (execs orelse env) Q E s₂) E s
theorem r_While {test : Expr} {body orelse : List Stmt} {pos : Pos} {Q : Flow → Shared → Prop} {s : Shared} (h : ∃ n, ∀ E, WhileT prog w A E env test body orelse Q n s) :
    wpAny (model prog w) A (exec (.While test body orelse pos) env) Q X s := by
  obtain ⟨n, h⟩ := h
  refine wpAny_While (codeAny_whileLoop (fun k s' => WhileT prog w A (notedBy (model prog w) A env (cameBackBy (model prog w) A env X)) env test body orelse Q k s') (fun k s' hk => ?_) n (h _))
  cases k with
  | zero => exact hk.elim
  | succ k =>
    refine wpAny_mono hk (fun b s₂ h₂ => ?_) fun _ _ e => e
    cases b with
    | false => exact h₂
    | true =>
      refine wpAny_mono h₂ (fun f s₃ h₃ => ?_) fun _ _ e => e
      cases f with
      | next => exact ⟨k, Nat.lt_succ_self _, h₃⟩
      | cont => exact ⟨k, Nat.lt_succ_self _, h₃⟩
      | brk => exact h₃
      | ret v => exact h₃

/-! lists -/
theorem gm_append {a : Addr} {pl : Sem Bool} {Q : Value × List Value → Shared → Prop} (hl : ∃ xs, (Fact.lst xs).at h a) (hQ : Q (.builtin "list.append", [.ref a]) ⟨h, g, d, t, o⟩) :
    wpAny (model prog w) A (getMethod (.ref a) "append" pl) Q X ⟨h, g, d, t, o⟩ := let ⟨_, _, e, c, di, _⟩ := hl; getMethod_list_append (s := ⟨h, g, d, t, o⟩) e c di hQ
theorem r_len_list {a : Addr} {xs : List Value} {Q : Value → Shared → Prop} (hl : (Fact.lst xs).at h a) (hsz : xs.length ≤ 1000) (hQ : ∀ t t', Q (.int xs.length t) ⟨h, g, d, t', o⟩) :
    wpAny (model prog w) A (call (.builtin "len") [.ref a]) Q X ⟨h, g, d, t, o⟩ := by
  refine Calls.call_len_list (s := ⟨h, g, d, t, o⟩) hl.isList (by rw [List.size_toArray]; omega) ?_
  rw [List.size_toArray]; exact hQ _ _
theorem t_list_item {value slice : Expr} {a : Addr} {xs : List Value} {k : Int} {tk : Nat} {v : Value} {Q : Value → Shared → Prop} (hl : (Fact.lst xs).at h a) (h0 : 0 ≤ k) (hk : k < 1000000) (hx : xs[k.toNat]? = some v) (hQ : Q v ⟨h, g, d, t, o⟩)
    (hs : subscripted slice false (.ref a) (.int k tk) = operate [.ref a, .int k tk] (getItem (.ref a) (.int k tk)) := by with_unfolding_all rfl) :
    wpAny (model prog w) A (subscriptTail value slice (.ref a) (.int k tk)) Q X ⟨h, g, d, t, o⟩ :=
  tail_any (s := ⟨h, g, d, t, o⟩) hl.isList.typeIs slot_list_getitem.lookup (wpAny_getItem_list (s := ⟨h, g, d, t, o⟩) hl.isList h0 (by omega) (by rw [List.getElem?_toArray]; exact hx) hQ) hs
theorem t_str_item {value slice : Expr} {x : Str} {tx tk : Nat} {k : Int} {c : Nat} {Q : Value → Shared → Prop} (hr : (decide (k < -(2 ^ 63 : Int)) || decide (k ≥ 2 ^ 63)) = false) (hc : (seqIndex? k x.length).bind (x.cps[·]?) = some c) (hQ : ∀ t t', Q (.str ⟨#[c]⟩ t) ⟨h, g, d, t', o⟩)
    (hs : subscripted slice false (.str x tx) (.int k tk) = operate [.str x tx, .int k tk] (getItem (.str x tx) (.int k tk)) := by with_unfolding_all rfl) :
    wpAny (model prog w) A (subscriptTail value slice (.str x tx) (.int k tk)) Q X ⟨h, g, d, t, o⟩ :=
  tail_any (typeIs_str _ _ _) F.slot_str_getitem.lookup (PyProof.Rows.getItem_str hr hc (hQ _ _)) hs
theorem r_min2 {a b : Int} {ta tb : Nat} {Q : Value → Shared → Prop} (hh : A.handled = none) (D : St mg mb h₀ N h) (hQ : ∀ h' t' tk, St mg mb h₀ N h' → Q (.int (min a b) tk) ⟨h', g, d, t', o⟩) :
    wpAny (model prog w) A (call (.builtin "min") [.int a ta, .int b tb]) Q X ⟨h, g, d, t, o⟩ := by
  refine min_two_ints hh fun h' tk k => ?_
  by_cases c : b < a
  · rw [if_pos c]; have := hQ h' tk tb (D.ext k); rwa [Int.min_eq_right (by omega)] at this
  · rw [if_neg c]; have := hQ h' tk ta (D.ext k); rwa [Int.min_eq_left (by omega)] at this
theorem r_max2 {a b : Int} {ta tb : Nat} {Q : Value → Shared → Prop} (hh : A.handled = none) (D : St mg mb h₀ N h) (hQ : ∀ h' t' tk, St mg mb h₀ N h' → Q (.int (max a b) tk) ⟨h', g, d, t', o⟩) :
    wpAny (model prog w) A (call (.builtin "max") [.int a ta, .int b tb]) Q X ⟨h, g, d, t, o⟩ := by
  refine max_two_ints hh fun h' tk k => ?_
  by_cases c : b > a
  · rw [if_pos c]; have := hQ h' tk tb (D.ext k); rwa [Int.max_eq_right (by omega)] at this
  · rw [if_neg c]; have := hQ h' tk ta (D.ext k); rwa [Int.max_eq_left (by omega)] at this
/-! int compares -/
section
variable {a b : Int} {ta tb : Nat} {Q : Value → Shared → Prop}
theorem r_lt (hQ : Q (.bool (decide (a < b))) ⟨h, g, d, t, o⟩) : wpAny (model prog w) A (compareOp .Lt (.int a ta) (.int b tb)) Q X ⟨h, g, d, t, o⟩ := PyProof.Rows.lt_int hQ
theorem r_eq (hQ : Q (.bool (decide (a = b))) ⟨h, g, d, t, o⟩) : wpAny (model prog w) A (compareOp .Eq (.int a ta) (.int b tb)) Q X ⟨h, g, d, t, o⟩ := by
  refine PyProof.Rows.eq_int ?_
  have e : (a == b) = decide (a = b) := by rw [Bool.eq_iff_iff, beq_iff_eq, decide_eq_true_iff]
  rw [e]; exact hQ
theorem r_ne (hQ : Q (.bool (decide (a ≠ b))) ⟨h, g, d, t, o⟩) : wpAny (model prog w) A (compareOp .NotEq (.int a ta) (.int b tb)) Q X ⟨h, g, d, t, o⟩ := by
  refine PyProof.Rows.ne_int ?_
  have e : (a != b) = decide (a ≠ b) := by rw [Bool.eq_iff_iff, bne_iff_ne, decide_eq_true_iff]
  rw [e]; exact hQ
theorem r_iadd (hQ : ∀ t t', Q (.int (a + b) t) ⟨h, g, d, t', o⟩) : wpAny (model prog w) A (inplaceOp .Add (.int a ta) (.int b tb)) Q X ⟨h, g, d, t, o⟩ := PyProof.Rows.iadd_int (hQ _ _)
theorem r_fdiv (hb : b ≠ 0) (hp : Builtin.divisionGoesByPylong a b = false) (hQ : ∀ t t', Q (.int (a.fdiv b) t) ⟨h, g, d, t', o⟩) : wpAny (model prog w) A (binaryOp .FloorDiv (.int a ta) (.int b tb)) Q X ⟨h, g, d, t, o⟩ := PyProof.Rows.floordiv_int hb (hQ _ _) (.inl hp)
theorem r_pow (hn : 0 ≤ b) (hn2 : b ≤ 1000000) (ha : a.natAbs < 2 ^ 64) (hQ : ∀ t t', Q (.int (a ^ b.toNat) t) ⟨h, g, d, t', o⟩) : wpAny (model prog w) A (binaryOp .Pow (.int a ta) (.int b tb)) Q X ⟨h, g, d, t, o⟩ := PyProof.Rows.pow_int_small hn hn2 ha (hQ _ _)
theorem r_neg (hQ : ∀ t t', Q (.int (-a) t) ⟨h, g, d, t', o⟩) : wpAny (model prog w) A (unaryOp .USub (.int a ta)) Q X ⟨h, g, d, t, o⟩ := P.neg_int (hQ _ _)
end
end
end Mine

end
section
open PySem PySem.Calls PySem.W PyProof.Rows
set_option maxRecDepth 100000
namespace Mine
def stmtAt (i : Nat) : Option Stmt := PySem.Challenge.pw_dh5003_01.main.body[i]?
def fPar (i : Nat) : Arguments := match stmtAt i with | some (.FunctionDef _ a _ _ _ _ _ _ _ _) => a | _ => ⟨[], [], none, [], [], none, []⟩
def fBody (i : Nat) : List Stmt := match stmtAt i with | some (.FunctionDef _ _ b _ _ _ _ _ _ _) => b | _ => []
def fScope (i : Nat) : Scope := match stmtAt i with | some (.FunctionDef _ _ _ _ _ _ s _ _ _) => s | _ => default
abbrev Fn (mg : Str → Option Value) (h : Heap) (name : Str) (i : Nat) (a : Addr) : Prop := FnAt mg h name (fPar i) (fBody i) (fScope i) a
section
variable {prog : Program} {w : World} {A : Around} {X : Value → Shared → Prop} {g : Array GenState} {d : Drawn} {t : Nat} {o : OsState} {mg mb : Str → Option Value} {h₀ h : Heap} {N N' : List (Addr × Fact)} {env : Env}


end
end Mine

end
section
open PySem PySem.Calls PySem.W PyProof.Rows
set_option maxRecDepth 100000
set_option maxHeartbeats 1000000
namespace Mine
section
variable {prog : Program} {w : World} {A : Around} {X : Value → Shared → Prop} {g : Array GenState} {d : Drawn} {t : Nat} {o : OsState} {mg mb : Str → Option Value} {h₀ h : Heap} {N N' : List (Addr × Fact)} {env : Env}

theorem kind_isn : builtinKind "issubclass.nested" = none := by decide +kernel
theorem plain_isn : plainId "issubclass.nested" = true := by decide +kernel
theorem args_isn (a b c : Value) : argsOk "issubclass.nested" ⟨[a, b, c], []⟩ := by unfold argsOk; kernel_rfl
theorem isn_yes {T : String} {s : Shared} {k : Int} {tk : Nat} {Q : Value → Shared → Prop} (f1 : isSubtype (.type T) (.type T) = pure true) (f2 : typeOf (.type T) = pure (.type "type"))
    (hQ : Q (.bool true) s) : wpAny (model prog w) A (call (.builtin "issubclass.nested") [.type T, .type T, .int k tk]) Q X s := by
  refine call_function_any kind_isn plain_isn F.entry_issubclass_nested (args_isn _ _ _) ?_
  unfold Builtin.«issubclass.nested»
  repeat (any_goals (first | assumption | wp_step))
theorem isn_no {T U : String} {s : Shared} {k : Int} {tk : Nat} {Q : Value → Shared → Prop} (f1 : isSubtype (.type T) (.type U) = pure false) (f2 : typeOf (.type U) = pure (.type "type"))
    (hQ : Q (.bool false) s) : wpAny (model prog w) A (call (.builtin "issubclass.nested") [.type T, .type U, .int k tk]) Q X s := by
  refine call_function_any kind_isn plain_isn F.entry_issubclass_nested (args_isn _ _ _) ?_
  unfold Builtin.«issubclass.nested»
  repeat (any_goals (first | assumption | wp_step))

theorem r_issub_str {a : Addr} {Q : Value → Shared → Prop} (D : St mg mb h₀ N h) (hm : (a, Fact.tup [.type "str", .type "bytes"]) ∈ N)
    (hQ : Q (.bool true) ⟨h, g, d, t, o⟩) : wpAny (model prog w) A (call (.builtin "issubclass") [.type "str", .ref a]) Q X ⟨h, g, d, t, o⟩ := by
  obtain ⟨⟨c, di, dt, sl⟩, ho, hc, hdi, hsl, n, hd⟩ := D.get hm
  dsimp only at hc hdi hsl hd
  subst hc hdi hsl hd
  refine call_function_any F.kind_issubclass F.plain_issubclass F.entry_issubclass (F.args_issubclass_2 _ _) ?_
  refine issubclass_outer ?_
  have hT : (⟨h, g, d, t, o⟩ : Shared).TypeIs (.ref a) "tuple" := ⟨_, ho, rfl⟩
  have f1 := F.isi_self_tuple
  unfold Builtin.«issubclass.nested»
  repeat (any_goals (first | assumption | ((with_reducible show wpAny _ _ (call (Value.builtin "issubclass.nested") _) _ _ _); refine isn_yes F.isi_self_str F.isi_meta_str ?_) | wp_step))
theorem r_issub_bytes {a : Addr} {Q : Value → Shared → Prop} (D : St mg mb h₀ N h) (hm : (a, Fact.tup [.type "str", .type "bytes"]) ∈ N)
    (hQ : Q (.bool true) ⟨h, g, d, t, o⟩) : wpAny (model prog w) A (call (.builtin "issubclass") [.type "bytes", .ref a]) Q X ⟨h, g, d, t, o⟩ := by
  obtain ⟨⟨c, di, dt, sl⟩, ho, hc, hdi, hsl, n, hd⟩ := D.get hm
  dsimp only at hc hdi hsl hd
  subst hc hdi hsl hd
  refine call_function_any F.kind_issubclass F.plain_issubclass F.entry_issubclass (F.args_issubclass_2 _ _) ?_
  refine issubclass_outer ?_
  have hT : (⟨h, g, d, t, o⟩ : Shared).TypeIs (.ref a) "tuple" := ⟨_, ho, rfl⟩
  have f1 := F.isi_self_tuple
  unfold Builtin.«issubclass.nested»
  repeat (any_goals (first | assumption | ((with_reducible show wpAny _ _ (call (Value.builtin "issubclass.nested") _) _ _ _); first | refine isn_yes F.isi_self_bytes F.isi_meta_bytes ?_ | refine isn_no F.sub_bytes_str F.isi_meta_str ?_) | wp_step))
end
end Mine

end
section
open PySem PySem.Calls PySem.W PyProof.Rows
set_option maxRecDepth 100000
set_option maxHeartbeats 1000000
namespace Mine
local macro_rules | `(tactic| walk_at "mem") => `(tactic| first | exact List.Mem.head _ | (refine List.Mem.tail _ ?_; walk_at "mem"))
local macro_rules | `(tactic| walk_at "upd") => `(tactic| first | exact Upd.head | (apply Upd.tail; walk_at "upd"))
local macro_rules | `(tactic| walk_at "del") => `(tactic| first | exact Del.head | (apply Del.tail; walk_at "del"))
local macro_rules | `(tactic| walk_at "sees") => `(tactic| first | exact Sees.nil | (refine Sees.cons (by rfl) ?_; walk_at "sees"))
local macro_rules | `(tactic| walk_at "subl") => `(tactic| first | exact List.Sublist.slnil | (refine List.Sublist.cons_cons _ ?_; walk_at "subl") | (refine List.Sublist.cons _ ?_; walk_at "subl"))
local macro_rules | `(tactic| walk_at "fact") => `(tactic| first | exact St.get (by assumption) (by walk_at "mem") | exact St.oldf (by assumption) (by assumption) | assumption)
local macro_rules | `(tactic| walk_at "xname") => `(tactic| first
  | refine r_local (by assumption) (by walk_at "mem") (by rfl) ?_
  | refine r_blt (by assumption) (by rfl) ?_
  | refine r_cell (by assumption) (by rfl) (by walk_at "mem") ?_
  | refine r_glob (by assumption) (by first | assumption | exact FnAt.g (by assumption)) ?_)
local macro_rules | `(tactic| walk_at "xconst") => `(tactic| first
  | refine r_int fun _ _ => ?_
  | refine r_str fun _ _ => ?_
  | refine r_bytes fun _ _ => ?_
  | refine wpAny_Constant_bool ?_
  | refine wpAny_Constant_none ?_)
local macro_rules | `(tactic| walk_at "xeval") => `(tactic| first
  | ((with_reducible show wpAny _ _ (eval (Expr.Name _ _) _) _ _ _); walk_at "xname")
  | ((with_reducible show wpAny _ _ (eval (Expr.Constant _ _ _) _) _ _ _); walk_at "xconst")
  | ((with_reducible show wpAny _ _ (eval (Expr.Call (Expr.Attribute _ _ _) _ _ _) _) _ _ _); refine MethodCall_ ?_)
  | ((with_reducible show wpAny _ _ (eval (Expr.Call _ _ _ _) _) _ _ _); refine Call_ ?_)
  | with_reducible refine wpAny_BinOp ?_
  | ((with_reducible show wpAny _ _ (eval (Expr.Compare _ [_] [_] _) _) _ _ _); refine wpAny_Compare1 ?_)
  | ((with_reducible show wpAny _ _ (eval (Expr.Subscript _ _ _) _) _ _ _); refine Subscript_ ?_)
  | ((with_reducible show wpAny _ _ (eval (Expr.Slice none (some _) none _) _) _ _ _); refine e_slice_nu ?_)
  | ((with_reducible show wpAny _ _ (eval (Expr.IfExp _ _ _ _) _) _ _ _); refine wpAny_IfExp ?_)
  | ((with_reducible show wpAny _ _ (eval (Expr.Tuple _ _ _) _) _ _ _); refine Tuple_ ?_)
  | ((with_reducible show wpAny _ _ (eval (Expr.List _ _) _) _ _ _); refine List_ ?_)
  | ((with_reducible show wpAny _ _ (eval (Expr.UnaryOp _ _ _) _) _ _ _); refine wpAny_UnaryOp ?_))
local macro_rules | `(tactic| walk_at "xexec") => `(tactic| first
  | ((with_reducible show wpAny _ _ (exec (Stmt.Assign [Expr.Name _ _] _ _) _) _ _ _); refine wpAny_Assign_Name ?_)
  | ((with_reducible show wpAny _ _ (exec (Stmt.If _ _ _ _) _) _ _ _); refine wpAny_If ?_)
  | ((with_reducible show wpAny _ _ (exec (Stmt.Return (some _) _) _) _ _ _); refine wpAny_Return_some ?_)
  | ((with_reducible show wpAny _ _ (exec (Stmt.Break _) _) _ _ _); refine wpAny_Break ?_)
  | ((with_reducible show wpAny _ _ (exec (Stmt.Expr _ _) _) _ _ _); refine wpAny_Expr ?_)
  | ((with_reducible show wpAny _ _ (exec (Stmt.For _ _ _ _ _) _) _ _ _); refine r_For ?_)
  | ((with_reducible show wpAny _ _ (exec (Stmt.While _ _ _ _) _) _ _ _); refine r_While ?_)
  | ((with_reducible show wpAny _ _ (exec (Stmt.AugAssign (Expr.Name _ _) _ _ _) _) _ _ _); refine wpAny_AugAssign_Name ?_))
local macro_rules | `(tactic| walk_at "xtrue") => `(tactic| first
  | ((with_reducible show wpAny _ _ (isTrue (Expr.Compare _ [_] [_] _) _ _) _ _ _); refine wpAny_isTrue_Compare1 ?_)
  | ((with_reducible show wpAny _ _ (isTrue (Expr.BoolOp _ _ _) _ _) _ _ _); refine wpAny_isTrue_BoolOp ?_)
  | ((with_reducible show wpAny _ _ (isTrue (Expr.UnaryOp UnaryOp.Not _ _) _ _) _ _ _); refine wpAny_isTrue_Not ?_)
  | ((with_reducible show wpAny _ _ (isTrue (Expr.Call _ _ _ _) _ _) _ _ _); refine wpAny_isTrue_value ?_)
  | ((with_reducible show wpAny _ _ (isTrue (Expr.Name _ _) _ _) _ _ _); refine wpAny_isTrue_value ?_))
local macro_rules | `(tactic| walk_at "xcall") => `(tactic| first
  | ((with_reducible show wpAny _ _ (call (Value.type "range") [Value.int _ _]) _ _ _); refine r_range (by assumption) ?_; intro _ _ _ _ _ _)
  | ((with_reducible show wpAny _ _ (call (Value.builtin "list.append") [_, _]) _ _ _); refine r_append (by assumption) (by walk_at "upd") ?_; intro _ _)
  | ((with_reducible show wpAny _ _ (call (Value.builtin "len") [Value.ref _]) _ _ _); refine r_len_list (by walk_at "fact") (by first | assumption | decide | omega) ?_; intro _ _)
  | ((with_reducible show wpAny _ _ (call (Value.type "type") [Value.str _ _]) _ _ _); refine call_type_of (Tx := "str") rfl (by decide) ?_)
  | ((with_reducible show wpAny _ _ (call (Value.type "type") [Value.bytes _ _]) _ _ _); refine call_type_of (Tx := "bytes") rfl (by decide) ?_)
  | ((with_reducible show wpAny _ _ (call (Value.builtin "issubclass") [Value.type "str", _]) _ _ _); refine r_issub_str (by assumption) (by walk_at "mem") ?_)
  | ((with_reducible show wpAny _ _ (call (Value.builtin "issubclass") [Value.type "bytes", _]) _ _ _); refine r_issub_bytes (by assumption) (by walk_at "mem") ?_)
  | ((with_reducible show wpAny _ _ (call (Value.builtin "isinstance") [Value.str _ _, Value.type "bytes"]) _ _ _); refine IsiPair.str_bytes ?_)
  | ((with_reducible show wpAny _ _ (call (Value.builtin "isinstance") [Value.bytes _ _, Value.type "bytes"]) _ _ _); refine call_isinstance_yes (typeIs_bytes _ _ _) F.isi_meta_bytes F.isi_self_bytes ?_))
local macro_rules | `(tactic| walk_at "xop") => `(tactic| first
  | ((with_reducible show wpAny _ _ (binaryOp Operator.Add (Value.int _ _) (Value.int _ _)) _ _ _); refine r_add ?_; intro _ _)
  | ((with_reducible show wpAny _ _ (binaryOp Operator.Sub (Value.int _ _) (Value.int _ _)) _ _ _); refine r_sub ?_; intro _ _)
  | ((with_reducible show wpAny _ _ (binaryOp Operator.Mod (Value.int _ _) (Value.int _ _)) _ _ _); refine r_mod (by decide) ?_; intro _ _)
  | ((with_reducible show wpAny _ _ (binaryOp Operator.Mult (Value.int _ _) (Value.int _ _)) _ _ _); refine r_mul ?_; intro _ _)
  | ((with_reducible show wpAny _ _ (binaryOp Operator.FloorDiv (Value.int _ _) (Value.int _ _)) _ _ _); refine r_fdiv (by decide) (PyProof.noPylong_small (by decide)) ?_; intro _ _)
  | ((with_reducible show wpAny _ _ (binaryOp Operator.BitAnd (Value.int _ _) (Value.int _ _)) _ _ _); refine r_and ?_; intro _ _))
local macro_rules | `(tactic| walk_at "xcmp") => `(tactic| first
  | ((with_reducible show wpAny _ _ (compareOp CmpOp.Eq (Value.int _ _) (Value.int _ _)) _ _ _); refine r_eq ?_)
  | ((with_reducible show wpAny _ _ (compareOp CmpOp.NotEq (Value.int _ _) (Value.int _ _)) _ _ _); refine r_ne ?_)
  | ((with_reducible show wpAny _ _ (compareOp CmpOp.Lt (Value.int _ _) (Value.int _ _)) _ _ _); refine r_lt ?_))
local macro_rules | `(tactic| walk_at "x1") => `(tactic| first
  | ((with_reducible show wpAny _ _ (eval _ _) _ _ _); walk_at "xeval")
  | ((with_reducible show wpAny _ _ (spliced _) _ _ _); first
    | ((with_reducible show wpAny _ _ (spliced (backTo _ (starEach [] _))) _ _ _); refine args_nil ?_; (try simp only [List.nil_append, List.cons_append]))
    | ((with_reducible show wpAny _ _ (spliced (backTo _ (starEach (_ :: _) _))) _ _ _); refine args_cons ?_))
  | ((with_reducible show wpAny _ _ (callWith _ _ _ _ _) _ _ _); first
    | ((with_reducible show wpAny _ _ (callWith _ (Value.builtin _) _ _ _) _ _ _); refine cw_blt ?_)
    | ((with_reducible show wpAny _ _ (callWith _ (Value.ref _) _ _ _) _ _ _); refine cw_fn ?_)
    | ((with_reducible show wpAny _ _ (callWith _ (Value.type _) _ _ _) _ _ _); refine cw_type ?_))
  | ((with_reducible show wpAny _ _ (execs _ _) _ _ _); first
    | ((with_reducible show wpAny _ _ (execs (_ :: _) _) _ _ _); refine wpAny_execs_cons ?_)
    | ((with_reducible show wpAny _ _ (execs [] _) _ _ _); refine wpAny_execs_nil ?_))
  | ((with_reducible show wpAny _ _ (exec _ _) _ _ _); walk_at "xexec")
  | ((with_reducible show wpAny _ _ (storeName _ _ _) _ _ _); first | (refine r_st (by assumption) (by walk_at "upd") ?_; intro _ _ _) | (refine r_stc (by assumption) (by rfl) (by walk_at "upd") ?_; intro _ _ _))
  | ((with_reducible show wpAny _ _ (isTrue _ _ _) _ _ _); walk_at "xtrue")
  | ((with_reducible show wpAny _ _ (truthy (Value.bool _)) _ _ _); refine wpAny_truthy_bool ?_)
  | ((with_reducible show wpAny _ _ (call _ _ _) _ _ _); walk_at "xcall")
  | ((with_reducible show wpAny _ _ (binaryOp _ _ _) _ _ _); walk_at "xop")
  | ((with_reducible show wpAny _ _ (compareOp _ _ _) _ _ _); walk_at "xcmp")
  | ((with_reducible show wpAny _ _ (subscriptTail _ _ (Value.ref _) (Value.int _ _)) _ _ _); refine t_list_item (by walk_at "fact") (by decide) (by decide) (by rfl) ?_)
  | ((with_reducible show wpAny _ _ (inplaceOp Operator.Add (Value.int _ _) (Value.int _ _)) _ _ _); refine r_iadd ?_; intro _ _)
  | ((with_reducible show wpAny _ _ (loadName _ _) _ _ _); first
    | refine r_localN (by assumption) (by walk_at "mem") (by rfl) ?_
    | refine r_cellN (by assumption) (by rfl) (by walk_at "mem") ?_)
  | ((with_reducible show wpAny _ _ (forIn [] _ _) _ _ _); refine wpAny_tests_nil ?_)
  | ((with_reducible show wpAny _ _ (forIn [_] _ _) _ _ _); refine wpAny_tests_one ?_)
  | ((with_reducible show wpAny _ _ (emitL _ _ _) _ _ _); refine wp_emitL ?_)
  | ((with_reducible show wpAny _ _ (emitS _ _ _) _ _ _); refine wp_emitS ?_)
  | ((with_reducible show wpAny _ _ (assign (Expr.Name _ _) _ _) _ _ _); refine wpAny_assign_Name ?_)
  | ((with_reducible show wpAny _ _ (getMethod (Value.ref _) _ _) _ _ _); (with_reducible refine gm_append ?_ ?_); (· exact ⟨_, by walk_at "fact"⟩))
  | ((with_reducible show wpAny _ _ (letOwnedTupleGo (Expr.Name _ _) _ _) _ _ _); refine wpAny_pure ?_)
  | ((with_reducible show wpAny _ _ (newTuple _) _ _ _); refine r_newTuple (by assumption) ?_; intro _ _ _)
  | ((with_reducible show wpAny _ _ (newList _) _ _ _); refine r_newList (by assumption) ?_; intro _ _ _)
  | ((with_reducible show wpAny _ _ (newFields "slice" [_, _, Value.none]) _ _ _); refine r_newSlice (by assumption) ?_; intro _ _ _)
  | ((with_reducible show wpAny _ _ (allTrue _ _ _) _ _ _); first
    | ((with_reducible show wpAny _ _ (allTrue BoolOp.And (_ :: _) _) _ _ _); refine wpAny_allTrue_And_cons ?_)
    | ((with_reducible show wpAny _ _ (allTrue BoolOp.Or (_ :: _) _) _ _ _); refine wpAny_allTrue_Or_cons ?_)
    | refine wpAny_allTrue_And_nil ?_ | refine wpAny_allTrue_Or_nil ?_)
  | ((with_reducible show ite _ _ _); (first | rw [if_pos rfl] | rw [if_neg Bool.false_ne_true])))
section
variable {prog : Program} {w : World} {A : Around} {X : Value → Shared → Prop} {g : Array GenState} {d : Drawn} {t : Nat} {o : OsState} {mg mb : Str → Option Value} {h₀ h : Heap} {N N' : List (Addr × Fact)} {env : Env}

theorem fspath_str {a : Addr} {x : Str} {tk : Nat} {Q : Value → Shared → Prop} (W : Wd mg mb h) (F : Fn mg h "fspath" 9 a) (hR : A.depth < recursionLimit)
    (hQ : ∀ h' t', Ext h h' → Q (.str x tk) ⟨h', g, d, t', o⟩) : wpAny (model prog w) A (call (.ref a) [.str x tk]) Q X ⟨h, g, d, t, o⟩ := by
  refine fcall (binds := [("path", .str x tk)]) W F hR (fun _ _ _ => by rfl) (locs rfl) (fun L cd h₁ t₁ D => ?_) rfl rfl rfl (by decide)
  refine wpAny_execs_cons ?_
  repeat walk_at "x1"
  exact hQ _ _ (by assumption : St _ _ _ _ _).keep
theorem fspath_bytes {a : Addr} {x : Array UInt8} {tk : Nat} {Q : Value → Shared → Prop} (W : Wd mg mb h) (F : Fn mg h "fspath" 9 a) (hR : A.depth < recursionLimit)
    (hQ : ∀ h' t', Ext h h' → Q (.bytes x tk) ⟨h', g, d, t', o⟩) : wpAny (model prog w) A (call (.ref a) [.bytes x tk]) Q X ⟨h, g, d, t, o⟩ := by
  refine fcall (binds := [("path", .bytes x tk)]) W F hR (fun _ _ _ => by rfl) (locs rfl) (fun L cd h₁ t₁ D => ?_) rfl rfl rfl (by decide)
  refine wpAny_execs_cons ?_
  repeat walk_at "x1"
  exact hQ _ _ (by assumption : St _ _ _ _ _).keep
theorem get_sep_str {a : Addr} {x : Str} {tk : Nat} {Q : Value → Shared → Prop} (W : Wd mg mb h) (F : Fn mg h "_get_sep" 13 a) (hR : A.depth < recursionLimit)
    (hQ : ∀ h' t' tk', Ext h h' → Q (.str "/" tk') ⟨h', g, d, t', o⟩) : wpAny (model prog w) A (call (.ref a) [.str x tk]) Q X ⟨h, g, d, t, o⟩ := by
  refine fcall (binds := [("path", .str x tk)]) W F hR (fun _ _ _ => by rfl) (locs rfl) (fun L cd h₁ t₁ D => ?_) rfl rfl rfl (by decide)
  refine wpAny_execs_cons ?_
  repeat walk_at "x1"
  exact hQ _ _ _ (by assumption : St _ _ _ _ _).keep
theorem get_sep_bytes {a : Addr} {x : Array UInt8} {tk : Nat} {Q : Value → Shared → Prop} (W : Wd mg mb h) (F : Fn mg h "_get_sep" 13 a) (hR : A.depth < recursionLimit)
    (hQ : ∀ h' t' tk', Ext h h' → Q (.bytes #[47] tk') ⟨h', g, d, t', o⟩) : wpAny (model prog w) A (call (.ref a) [.bytes x tk]) Q X ⟨h, g, d, t, o⟩ := by
  refine fcall (binds := [("path", .bytes x tk)]) W F hR (fun _ _ _ => by rfl) (locs rfl) (fun L cd h₁ t₁ D => ?_) rfl rfl rfl (by decide)
  refine wpAny_execs_cons ?_
  repeat walk_at "x1"
  exact hQ _ _ _ (by assumption : St _ _ _ _ _).keep
end
end Mine

end
section
open PySem PySem.Calls PySem.W PyProof.Rows
set_option maxRecDepth 100000
set_option maxHeartbeats 1000000
namespace Mine
section
variable {prog : Program} {w : World} {A : Around} {X : Value → Shared → Prop} {g : Array GenState} {d : Drawn} {t : Nat} {o : OsState} {mg mb : Str → Option Value} {h₀ h : Heap} {N N' : List (Addr × Fact)} {env : Env}

/-! slices -/
abbrev sliceObj (l u : Value) : Obj := { cls := .type "slice", data := .fields #[l, u, .none] }
theorem e_slice_nu {u : Expr} {pos : Pos} {s : Shared} {Q : Value → Shared → Prop}
    (h1 : wpAny (model prog w) A (eval u env) (fun uv s₁ => wpAny (model prog w) A (newFields "slice" [.none, uv, .none]) Q X s₁) X s) :
    wpAny (model prog w) A (eval (.Slice none (some u) none pos) env) Q X s := by
  show wpAny _ _ (do
    let l ← valueOrNone (evalOpt none env)
    let u ← holding [l] (valueOrNone (evalOpt (some u) env))
    let s ← holding [l, u] (valueOrNone (evalOpt none env))
    newFields "slice" [l, u, s]) _ _ _
  refine wpAny_bind (wpAny_pure (wpAny_bind (wpAny_holding (wpAny_mono h1 (fun uv s₁ h₁ => ?_) fun _ _ e => e))))
  exact wpAny_bind (wpAny_holding (wpAny_pure h₁))
theorem r_newSlice {l u : Value} {Q : Value → Shared → Prop} (D : St mg mb h₀ N h) (hQ : ∀ a h', St mg mb h₀ ((a, .obj (sliceObj l u)) :: N) h' → Q (.ref a) ⟨h', g, d, t, o⟩) :
    wpAny (model prog w) A (newFields "slice" [l, u, .none]) Q X ⟨h, g, d, t, o⟩ := wpAny_newObj_type (hQ _ _ (D.push rfl rfl))
theorem t_str_slice {value slice : Expr} {x : Str} {tx u : Nat} {a : Addr} {j : Int} {Q : Value → Shared → Prop} (D : St mg mb h₀ N h) (hm : (a, Fact.obj (sliceObj .none (.int j u))) ∈ N)
    (hQ : ∀ t t', Q (.str (Txt.slice x none (some j)) t) ⟨h, g, d, t', o⟩) (hsz : x.length ≤ sizeLine)
    (hs : subscripted slice false (.str x tx) (.ref a) = operate [.ref a, .str x tx] (getItem (.str x tx) (.ref a)) := by with_unfolding_all rfl) :
    wpAny (model prog w) A (subscriptTail value slice (.str x tx) (.ref a)) Q X ⟨h, g, d, t, o⟩ := by
  obtain ⟨ob, ho, rfl⟩ := D.get hm
  exact tail_any (typeIs_str _ _ _) F.slot_str_getitem.lookup (wpAny_getItem_str_slice (l := none) (u := some (j, u)) (st := none) ⟨_, ho, rfl, rfl⟩ rfl
    (post_val_or_str ⟨Nat.le_trans (Txt.slice_le x _ _) hsz, fun _ _ => hQ _ _⟩)) hs

theorem ite_dec {p : Prop} [Decidable p] {a b : Prop} (h1 : p → a) (h2 : ¬ p → b) : if decide p = true then a else b := by
  by_cases q : p
  · rw [if_pos (decide_eq_true q)]; exact h1 q
  · rw [if_neg (by rw [decide_eq_false q]; exact Bool.false_ne_true)]; exact h2 q
/-! ints -/
section
variable {a b : Int} {ta tb : Nat} {Q : Value → Shared → Prop}
theorem r_add (hQ : ∀ t t', Q (.int (a + b) t) ⟨h, g, d, t', o⟩) : wpAny (model prog w) A (binaryOp .Add (.int a ta) (.int b tb)) Q X ⟨h, g, d, t, o⟩ := P.add_int (hQ _ _)
theorem r_sub (hQ : ∀ t t', Q (.int (a - b) t) ⟨h, g, d, t', o⟩) : wpAny (model prog w) A (binaryOp .Sub (.int a ta) (.int b tb)) Q X ⟨h, g, d, t, o⟩ := P.sub_int (hQ _ _)
theorem r_mul (hQ : ∀ t t', Q (.int (a * b) t) ⟨h, g, d, t', o⟩) (hm : IntMulOk a b := by mul_fits) : wpAny (model prog w) A (binaryOp .Mult (.int a ta) (.int b tb)) Q X ⟨h, g, d, t, o⟩ := P.mul_int (hQ _ _) hm
theorem r_mod (hb : b ≠ 0) (hQ : ∀ t t', Q (.int (a.fmod b) t) ⟨h, g, d, t', o⟩) : wpAny (model prog w) A (binaryOp .Mod (.int a ta) (.int b tb)) Q X ⟨h, g, d, t, o⟩ := PyProof.Rows.mod_int hb (hQ _ _)
theorem r_and (hQ : ∀ t t', Q (.int (Builtin.bitAnd a b) t) ⟨h, g, d, t', o⟩) : wpAny (model prog w) A (binaryOp .BitAnd (.int a ta) (.int b tb)) Q X ⟨h, g, d, t, o⟩ := PyProof.Rows.and_int (hQ _ _)
theorem r_rshift (hb : 0 ≤ b) (hQ : ∀ t t', Q (.int (a.fdiv (2 ^ b.toNat)) t) ⟨h, g, d, t', o⟩) : wpAny (model prog w) A (binaryOp .RShift (.int a ta) (.int b tb)) Q X ⟨h, g, d, t, o⟩ := PyProof.Rows.rshift_int hb (hQ _ _)
end
/-! texts -/
section
variable {x y : Str} {tx ty : Nat}
theorem r_rfind {Q : Value → Shared → Prop} (hQ : ∀ t t', Q (.int (Txt.rfind x y) t) ⟨h, g, d, t', o⟩) : wpAny (model prog w) A (call (.builtin "str.rfind") [.str x tx, .str y ty]) Q X ⟨h, g, d, t, o⟩ := SC.rfind (hQ _ _)
theorem r_rstrip {Q : Value → Shared → Prop} (hsz : x.length ≤ 1000) (hQ : ∀ t t', Q (.str (Txt.rstripChars x y) t) ⟨h, g, d, t', o⟩) : wpAny (model prog w) A (call (.builtin "str.rstrip") [.str x tx, .str y ty]) Q X ⟨h, g, d, t, o⟩ := SC.rstripChars (fun _ _ => hQ _ _) (by rw [sizeLine_eq]; omega)
theorem r_len_str {Q : Value → Shared → Prop} (hsz : x.length ≤ 1000) (hQ : ∀ t t', Q (.int x.length t) ⟨h, g, d, t', o⟩) : wpAny (model prog w) A (call (.builtin "len") [.str x tx]) Q X ⟨h, g, d, t, o⟩ := P.len_str (by omega) (hQ _ _)
theorem r_truthy_str {Q : Bool → Shared → Prop} (hsz : x.length ≤ 1000) (hQ : ∀ t', Q (decide (x.length ≠ 0)) ⟨h, g, d, t', o⟩) : wpAny (model prog w) A (truthy (.str x tx)) Q X ⟨h, g, d, t, o⟩ := by
  refine P.truthy_str (by omega) ?_
  have e : ((x.length : Int) != 0) = decide (x.length ≠ 0) := by
    by_cases h0 : x.length = 0 <;> simp [h0]
  rw [e]; exact hQ _
theorem str_eq_iff : (x.cps.toList = y.cps.toList) ↔ x = y := by
  constructor
  · intro e
    obtain ⟨⟨a⟩⟩ := x; obtain ⟨⟨b⟩⟩ := y
    have : a = b := e
    rw [this]
  · intro e; rw [e]
theorem r_ne_str {Q : Value → Shared → Prop} (hQ : Q (.bool (decide (x ≠ y))) ⟨h, g, d, t, o⟩) : wpAny (model prog w) A (compareOp .NotEq (.str x tx) (.str y ty)) Q X ⟨h, g, d, t, o⟩ := by
  refine P.ne_str ?_
  have e : (x.cps.toList != y.cps.toList) = decide (x ≠ y) := by rw [Bool.eq_iff_iff, bne_iff_ne, decide_eq_true_iff, ne_eq, ne_eq, str_eq_iff]
  rw [e]; exact hQ
theorem r_eq_str {Q : Value → Shared → Prop} (hQ : Q (.bool (decide (x = y))) ⟨h, g, d, t, o⟩) : wpAny (model prog w) A (compareOp .Eq (.str x tx) (.str y ty)) Q X ⟨h, g, d, t, o⟩ := by
  refine P.eq_str ?_
  have e : (x.cps.toList == y.cps.toList) = decide (x = y) := by rw [Bool.eq_iff_iff, beq_iff_eq, decide_eq_true_iff, str_eq_iff]
  rw [e]; exact hQ
theorem r_mul_str {n : Int} {u : Nat} {Q : Value → Shared → Prop} (hok : MulOk x n) (hQ : ∀ t t', Q (.str (Txt.mul x n) t) ⟨h, g, d, t', o⟩) : wpAny (model prog w) A (binaryOp .Mult (.str x tx) (.int n u)) Q X ⟨h, g, d, t, o⟩ := SB.mul hok fun _ _ => hQ _ _
end
end
end Mine

end
section
open PySem PySem.Calls PySem.W PyProof.Rows
set_option maxRecDepth 100000
set_option maxHeartbeats 1000000
namespace Mine
local macro_rules | `(tactic| walk_at "mem") => `(tactic| first | exact List.Mem.head _ | (refine List.Mem.tail _ ?_; walk_at "mem"))
local macro_rules | `(tactic| walk_at "upd") => `(tactic| first | exact Upd.head | (apply Upd.tail; walk_at "upd"))
local macro_rules | `(tactic| walk_at "del") => `(tactic| first | exact Del.head | (apply Del.tail; walk_at "del"))
local macro_rules | `(tactic| walk_at "sees") => `(tactic| first | exact Sees.nil | (refine Sees.cons (by rfl) ?_; walk_at "sees"))
local macro_rules | `(tactic| walk_at "subl") => `(tactic| first | exact List.Sublist.slnil | (refine List.Sublist.cons_cons _ ?_; walk_at "subl") | (refine List.Sublist.cons _ ?_; walk_at "subl"))
local macro_rules | `(tactic| walk_at "fact") => `(tactic| first | exact St.get (by assumption) (by walk_at "mem") | exact St.oldf (by assumption) (by assumption) | assumption)
local macro_rules | `(tactic| walk_at "xname") => `(tactic| first
  | refine r_local (by assumption) (by walk_at "mem") (by rfl) ?_
  | refine r_blt (by assumption) (by rfl) ?_
  | refine r_cell (by assumption) (by rfl) (by walk_at "mem") ?_
  | refine r_glob (by assumption) (by first | assumption | exact FnAt.g (by assumption)) ?_)
local macro_rules | `(tactic| walk_at "xconst") => `(tactic| first
  | refine r_int fun _ _ => ?_
  | refine r_str fun _ _ => ?_
  | refine r_bytes fun _ _ => ?_
  | refine wpAny_Constant_bool ?_
  | refine wpAny_Constant_none ?_)
local macro_rules | `(tactic| walk_at "xeval") => `(tactic| first
  | ((with_reducible show wpAny _ _ (eval (Expr.Name _ _) _) _ _ _); walk_at "xname")
  | ((with_reducible show wpAny _ _ (eval (Expr.Constant _ _ _) _) _ _ _); walk_at "xconst")
  | ((with_reducible show wpAny _ _ (eval (Expr.Call (Expr.Attribute _ _ _) _ _ _) _) _ _ _); refine MethodCall_ ?_)
  | ((with_reducible show wpAny _ _ (eval (Expr.Call _ _ _ _) _) _ _ _); refine Call_ ?_)
  | with_reducible refine wpAny_BinOp ?_
  | ((with_reducible show wpAny _ _ (eval (Expr.Compare _ [_] [_] _) _) _ _ _); refine wpAny_Compare1 ?_)
  | ((with_reducible show wpAny _ _ (eval (Expr.Subscript _ _ _) _) _ _ _); refine Subscript_ ?_)
  | ((with_reducible show wpAny _ _ (eval (Expr.Slice none (some _) none _) _) _ _ _); refine e_slice_nu ?_)
  | ((with_reducible show wpAny _ _ (eval (Expr.IfExp _ _ _ _) _) _ _ _); refine wpAny_IfExp ?_)
  | ((with_reducible show wpAny _ _ (eval (Expr.Tuple _ _ _) _) _ _ _); refine Tuple_ ?_)
  | ((with_reducible show wpAny _ _ (eval (Expr.List _ _) _) _ _ _); refine List_ ?_)
  | ((with_reducible show wpAny _ _ (eval (Expr.UnaryOp _ _ _) _) _ _ _); refine wpAny_UnaryOp ?_))
local macro_rules | `(tactic| walk_at "xexec") => `(tactic| first
  | ((with_reducible show wpAny _ _ (exec (Stmt.Assign [Expr.Name _ _] _ _) _) _ _ _); refine wpAny_Assign_Name ?_)
  | ((with_reducible show wpAny _ _ (exec (Stmt.If _ _ _ _) _) _ _ _); refine wpAny_If ?_)
  | ((with_reducible show wpAny _ _ (exec (Stmt.Return (some _) _) _) _ _ _); refine wpAny_Return_some ?_)
  | ((with_reducible show wpAny _ _ (exec (Stmt.Break _) _) _ _ _); refine wpAny_Break ?_)
  | ((with_reducible show wpAny _ _ (exec (Stmt.Expr _ _) _) _ _ _); refine wpAny_Expr ?_)
  | ((with_reducible show wpAny _ _ (exec (Stmt.For _ _ _ _ _) _) _ _ _); refine r_For ?_)
  | ((with_reducible show wpAny _ _ (exec (Stmt.While _ _ _ _) _) _ _ _); refine r_While ?_)
  | ((with_reducible show wpAny _ _ (exec (Stmt.AugAssign (Expr.Name _ _) _ _ _) _) _ _ _); refine wpAny_AugAssign_Name ?_))
local macro_rules | `(tactic| walk_at "xtrue") => `(tactic| first
  | ((with_reducible show wpAny _ _ (isTrue (Expr.Compare _ [_] [_] _) _ _) _ _ _); refine wpAny_isTrue_Compare1 ?_)
  | ((with_reducible show wpAny _ _ (isTrue (Expr.BoolOp _ _ _) _ _) _ _ _); refine wpAny_isTrue_BoolOp ?_)
  | ((with_reducible show wpAny _ _ (isTrue (Expr.UnaryOp UnaryOp.Not _ _) _ _) _ _ _); refine wpAny_isTrue_Not ?_)
  | ((with_reducible show wpAny _ _ (isTrue (Expr.Call _ _ _ _) _ _) _ _ _); refine wpAny_isTrue_value ?_)
  | ((with_reducible show wpAny _ _ (isTrue (Expr.Name _ _) _ _) _ _ _); refine wpAny_isTrue_value ?_))
local macro_rules | `(tactic| walk_at "xcall") => `(tactic| first
  | ((with_reducible show wpAny _ _ (call (Value.type "range") [Value.int _ _]) _ _ _); refine r_range (by assumption) ?_; intro _ _ _ _ _ _)
  | ((with_reducible show wpAny _ _ (call (Value.builtin "list.append") [_, _]) _ _ _); refine r_append (by assumption) (by walk_at "upd") ?_; intro _ _)
  | ((with_reducible show wpAny _ _ (call (Value.builtin "len") [Value.ref _]) _ _ _); refine r_len_list (by walk_at "fact") (by first | assumption | decide | omega) ?_; intro _ _)
  | ((with_reducible show wpAny _ _ (call (Value.type "type") [Value.str _ _]) _ _ _); refine call_type_of (Tx := "str") rfl (by decide) ?_)
  | ((with_reducible show wpAny _ _ (call (Value.type "type") [Value.bytes _ _]) _ _ _); refine call_type_of (Tx := "bytes") rfl (by decide) ?_)
  | ((with_reducible show wpAny _ _ (call (Value.builtin "issubclass") [Value.type "str", _]) _ _ _); refine r_issub_str (by assumption) (by walk_at "mem") ?_)
  | ((with_reducible show wpAny _ _ (call (Value.builtin "issubclass") [Value.type "bytes", _]) _ _ _); refine r_issub_bytes (by assumption) (by walk_at "mem") ?_)
  | ((with_reducible show wpAny _ _ (call (Value.builtin "isinstance") [Value.str _ _, Value.type "bytes"]) _ _ _); refine IsiPair.str_bytes ?_)
  | ((with_reducible show wpAny _ _ (call (Value.builtin "isinstance") [Value.bytes _ _, Value.type "bytes"]) _ _ _); refine call_isinstance_yes (typeIs_bytes _ _ _) F.isi_meta_bytes F.isi_self_bytes ?_))
local macro_rules | `(tactic| walk_at "xop") => `(tactic| first
  | ((with_reducible show wpAny _ _ (binaryOp Operator.Add (Value.int _ _) (Value.int _ _)) _ _ _); refine r_add ?_; intro _ _)
  | ((with_reducible show wpAny _ _ (binaryOp Operator.Sub (Value.int _ _) (Value.int _ _)) _ _ _); refine r_sub ?_; intro _ _)
  | ((with_reducible show wpAny _ _ (binaryOp Operator.Mod (Value.int _ _) (Value.int _ _)) _ _ _); refine r_mod (by decide) ?_; intro _ _)
  | ((with_reducible show wpAny _ _ (binaryOp Operator.Mult (Value.int _ _) (Value.int _ _)) _ _ _); refine r_mul ?_; intro _ _)
  | ((with_reducible show wpAny _ _ (binaryOp Operator.FloorDiv (Value.int _ _) (Value.int _ _)) _ _ _); refine r_fdiv (by decide) (PyProof.noPylong_small (by decide)) ?_; intro _ _)
  | ((with_reducible show wpAny _ _ (binaryOp Operator.BitAnd (Value.int _ _) (Value.int _ _)) _ _ _); refine r_and ?_; intro _ _))
local macro_rules | `(tactic| walk_at "xcmp") => `(tactic| first
  | ((with_reducible show wpAny _ _ (compareOp CmpOp.Eq (Value.int _ _) (Value.int _ _)) _ _ _); refine r_eq ?_)
  | ((with_reducible show wpAny _ _ (compareOp CmpOp.NotEq (Value.int _ _) (Value.int _ _)) _ _ _); refine r_ne ?_)
  | ((with_reducible show wpAny _ _ (compareOp CmpOp.Lt (Value.int _ _) (Value.int _ _)) _ _ _); refine r_lt ?_))
local macro_rules | `(tactic| walk_at "x1") => `(tactic| first
  | ((with_reducible show wpAny _ _ (eval _ _) _ _ _); walk_at "xeval")
  | ((with_reducible show wpAny _ _ (spliced _) _ _ _); first
    | ((with_reducible show wpAny _ _ (spliced (backTo _ (starEach [] _))) _ _ _); refine args_nil ?_; (try simp only [List.nil_append, List.cons_append]))
    | ((with_reducible show wpAny _ _ (spliced (backTo _ (starEach (_ :: _) _))) _ _ _); refine args_cons ?_))
  | ((with_reducible show wpAny _ _ (callWith _ _ _ _ _) _ _ _); first
    | ((with_reducible show wpAny _ _ (callWith _ (Value.builtin _) _ _ _) _ _ _); refine cw_blt ?_)
    | ((with_reducible show wpAny _ _ (callWith _ (Value.ref _) _ _ _) _ _ _); refine cw_fn ?_)
    | ((with_reducible show wpAny _ _ (callWith _ (Value.type _) _ _ _) _ _ _); refine cw_type ?_))
  | ((with_reducible show wpAny _ _ (execs _ _) _ _ _); first
    | ((with_reducible show wpAny _ _ (execs (_ :: _) _) _ _ _); refine wpAny_execs_cons ?_)
    | ((with_reducible show wpAny _ _ (execs [] _) _ _ _); refine wpAny_execs_nil ?_))
  | ((with_reducible show wpAny _ _ (exec _ _) _ _ _); walk_at "xexec")
  | ((with_reducible show wpAny _ _ (storeName _ _ _) _ _ _); first | (refine r_st (by assumption) (by walk_at "upd") ?_; intro _ _ _) | (refine r_stc (by assumption) (by rfl) (by walk_at "upd") ?_; intro _ _ _))
  | ((with_reducible show wpAny _ _ (isTrue _ _ _) _ _ _); walk_at "xtrue")
  | ((with_reducible show wpAny _ _ (truthy (Value.bool _)) _ _ _); refine wpAny_truthy_bool ?_)
  | ((with_reducible show wpAny _ _ (call _ _ _) _ _ _); walk_at "xcall")
  | ((with_reducible show wpAny _ _ (binaryOp _ _ _) _ _ _); walk_at "xop")
  | ((with_reducible show wpAny _ _ (compareOp _ _ _) _ _ _); walk_at "xcmp")
  | ((with_reducible show wpAny _ _ (subscriptTail _ _ (Value.ref _) (Value.int _ _)) _ _ _); refine t_list_item (by walk_at "fact") (by decide) (by decide) (by rfl) ?_)
  | ((with_reducible show wpAny _ _ (inplaceOp Operator.Add (Value.int _ _) (Value.int _ _)) _ _ _); refine r_iadd ?_; intro _ _)
  | ((with_reducible show wpAny _ _ (loadName _ _) _ _ _); first
    | refine r_localN (by assumption) (by walk_at "mem") (by rfl) ?_
    | refine r_cellN (by assumption) (by rfl) (by walk_at "mem") ?_)
  | ((with_reducible show wpAny _ _ (forIn [] _ _) _ _ _); refine wpAny_tests_nil ?_)
  | ((with_reducible show wpAny _ _ (forIn [_] _ _) _ _ _); refine wpAny_tests_one ?_)
  | ((with_reducible show wpAny _ _ (emitL _ _ _) _ _ _); refine wp_emitL ?_)
  | ((with_reducible show wpAny _ _ (emitS _ _ _) _ _ _); refine wp_emitS ?_)
  | ((with_reducible show wpAny _ _ (assign (Expr.Name _ _) _ _) _ _ _); refine wpAny_assign_Name ?_)
  | ((with_reducible show wpAny _ _ (getMethod (Value.ref _) _ _) _ _ _); (with_reducible refine gm_append ?_ ?_); (· exact ⟨_, by walk_at "fact"⟩))
  | ((with_reducible show wpAny _ _ (letOwnedTupleGo (Expr.Name _ _) _ _) _ _ _); refine wpAny_pure ?_)
  | ((with_reducible show wpAny _ _ (newTuple _) _ _ _); refine r_newTuple (by assumption) ?_; intro _ _ _)
  | ((with_reducible show wpAny _ _ (newList _) _ _ _); refine r_newList (by assumption) ?_; intro _ _ _)
  | ((with_reducible show wpAny _ _ (newFields "slice" [_, _, Value.none]) _ _ _); refine r_newSlice (by assumption) ?_; intro _ _ _)
  | ((with_reducible show wpAny _ _ (allTrue _ _ _) _ _ _); first
    | ((with_reducible show wpAny _ _ (allTrue BoolOp.And (_ :: _) _) _ _ _); refine wpAny_allTrue_And_cons ?_)
    | ((with_reducible show wpAny _ _ (allTrue BoolOp.Or (_ :: _) _) _ _ _); refine wpAny_allTrue_Or_cons ?_)
    | refine wpAny_allTrue_And_nil ?_ | refine wpAny_allTrue_Or_nil ?_)
  | ((with_reducible show ite _ _ _); (first | rw [if_pos rfl] | rw [if_neg Bool.false_ne_true])))
section
variable {prog : Program} {w : World} {A : Around} {X : Value → Shared → Prop} {g : Array GenState} {d : Drawn} {t : Nat} {o : OsState} {mg mb : Str → Option Value} {h₀ h : Heap} {N N' : List (Addr × Fact)} {env : Env}
def segS (c : Bool) : Str := if c then ⟨#[98]⟩ else ⟨#[97]⟩
def rowF : Nat → Int → List Bool
  | 0, _ => []
  | n + 1, x => if x.fmod 3 = 0 then [] else decide (x.fmod 3 = 2) :: rowF n (x.fdiv 3)
theorem rowF_len : ∀ (n : Nat) (x : Int), (rowF n x).length ≤ n
  | 0, _ => Nat.le_refl _
  | n + 1, x => by
    rw [rowF]; split
    · exact Nat.zero_le _
    · exact Nat.succ_le_succ (rowF_len n _)
inductive Segs : List Value → List Bool → Prop
  | nil : Segs [] []
  | cons {t c vs cs} : Segs vs cs → Segs (.str (segS c) t :: vs) (c :: cs)
theorem Segs.snoc {vs cs c t} (s : Segs vs cs) : Segs (vs ++ [.str (segS c) t]) (cs ++ [c]) := by
  induction s with
  | nil => exact .cons .nil
  | cons _ ih => exact .cons ih
theorem Segs.len {vs cs} (s : Segs vs cs) : vs.length = cs.length := by
  induction s with
  | nil => rfl
  | cons _ ih => simp [ih]
theorem nat_fmod (x k : Nat) : ((x : Nat) : Int).fmod ((k : Nat) : Int) = ((x % k : Nat) : Int) := by
  rw [Int.fmod_eq_emod_of_nonneg _ (Int.natCast_nonneg _)]; rfl
theorem nat_fdiv (x k : Nat) : ((x : Nat) : Int).fdiv ((k : Nat) : Int) = ((x / k : Nat) : Int) := by
  rw [Int.fdiv_eq_ediv_of_nonneg _ (Int.natCast_nonneg _)]; rfl
theorem law_row {a : Addr} {x : Int} {tk : Nat} {Q : Value → Shared → Prop} (hh : A.handled = none) (W : Wd mg mb h) (F : Fn mg h "_law_row" 17 a) (hR : A.depth < recursionLimit)
    (hQ : ∀ h' t' r vs, Ext h h' → h.get? r = none → (Fact.lst vs).at h' r → Segs vs (rowF 3 x) → Q (.ref r) ⟨h', g, d, t', o⟩) : wpAny (model prog w) A (call (.ref a) [.int x tk]) Q X ⟨h, g, d, t, o⟩ := by
  refine fcall (binds := [("x", .int x tk)]) W F hR (fun _ _ _ => by rfl) (locs rfl) (fun L cd h₁ t₁ D => ?_) rfl rfl rfl (by decide)
  refine wpAny_execs_cons ?_
  repeat walk_at "x1"
  refine pi_range (n := 3) (by assumption) (by walk_at "mem") (by decide) fun I h' D => ?_
  refine ⟨3, fun E => ?_⟩
  have D := (D.sub (N' := [(I, _), (_, .lst []), (L, _)]) (by walk_at "subl")).see (E' := [("x", .int x tk), ("row", .ref _)]) (by walk_at "upd") (by walk_at "sees")
  refine (fun (key : ∀ (n : Nat) (x : Int) (k tx : Nat) (vs : List Value) (cs : List Bool) (r : Addr) (h' : Heap) (t' : Nat), St mg mb h [(I, .obj (rgObj ((k : Nat) : Int) ((n : Nat) : Int))), (r, .lst vs), (L, .ns [("x", .int x tx), ("row", .ref r)])] h' →
    vs.length + n ≤ 1000 → Segs vs cs → (∀ h' t' r vs, Ext h h' → h.get? r = none → (Fact.lst vs).at h' r → Segs vs (cs ++ rowF n x) → Q (.ref r) ⟨h', g, d, t', o⟩) → ForT prog w _ E _ _ _ _ _ _ n ⟨h', g, d, t', o⟩) => key 3 x 0 tk [] [] _ h' _ D (by decide) .nil hQ) ?_
  intro n
  induction n with
  | zero =>
    intro x k tx vs cs r h' t' D hl S hQ
    refine pn_range_end hh D (by walk_at "mem") (by walk_at "del") fun h' D => ?_
    show wpAny _ _ (execs _ _) _ _ _
    repeat walk_at "x1"
    refine hQ _ _ _ _ D.keep (D.new (by walk_at "mem")) (by walk_at "fact") ?_
    simpa [rowF] using S
  | succ n ih =>
    intro x k tx vs cs r h' t' D hl S hQ
    refine pn_range D (by walk_at "upd") fun h' t' _ D => ?_
    show wpAny _ _ (letOwnedTupleGo _ _ _) _ _ _
    repeat walk_at "x1"
    have e3 : 0 ≤ x.fmod 3 ∧ x.fmod 3 < 3 := ⟨Int.fmod_nonneg_of_pos x (by decide), Int.fmod_lt_of_pos x (by decide)⟩
    refine ite_dec (fun h0 => ?_) (fun h0 => ?_)
    · repeat walk_at "x1"
      refine hQ _ _ _ _ (St.keep (by assumption)) (St.new (by assumption) (by walk_at "mem")) (by walk_at "fact") ?_
      rw [rowF, if_pos h0, List.append_nil]
      exact S
    · repeat walk_at "x1"
      have hc : ∃ c, segS (decide (x.fmod 3 = 2)) = ⟨#[c]⟩ ∧ (seqIndex? (x.fmod 3 - 1) (Str.length "ab")).bind ((Str.cps "ab")[·]?) = some c ∧ (decide (x.fmod 3 - 1 < -(2 ^ 63 : Int)) || decide (x.fmod 3 - 1 ≥ 2 ^ 63)) = false := by
        have : x.fmod 3 = 1 ∨ x.fmod 3 = 2 := by omega
        rcases this with e | e <;> rw [e]
        · exact ⟨97, rfl, rfl, rfl⟩
        · exact ⟨98, rfl, rfl, rfl⟩
      obtain ⟨c, hc1, hc2, hc3⟩ := hc
      refine t_str_item hc3 hc2 fun _ _ => ?_
      repeat walk_at "x1"
      have D := ‹St mg mb h _ _›
      rw [← hc1] at D
      refine ih (x.fdiv 3) (k + 1) _ _ _ r _ _ (D.see (E' := [("x", .int (x.fdiv 3) _), ("row", .ref r)]) (by walk_at "upd") (by walk_at "sees")) (by rw [List.length_append, List.length_singleton]; omega) S.snoc fun h' t' r vs k1 k2 k3 k4 => hQ h' t' r vs k1 k2 k3 ?_
      rw [rowF, if_neg h0]
      rw [List.append_assoc] at k4
      exact k4
end
end Mine

end
section
open PySem PySem.Calls PySem.W PyProof.Rows
set_option maxRecDepth 100000
set_option maxHeartbeats 1000000
namespace Mine
local macro_rules | `(tactic| walk_at "mem") => `(tactic| first | exact List.Mem.head _ | (refine List.Mem.tail _ ?_; walk_at "mem"))
local macro_rules | `(tactic| walk_at "upd") => `(tactic| first | exact Upd.head | (apply Upd.tail; walk_at "upd"))
local macro_rules | `(tactic| walk_at "del") => `(tactic| first | exact Del.head | (apply Del.tail; walk_at "del"))
local macro_rules | `(tactic| walk_at "sees") => `(tactic| first | exact Sees.nil | (refine Sees.cons (by rfl) ?_; walk_at "sees"))
local macro_rules | `(tactic| walk_at "subl") => `(tactic| first | exact List.Sublist.slnil | (refine List.Sublist.cons_cons _ ?_; walk_at "subl") | (refine List.Sublist.cons _ ?_; walk_at "subl"))
local macro_rules | `(tactic| walk_at "fact") => `(tactic| first | exact St.get (by assumption) (by walk_at "mem") | exact St.oldf (by assumption) (by assumption) | assumption)
local macro_rules | `(tactic| walk_at "xname") => `(tactic| first
  | refine r_local (by assumption) (by walk_at "mem") (by rfl) ?_
  | refine r_blt (by assumption) (by rfl) ?_
  | refine r_cell (by assumption) (by rfl) (by walk_at "mem") ?_
  | refine r_glob (by assumption) (by first | assumption | exact FnAt.g (by assumption)) ?_)
local macro_rules | `(tactic| walk_at "xconst") => `(tactic| first
  | refine r_int fun _ _ => ?_
  | refine r_str fun _ _ => ?_
  | refine r_bytes fun _ _ => ?_
  | refine wpAny_Constant_bool ?_
  | refine wpAny_Constant_none ?_)
local macro_rules | `(tactic| walk_at "xeval") => `(tactic| first
  | ((with_reducible show wpAny _ _ (eval (Expr.Name _ _) _) _ _ _); walk_at "xname")
  | ((with_reducible show wpAny _ _ (eval (Expr.Constant _ _ _) _) _ _ _); walk_at "xconst")
  | ((with_reducible show wpAny _ _ (eval (Expr.Call (Expr.Attribute _ _ _) _ _ _) _) _ _ _); refine MethodCall_ ?_)
  | ((with_reducible show wpAny _ _ (eval (Expr.Call _ _ _ _) _) _ _ _); refine Call_ ?_)
  | with_reducible refine wpAny_BinOp ?_
  | ((with_reducible show wpAny _ _ (eval (Expr.Compare _ [_] [_] _) _) _ _ _); refine wpAny_Compare1 ?_)
  | ((with_reducible show wpAny _ _ (eval (Expr.Subscript _ _ _) _) _ _ _); refine Subscript_ ?_)
  | ((with_reducible show wpAny _ _ (eval (Expr.Slice none (some _) none _) _) _ _ _); refine e_slice_nu ?_)
  | ((with_reducible show wpAny _ _ (eval (Expr.IfExp _ _ _ _) _) _ _ _); refine wpAny_IfExp ?_)
  | ((with_reducible show wpAny _ _ (eval (Expr.Tuple _ _ _) _) _ _ _); refine Tuple_ ?_)
  | ((with_reducible show wpAny _ _ (eval (Expr.List _ _) _) _ _ _); refine List_ ?_)
  | ((with_reducible show wpAny _ _ (eval (Expr.UnaryOp _ _ _) _) _ _ _); refine wpAny_UnaryOp ?_))
local macro_rules | `(tactic| walk_at "xexec") => `(tactic| first
  | ((with_reducible show wpAny _ _ (exec (Stmt.Assign [Expr.Name _ _] _ _) _) _ _ _); refine wpAny_Assign_Name ?_)
  | ((with_reducible show wpAny _ _ (exec (Stmt.If _ _ _ _) _) _ _ _); refine wpAny_If ?_)
  | ((with_reducible show wpAny _ _ (exec (Stmt.Return (some _) _) _) _ _ _); refine wpAny_Return_some ?_)
  | ((with_reducible show wpAny _ _ (exec (Stmt.Break _) _) _ _ _); refine wpAny_Break ?_)
  | ((with_reducible show wpAny _ _ (exec (Stmt.Expr _ _) _) _ _ _); refine wpAny_Expr ?_)
  | ((with_reducible show wpAny _ _ (exec (Stmt.For _ _ _ _ _) _) _ _ _); refine r_For ?_)
  | ((with_reducible show wpAny _ _ (exec (Stmt.While _ _ _ _) _) _ _ _); refine r_While ?_)
  | ((with_reducible show wpAny _ _ (exec (Stmt.AugAssign (Expr.Name _ _) _ _ _) _) _ _ _); refine wpAny_AugAssign_Name ?_))
local macro_rules | `(tactic| walk_at "xtrue") => `(tactic| first
  | ((with_reducible show wpAny _ _ (isTrue (Expr.Compare _ [_] [_] _) _ _) _ _ _); refine wpAny_isTrue_Compare1 ?_)
  | ((with_reducible show wpAny _ _ (isTrue (Expr.BoolOp _ _ _) _ _) _ _ _); refine wpAny_isTrue_BoolOp ?_)
  | ((with_reducible show wpAny _ _ (isTrue (Expr.UnaryOp UnaryOp.Not _ _) _ _) _ _ _); refine wpAny_isTrue_Not ?_)
  | ((with_reducible show wpAny _ _ (isTrue (Expr.Call _ _ _ _) _ _) _ _ _); refine wpAny_isTrue_value ?_)
  | ((with_reducible show wpAny _ _ (isTrue (Expr.Name _ _) _ _) _ _ _); refine wpAny_isTrue_value ?_))
local macro_rules | `(tactic| walk_at "xcall") => `(tactic| first
  | ((with_reducible show wpAny _ _ (call (Value.type "range") [Value.int _ _]) _ _ _); refine r_range (by assumption) ?_; intro _ _ _ _ _ _)
  | ((with_reducible show wpAny _ _ (call (Value.builtin "list.append") [_, _]) _ _ _); refine r_append (by assumption) (by walk_at "upd") ?_; intro _ _)
  | ((with_reducible show wpAny _ _ (call (Value.builtin "len") [Value.ref _]) _ _ _); refine r_len_list (by walk_at "fact") (by first | assumption | decide | omega) ?_; intro _ _)
  | ((with_reducible show wpAny _ _ (call (Value.type "type") [Value.str _ _]) _ _ _); refine call_type_of (Tx := "str") rfl (by decide) ?_)
  | ((with_reducible show wpAny _ _ (call (Value.type "type") [Value.bytes _ _]) _ _ _); refine call_type_of (Tx := "bytes") rfl (by decide) ?_)
  | ((with_reducible show wpAny _ _ (call (Value.builtin "issubclass") [Value.type "str", _]) _ _ _); refine r_issub_str (by assumption) (by walk_at "mem") ?_)
  | ((with_reducible show wpAny _ _ (call (Value.builtin "issubclass") [Value.type "bytes", _]) _ _ _); refine r_issub_bytes (by assumption) (by walk_at "mem") ?_)
  | ((with_reducible show wpAny _ _ (call (Value.builtin "isinstance") [Value.str _ _, Value.type "bytes"]) _ _ _); refine IsiPair.str_bytes ?_)
  | ((with_reducible show wpAny _ _ (call (Value.builtin "isinstance") [Value.bytes _ _, Value.type "bytes"]) _ _ _); refine call_isinstance_yes (typeIs_bytes _ _ _) F.isi_meta_bytes F.isi_self_bytes ?_))
local macro_rules | `(tactic| walk_at "xop") => `(tactic| first
  | ((with_reducible show wpAny _ _ (binaryOp Operator.Add (Value.int _ _) (Value.int _ _)) _ _ _); refine r_add ?_; intro _ _)
  | ((with_reducible show wpAny _ _ (binaryOp Operator.Sub (Value.int _ _) (Value.int _ _)) _ _ _); refine r_sub ?_; intro _ _)
  | ((with_reducible show wpAny _ _ (binaryOp Operator.Mod (Value.int _ _) (Value.int _ _)) _ _ _); refine r_mod (by decide) ?_; intro _ _)
  | ((with_reducible show wpAny _ _ (binaryOp Operator.Mult (Value.int _ _) (Value.int _ _)) _ _ _); refine r_mul ?_; intro _ _)
  | ((with_reducible show wpAny _ _ (binaryOp Operator.FloorDiv (Value.int _ _) (Value.int _ _)) _ _ _); refine r_fdiv (by decide) (PyProof.noPylong_small (by decide)) ?_; intro _ _)
  | ((with_reducible show wpAny _ _ (binaryOp Operator.BitAnd (Value.int _ _) (Value.int _ _)) _ _ _); refine r_and ?_; intro _ _))
local macro_rules | `(tactic| walk_at "xcmp") => `(tactic| first
  | ((with_reducible show wpAny _ _ (compareOp CmpOp.Eq (Value.int _ _) (Value.int _ _)) _ _ _); refine r_eq ?_)
  | ((with_reducible show wpAny _ _ (compareOp CmpOp.NotEq (Value.int _ _) (Value.int _ _)) _ _ _); refine r_ne ?_)
  | ((with_reducible show wpAny _ _ (compareOp CmpOp.Lt (Value.int _ _) (Value.int _ _)) _ _ _); refine r_lt ?_))
local macro_rules | `(tactic| walk_at "x1") => `(tactic| first
  | ((with_reducible show wpAny _ _ (eval _ _) _ _ _); walk_at "xeval")
  | ((with_reducible show wpAny _ _ (spliced _) _ _ _); first
    | ((with_reducible show wpAny _ _ (spliced (backTo _ (starEach [] _))) _ _ _); refine args_nil ?_; (try simp only [List.nil_append, List.cons_append]))
    | ((with_reducible show wpAny _ _ (spliced (backTo _ (starEach (_ :: _) _))) _ _ _); refine args_cons ?_))
  | ((with_reducible show wpAny _ _ (callWith _ _ _ _ _) _ _ _); first
    | ((with_reducible show wpAny _ _ (callWith _ (Value.builtin _) _ _ _) _ _ _); refine cw_blt ?_)
    | ((with_reducible show wpAny _ _ (callWith _ (Value.ref _) _ _ _) _ _ _); refine cw_fn ?_)
    | ((with_reducible show wpAny _ _ (callWith _ (Value.type _) _ _ _) _ _ _); refine cw_type ?_))
  | ((with_reducible show wpAny _ _ (execs _ _) _ _ _); first
    | ((with_reducible show wpAny _ _ (execs (_ :: _) _) _ _ _); refine wpAny_execs_cons ?_)
    | ((with_reducible show wpAny _ _ (execs [] _) _ _ _); refine wpAny_execs_nil ?_))
  | ((with_reducible show wpAny _ _ (exec _ _) _ _ _); walk_at "xexec")
  | ((with_reducible show wpAny _ _ (storeName _ _ _) _ _ _); first | (refine r_st (by assumption) (by walk_at "upd") ?_; intro _ _ _) | (refine r_stc (by assumption) (by rfl) (by walk_at "upd") ?_; intro _ _ _))
  | ((with_reducible show wpAny _ _ (isTrue _ _ _) _ _ _); walk_at "xtrue")
  | ((with_reducible show wpAny _ _ (truthy (Value.bool _)) _ _ _); refine wpAny_truthy_bool ?_)
  | ((with_reducible show wpAny _ _ (call _ _ _) _ _ _); walk_at "xcall")
  | ((with_reducible show wpAny _ _ (binaryOp _ _ _) _ _ _); walk_at "xop")
  | ((with_reducible show wpAny _ _ (compareOp _ _ _) _ _ _); walk_at "xcmp")
  | ((with_reducible show wpAny _ _ (subscriptTail _ _ (Value.ref _) (Value.int _ _)) _ _ _); refine t_list_item (by walk_at "fact") (by decide) (by decide) (by rfl) ?_)
  | ((with_reducible show wpAny _ _ (inplaceOp Operator.Add (Value.int _ _) (Value.int _ _)) _ _ _); refine r_iadd ?_; intro _ _)
  | ((with_reducible show wpAny _ _ (loadName _ _) _ _ _); first
    | refine r_localN (by assumption) (by walk_at "mem") (by rfl) ?_
    | refine r_cellN (by assumption) (by rfl) (by walk_at "mem") ?_)
  | ((with_reducible show wpAny _ _ (forIn [] _ _) _ _ _); refine wpAny_tests_nil ?_)
  | ((with_reducible show wpAny _ _ (forIn [_] _ _) _ _ _); refine wpAny_tests_one ?_)
  | ((with_reducible show wpAny _ _ (emitL _ _ _) _ _ _); refine wp_emitL ?_)
  | ((with_reducible show wpAny _ _ (emitS _ _ _) _ _ _); refine wp_emitS ?_)
  | ((with_reducible show wpAny _ _ (assign (Expr.Name _ _) _ _) _ _ _); refine wpAny_assign_Name ?_)
  | ((with_reducible show wpAny _ _ (getMethod (Value.ref _) _ _) _ _ _); (with_reducible refine gm_append ?_ ?_); (· exact ⟨_, by walk_at "fact"⟩))
  | ((with_reducible show wpAny _ _ (letOwnedTupleGo (Expr.Name _ _) _ _) _ _ _); refine wpAny_pure ?_)
  | ((with_reducible show wpAny _ _ (newTuple _) _ _ _); refine r_newTuple (by assumption) ?_; intro _ _ _)
  | ((with_reducible show wpAny _ _ (newList _) _ _ _); refine r_newList (by assumption) ?_; intro _ _ _)
  | ((with_reducible show wpAny _ _ (newFields "slice" [_, _, Value.none]) _ _ _); refine r_newSlice (by assumption) ?_; intro _ _ _)
  | ((with_reducible show wpAny _ _ (allTrue _ _ _) _ _ _); first
    | ((with_reducible show wpAny _ _ (allTrue BoolOp.And (_ :: _) _) _ _ _); refine wpAny_allTrue_And_cons ?_)
    | ((with_reducible show wpAny _ _ (allTrue BoolOp.Or (_ :: _) _) _ _ _); refine wpAny_allTrue_Or_cons ?_)
    | refine wpAny_allTrue_And_nil ?_ | refine wpAny_allTrue_Or_nil ?_)
  | ((with_reducible show ite _ _ _); (first | rw [if_pos rfl] | rw [if_neg Bool.false_ne_true])))
def cpF : List Bool → List Bool → List Bool
  | a :: r, b :: s => if a = b then a :: cpF r s else []
  | _, _ => []
theorem Segs.get {vs cs} (s : Segs vs cs) : ∀ (k : Nat) (c : Bool), cs[k]? = some c → ∃ t, vs[k]? = some (.str (segS c) t) := by
  induction s with
  | nil => intro k c e; simp at e
  | @cons t c' vs cs _ ih =>
    intro k c e
    cases k with
    | zero => simp only [List.getElem?_cons_zero, Option.some.injEq] at e; subst e; exact ⟨t, rfl⟩
    | succ k => simp only [List.getElem?_cons_succ] at e; exact ih k c e
theorem cpF_le : ∀ a b : List Bool, (cpF a b).length ≤ a.length
  | [], _ => by simp [cpF]
  | _ :: _, [] => by simp [cpF]
  | a :: r, b :: s => by
    rw [cpF]; split
    · exact Nat.succ_le_succ (cpF_le r s)
    · exact Nat.zero_le _
theorem segS_inj : ∀ c c' : Bool, (segS c).cps.toList = (segS c').cps.toList ↔ c = c' := by decide
section
variable {prog : Program} {w : World} {A : Around} {X : Value → Shared → Prop} {g : Array GenState} {d : Drawn} {t : Nat} {o : OsState} {mg mb : Str → Option Value} {h₀ h : Heap} {N N' : List (Addr × Fact)} {env : Env}
theorem r_eq_seg {c c' : Bool} {tx ty : Nat} {Q : Value → Shared → Prop} (hQ : Q (.bool (decide (c = c'))) ⟨h, g, d, t, o⟩) :
    wpAny (model prog w) A (compareOp .Eq (.str (segS c) tx) (.str (segS c') ty)) Q X ⟨h, g, d, t, o⟩ := by
  refine r_eq_str ?_
  have e : decide (segS c = segS c') = decide (c = c') := decide_eq_decide.mpr (str_eq_iff.symm.trans (segS_inj c c'))
  rw [e]; exact hQ
theorem law_depth {a rw a0 a1 : Addr} {vs0 vs1 : List Value} {cs0 cs1 : List Bool} {Q : Value → Shared → Prop} (hh : A.handled = none) (W : Wd mg mb h) (F : Fn mg h "_law_depth" 19 a) (hR : A.depth < recursionLimit)
    (f1 : (Fact.lst [.ref a0, .ref a1]).at h rw) (f2 : (Fact.lst vs0).at h a0) (f3 : (Fact.lst vs1).at h a1) (s0 : Segs vs0 cs0) (s1 : Segs vs1 cs1) (l0 : cs0.length ≤ 1000) (l1 : cs1.length ≤ 1000)
    (hQ : ∀ h' t' tk, Ext h h' → Q (.int ((cpF cs0 cs1).length : Nat) tk) ⟨h', g, d, t', o⟩) : wpAny (model prog w) A (call (.ref a) [.ref rw]) Q X ⟨h, g, d, t, o⟩ := by
  have e0 := s0.len
  have e1 := s1.len
  have z0 : vs0.length ≤ 1000 := by omega
  have z1 : vs1.length ≤ 1000 := by omega
  refine fcall (binds := [("rows", .ref rw)]) W F hR (fun _ _ _ => by rfl) (locs rfl) (fun L cd h₁ t₁ D => ?_) rfl rfl rfl (by decide)
  refine wpAny_execs_cons ?_
  repeat walk_at "x1"
  refine ⟨cs0.length + 1, fun E => ?_⟩
  have D := ‹St mg mb h _ _›
  have D := D.see (E' := [("rows", .ref rw), ("shared", .int ((0 : Nat) : Int) _)]) (by walk_at "upd") (by walk_at "sees")
  refine (fun (key : ∀ (n k tx : Nat) (h' : Heap) (t' : Nat), St mg mb h [(L, .ns [("rows", .ref rw), ("shared", .int ((k : Nat) : Int) tx)])] h' →
    n + k = cs0.length + 1 → k + (cpF (cs0.drop k) (cs1.drop k)).length = (cpF cs0 cs1).length → WhileT prog w _ E _ _ _ _ _ n ⟨h', g, d, t', o⟩) => key (cs0.length + 1) 0 _ _ _ D rfl (Nat.zero_add _)) ?_
  intro n
  induction n with
  | zero =>
    intro k tx h' t' D hk hc
    exfalso
    rw [List.drop_eq_nil_of_le (by omega : cs0.length ≤ k)] at hc
    rw [cpF] at hc
    · have := cpF_le cs0 cs1
      simp only [List.length_nil] at hc
      omega
    · simp
  | succ n ih =>
    intro k tx h' t' D hk hc
    show wpAny _ _ (isTrue _ _ _) _ _ _
    repeat walk_at "x1"
    refine r_min2 hh (by assumption) fun h' t' _ D => ?_
    repeat walk_at "x1"
    refine ite_dec (fun h0 => ?_) (fun h0 => ?_)
    · have hk0 : k < cs0.length := by omega
      have hk1 : k < cs1.length := by omega
      obtain ⟨u0, g0⟩ := s0.get k _ (List.getElem?_eq_getElem hk0)
      obtain ⟨u1, g1⟩ := s1.get k _ (List.getElem?_eq_getElem hk1)
      repeat walk_at "x1"
      refine t_list_item (by walk_at "fact") (by omega) (by omega) g0 ?_
      repeat walk_at "x1"
      refine t_list_item (by walk_at "fact") (by omega) (by omega) g1 ?_
      repeat walk_at "x1"
      refine r_eq_seg ?_
      repeat walk_at "x1"
      rw [List.drop_eq_getElem_cons hk0, List.drop_eq_getElem_cons hk1, cpF] at hc
      refine ite_dec (fun h1 => ?_) (fun h1 => ?_)
      · repeat walk_at "x1"
        have D := ‹St mg mb h _ _›
        rw [if_pos h1, List.length_cons] at hc
        exact ih (k + 1) _ _ _ (D.see (E' := [("rows", .ref rw), ("shared", .int ((k + 1 : Nat) : Int) _)]) (by walk_at "upd") (by walk_at "sees")) (by omega) (by omega)
      · repeat walk_at "x1"
        rw [if_neg h1] at hc
        simp only [List.length_nil, Nat.add_zero] at hc
        rw [← hc] at hQ
        exact hQ _ _ _ (St.keep (by assumption))
    · repeat walk_at "x1"
      have hz : cs0.drop k = [] ∨ cs1.drop k = [] := by
        by_cases q : cs0.length ≤ k
        · exact .inl (List.drop_eq_nil_of_le q)
        · exact .inr (List.drop_eq_nil_of_le (by omega))
      have hz' : (cpF (cs0.drop k) (cs1.drop k)).length = 0 := by
        rcases hz with q | q <;> rw [q]
        · simp [cpF]
        · cases cs0.drop k <;> simp [cpF]
      rw [hz', Nat.add_zero] at hc
      rw [← hc] at hQ
      exact hQ _ _ _ (St.keep (by assumption))
end
end Mine

end
section
open PySem PySem.Calls PySem.W PyProof.Rows
set_option maxRecDepth 100000
set_option maxHeartbeats 1000000
namespace Mine
local macro_rules | `(tactic| walk_at "mem") => `(tactic| first | exact List.Mem.head _ | (refine List.Mem.tail _ ?_; walk_at "mem"))
local macro_rules | `(tactic| walk_at "upd") => `(tactic| first | exact Upd.head | (apply Upd.tail; walk_at "upd"))
local macro_rules | `(tactic| walk_at "del") => `(tactic| first | exact Del.head | (apply Del.tail; walk_at "del"))
local macro_rules | `(tactic| walk_at "sees") => `(tactic| first | exact Sees.nil | (refine Sees.cons (by rfl) ?_; walk_at "sees"))
local macro_rules | `(tactic| walk_at "subl") => `(tactic| first | exact List.Sublist.slnil | (refine List.Sublist.cons_cons _ ?_; walk_at "subl") | (refine List.Sublist.cons _ ?_; walk_at "subl"))
local macro_rules | `(tactic| walk_at "fact") => `(tactic| first | exact St.get (by assumption) (by walk_at "mem") | exact St.oldf (by assumption) (by assumption) | assumption)
local macro_rules | `(tactic| walk_at "xname") => `(tactic| first
  | refine r_local (by assumption) (by walk_at "mem") (by rfl) ?_
  | refine r_blt (by assumption) (by rfl) ?_
  | refine r_cell (by assumption) (by rfl) (by walk_at "mem") ?_
  | refine r_glob (by assumption) (by first | assumption | exact FnAt.g (by assumption)) ?_)
local macro_rules | `(tactic| walk_at "xconst") => `(tactic| first
  | refine r_int fun _ _ => ?_
  | refine r_str fun _ _ => ?_
  | refine r_bytes fun _ _ => ?_
  | refine wpAny_Constant_bool ?_
  | refine wpAny_Constant_none ?_)
local macro_rules | `(tactic| walk_at "xeval") => `(tactic| first
  | ((with_reducible show wpAny _ _ (eval (Expr.Name _ _) _) _ _ _); walk_at "xname")
  | ((with_reducible show wpAny _ _ (eval (Expr.Constant _ _ _) _) _ _ _); walk_at "xconst")
  | ((with_reducible show wpAny _ _ (eval (Expr.Call (Expr.Attribute _ _ _) _ _ _) _) _ _ _); refine MethodCall_ ?_)
  | ((with_reducible show wpAny _ _ (eval (Expr.Call _ _ _ _) _) _ _ _); refine Call_ ?_)
  | with_reducible refine wpAny_BinOp ?_
  | ((with_reducible show wpAny _ _ (eval (Expr.Compare _ [_] [_] _) _) _ _ _); refine wpAny_Compare1 ?_)
  | ((with_reducible show wpAny _ _ (eval (Expr.Subscript _ _ _) _) _ _ _); refine Subscript_ ?_)
  | ((with_reducible show wpAny _ _ (eval (Expr.Slice none (some _) none _) _) _ _ _); refine e_slice_nu ?_)
  | ((with_reducible show wpAny _ _ (eval (Expr.IfExp _ _ _ _) _) _ _ _); refine wpAny_IfExp ?_)
  | ((with_reducible show wpAny _ _ (eval (Expr.Tuple _ _ _) _) _ _ _); refine Tuple_ ?_)
  | ((with_reducible show wpAny _ _ (eval (Expr.List _ _) _) _ _ _); refine List_ ?_)
  | ((with_reducible show wpAny _ _ (eval (Expr.UnaryOp _ _ _) _) _ _ _); refine wpAny_UnaryOp ?_))
local macro_rules | `(tactic| walk_at "xexec") => `(tactic| first
  | ((with_reducible show wpAny _ _ (exec (Stmt.Assign [Expr.Name _ _] _ _) _) _ _ _); refine wpAny_Assign_Name ?_)
  | ((with_reducible show wpAny _ _ (exec (Stmt.If _ _ _ _) _) _ _ _); refine wpAny_If ?_)
  | ((with_reducible show wpAny _ _ (exec (Stmt.Return (some _) _) _) _ _ _); refine wpAny_Return_some ?_)
  | ((with_reducible show wpAny _ _ (exec (Stmt.Break _) _) _ _ _); refine wpAny_Break ?_)
  | ((with_reducible show wpAny _ _ (exec (Stmt.Expr _ _) _) _ _ _); refine wpAny_Expr ?_)
  | ((with_reducible show wpAny _ _ (exec (Stmt.For _ _ _ _ _) _) _ _ _); refine r_For ?_)
  | ((with_reducible show wpAny _ _ (exec (Stmt.While _ _ _ _) _) _ _ _); refine r_While ?_)
  | ((with_reducible show wpAny _ _ (exec (Stmt.AugAssign (Expr.Name _ _) _ _ _) _) _ _ _); refine wpAny_AugAssign_Name ?_))
local macro_rules | `(tactic| walk_at "xtrue") => `(tactic| first
  | ((with_reducible show wpAny _ _ (isTrue (Expr.Compare _ [_] [_] _) _ _) _ _ _); refine wpAny_isTrue_Compare1 ?_)
  | ((with_reducible show wpAny _ _ (isTrue (Expr.BoolOp _ _ _) _ _) _ _ _); refine wpAny_isTrue_BoolOp ?_)
  | ((with_reducible show wpAny _ _ (isTrue (Expr.UnaryOp UnaryOp.Not _ _) _ _) _ _ _); refine wpAny_isTrue_Not ?_)
  | ((with_reducible show wpAny _ _ (isTrue (Expr.Call _ _ _ _) _ _) _ _ _); refine wpAny_isTrue_value ?_)
  | ((with_reducible show wpAny _ _ (isTrue (Expr.Name _ _) _ _) _ _ _); refine wpAny_isTrue_value ?_))
local macro_rules | `(tactic| walk_at "xcall") => `(tactic| first
  | ((with_reducible show wpAny _ _ (call (Value.type "range") [Value.int _ _]) _ _ _); refine r_range (by assumption) ?_; intro _ _ _ _ _ _)
  | ((with_reducible show wpAny _ _ (call (Value.builtin "list.append") [_, _]) _ _ _); refine r_append (by assumption) (by walk_at "upd") ?_; intro _ _)
  | ((with_reducible show wpAny _ _ (call (Value.builtin "len") [Value.ref _]) _ _ _); refine r_len_list (by walk_at "fact") (by first | assumption | decide | omega) ?_; intro _ _)
  | ((with_reducible show wpAny _ _ (call (Value.type "type") [Value.str _ _]) _ _ _); refine call_type_of (Tx := "str") rfl (by decide) ?_)
  | ((with_reducible show wpAny _ _ (call (Value.type "type") [Value.bytes _ _]) _ _ _); refine call_type_of (Tx := "bytes") rfl (by decide) ?_)
  | ((with_reducible show wpAny _ _ (call (Value.builtin "issubclass") [Value.type "str", _]) _ _ _); refine r_issub_str (by assumption) (by walk_at "mem") ?_)
  | ((with_reducible show wpAny _ _ (call (Value.builtin "issubclass") [Value.type "bytes", _]) _ _ _); refine r_issub_bytes (by assumption) (by walk_at "mem") ?_)
  | ((with_reducible show wpAny _ _ (call (Value.builtin "isinstance") [Value.str _ _, Value.type "bytes"]) _ _ _); refine IsiPair.str_bytes ?_)
  | ((with_reducible show wpAny _ _ (call (Value.builtin "isinstance") [Value.bytes _ _, Value.type "bytes"]) _ _ _); refine call_isinstance_yes (typeIs_bytes _ _ _) F.isi_meta_bytes F.isi_self_bytes ?_))
local macro_rules | `(tactic| walk_at "xop") => `(tactic| first
  | ((with_reducible show wpAny _ _ (binaryOp Operator.Add (Value.int _ _) (Value.int _ _)) _ _ _); refine r_add ?_; intro _ _)
  | ((with_reducible show wpAny _ _ (binaryOp Operator.Sub (Value.int _ _) (Value.int _ _)) _ _ _); refine r_sub ?_; intro _ _)
  | ((with_reducible show wpAny _ _ (binaryOp Operator.Mod (Value.int _ _) (Value.int _ _)) _ _ _); refine r_mod (by decide) ?_; intro _ _)
  | ((with_reducible show wpAny _ _ (binaryOp Operator.Mult (Value.int _ _) (Value.int _ _)) _ _ _); refine r_mul ?_; intro _ _)
  | ((with_reducible show wpAny _ _ (binaryOp Operator.FloorDiv (Value.int _ _) (Value.int _ _)) _ _ _); refine r_fdiv (by decide) (PyProof.noPylong_small (by decide)) ?_; intro _ _)
  | ((with_reducible show wpAny _ _ (binaryOp Operator.BitAnd (Value.int _ _) (Value.int _ _)) _ _ _); refine r_and ?_; intro _ _))
local macro_rules | `(tactic| walk_at "xcmp") => `(tactic| first
  | ((with_reducible show wpAny _ _ (compareOp CmpOp.Eq (Value.int _ _) (Value.int _ _)) _ _ _); refine r_eq ?_)
  | ((with_reducible show wpAny _ _ (compareOp CmpOp.NotEq (Value.int _ _) (Value.int _ _)) _ _ _); refine r_ne ?_)
  | ((with_reducible show wpAny _ _ (compareOp CmpOp.Lt (Value.int _ _) (Value.int _ _)) _ _ _); refine r_lt ?_))
local macro_rules | `(tactic| walk_at "x1") => `(tactic| first
  | ((with_reducible show wpAny _ _ (eval _ _) _ _ _); walk_at "xeval")
  | ((with_reducible show wpAny _ _ (spliced _) _ _ _); first
    | ((with_reducible show wpAny _ _ (spliced (backTo _ (starEach [] _))) _ _ _); refine args_nil ?_; (try simp only [List.nil_append, List.cons_append]))
    | ((with_reducible show wpAny _ _ (spliced (backTo _ (starEach (_ :: _) _))) _ _ _); refine args_cons ?_))
  | ((with_reducible show wpAny _ _ (callWith _ _ _ _ _) _ _ _); first
    | ((with_reducible show wpAny _ _ (callWith _ (Value.builtin _) _ _ _) _ _ _); refine cw_blt ?_)
    | ((with_reducible show wpAny _ _ (callWith _ (Value.ref _) _ _ _) _ _ _); refine cw_fn ?_)
    | ((with_reducible show wpAny _ _ (callWith _ (Value.type _) _ _ _) _ _ _); refine cw_type ?_))
  | ((with_reducible show wpAny _ _ (execs _ _) _ _ _); first
    | ((with_reducible show wpAny _ _ (execs (_ :: _) _) _ _ _); refine wpAny_execs_cons ?_)
    | ((with_reducible show wpAny _ _ (execs [] _) _ _ _); refine wpAny_execs_nil ?_))
  | ((with_reducible show wpAny _ _ (exec _ _) _ _ _); walk_at "xexec")
  | ((with_reducible show wpAny _ _ (storeName _ _ _) _ _ _); first | (refine r_st (by assumption) (by walk_at "upd") ?_; intro _ _ _) | (refine r_stc (by assumption) (by rfl) (by walk_at "upd") ?_; intro _ _ _))
  | ((with_reducible show wpAny _ _ (isTrue _ _ _) _ _ _); walk_at "xtrue")
  | ((with_reducible show wpAny _ _ (truthy (Value.bool _)) _ _ _); refine wpAny_truthy_bool ?_)
  | ((with_reducible show wpAny _ _ (call _ _ _) _ _ _); walk_at "xcall")
  | ((with_reducible show wpAny _ _ (binaryOp _ _ _) _ _ _); walk_at "xop")
  | ((with_reducible show wpAny _ _ (compareOp _ _ _) _ _ _); walk_at "xcmp")
  | ((with_reducible show wpAny _ _ (subscriptTail _ _ (Value.ref _) (Value.int _ _)) _ _ _); refine t_list_item (by walk_at "fact") (by decide) (by decide) (by rfl) ?_)
  | ((with_reducible show wpAny _ _ (inplaceOp Operator.Add (Value.int _ _) (Value.int _ _)) _ _ _); refine r_iadd ?_; intro _ _)
  | ((with_reducible show wpAny _ _ (loadName _ _) _ _ _); first
    | refine r_localN (by assumption) (by walk_at "mem") (by rfl) ?_
    | refine r_cellN (by assumption) (by rfl) (by walk_at "mem") ?_)
  | ((with_reducible show wpAny _ _ (forIn [] _ _) _ _ _); refine wpAny_tests_nil ?_)
  | ((with_reducible show wpAny _ _ (forIn [_] _ _) _ _ _); refine wpAny_tests_one ?_)
  | ((with_reducible show wpAny _ _ (emitL _ _ _) _ _ _); refine wp_emitL ?_)
  | ((with_reducible show wpAny _ _ (emitS _ _ _) _ _ _); refine wp_emitS ?_)
  | ((with_reducible show wpAny _ _ (assign (Expr.Name _ _) _ _) _ _ _); refine wpAny_assign_Name ?_)
  | ((with_reducible show wpAny _ _ (getMethod (Value.ref _) _ _) _ _ _); (with_reducible refine gm_append ?_ ?_); (· exact ⟨_, by walk_at "fact"⟩))
  | ((with_reducible show wpAny _ _ (letOwnedTupleGo (Expr.Name _ _) _ _) _ _ _); refine wpAny_pure ?_)
  | ((with_reducible show wpAny _ _ (newTuple _) _ _ _); refine r_newTuple (by assumption) ?_; intro _ _ _)
  | ((with_reducible show wpAny _ _ (newList _) _ _ _); refine r_newList (by assumption) ?_; intro _ _ _)
  | ((with_reducible show wpAny _ _ (newFields "slice" [_, _, Value.none]) _ _ _); refine r_newSlice (by assumption) ?_; intro _ _ _)
  | ((with_reducible show wpAny _ _ (allTrue _ _ _) _ _ _); first
    | ((with_reducible show wpAny _ _ (allTrue BoolOp.And (_ :: _) _) _ _ _); refine wpAny_allTrue_And_cons ?_)
    | ((with_reducible show wpAny _ _ (allTrue BoolOp.Or (_ :: _) _) _ _ _); refine wpAny_allTrue_Or_cons ?_)
    | refine wpAny_allTrue_And_nil ?_ | refine wpAny_allTrue_Or_nil ?_)
  | ((with_reducible show ite _ _ _); (first | rw [if_pos rfl] | rw [if_neg Bool.false_ne_true])))
section
variable {prog : Program} {w : World} {A : Around} {X : Value → Shared → Prop} {g : Array GenState} {d : Drawn} {t : Nat} {o : OsState} {mg mb : Str → Option Value} {h₀ h : Heap} {N N' : List (Addr × Fact)} {env : Env}
def headS (x : Str) : Str := Txt.slice x none (some (Txt.rfind x "/" + 1))
def dirS (x : Str) : Str := if (headS x).length = 0 then headS x else if (headS x).cps.toList = (Txt.mul "/" (headS x).length).cps.toList then headS x else Txt.rstripChars (headS x) "/"
theorem headS_le (x : Str) : (headS x).length ≤ x.length := PyProof.Txt.length_slice_le x _ _
theorem mulOk_sep {n : Nat} (h : n ≤ 100) : MulOk "/" (n : Int) := by
  refine ⟨?_, fun _ _ => ?_, fun _ _ => ?_⟩
  · rw [decide_eq_false (by omega), decide_eq_false (by omega)]; rfl
  · have e : (PySem.Str.ofString "/").length = 1 := by rfl
    rw [e]
    have : (1 : Int) ≤ (2 ^ 63 - 1) / n := by
      have hn : (0 : Int) < n := by omega
      rw [Int.le_ediv_iff_mul_le hn]; omega
    omega
  · have e : (PySem.Str.ofString "/").length = 1 := by rfl
    rw [e]
    unfold Builtin.Str.tooLong
    simp only [decide_eq_false_iff_not]
    rw [sizeLine_eq]; omega
theorem dirname_str {a : Addr} {x : Str} {tk : Nat} {Q : Value → Shared → Prop} {fa ga : Addr} (W : Wd mg mb h) (F : Fn mg h "dirname" 14 a) (F1 : Fn mg h "fspath" 9 fa) (F2 : Fn mg h "_get_sep" 13 ga) (hR : A.depth + 1 < recursionLimit) (hx : x.length ≤ 100)
    (hQ : ∀ h' t' tk', Ext h h' → Q (.str (dirS x) tk') ⟨h', g, d, t', o⟩) : wpAny (model prog w) A (call (.ref a) [.str x tk]) Q X ⟨h, g, d, t, o⟩ := by
  refine fcall (binds := [("p", .str x tk)]) W F (by omega) (fun _ _ _ => by rfl) (locs rfl) (fun L cd h₁ t₁ D => ?_) rfl rfl rfl (by decide)
  refine wpAny_execs_cons ?_
  repeat walk_at "x1"
  refine ⟨F1.here.ext D.keep, ?_⟩
  refine fspath_str D.wdn (F1.ext D.keep) hR fun h' t' k => ?_
  have D := D.ext k
  repeat walk_at "x1"
  refine ⟨F2.here.ext (St.keep (by assumption)), ?_⟩
  refine get_sep_str (St.wdn (by assumption)) (F2.ext (St.keep (by assumption))) hR fun h' t' tk' k => ?_
  have D := St.ext (by assumption) k
  repeat walk_at "x1"
  with_reducible refine GM.rfind ?_
  repeat walk_at "x1"
  refine r_rfind fun _ _ => ?_
  repeat walk_at "x1"
  refine t_str_slice (by assumption) (by walk_at "mem") (fun _ _ => ?_) (by rw [sizeLine_eq]; omega)
  have hl := headS_le x
  repeat walk_at "x1"
  refine r_truthy_str (by show (headS x).length ≤ 1000; omega) fun _ => ?_
  refine ite_dec (fun h0 => ?_) (fun h0 => ?_)
  · repeat walk_at "x1"
    refine r_len_str (by show (headS x).length ≤ 1000; omega) fun _ _ => ?_
    repeat walk_at "x1"
    refine r_mul_str (mulOk_sep (by show (headS x).length ≤ 100; omega)) fun _ _ => ?_
    repeat walk_at "x1"
    refine r_ne_str ?_
    repeat walk_at "x1"
    refine ite_dec (fun h1 => ?_) (fun h1 => ?_)
    · repeat walk_at "x1"
      with_reducible refine GM.rstrip ?_
      repeat walk_at "x1"
      refine r_rstrip (by show (headS x).length ≤ 1000; omega) fun _ _ => ?_
      repeat walk_at "x1"
      have e : dirS x = Txt.rstripChars (headS x) "/" := (if_neg (h0 : ¬ (headS x).length = 0)).trans (if_neg (fun e => h1 (str_eq_iff.mp e)))
      rw [e] at hQ
      exact hQ _ _ _ (St.keep (by assumption))
    · repeat walk_at "x1"
      have e : dirS x = headS x := (if_neg (h0 : ¬ (headS x).length = 0)).trans (if_pos (str_eq_iff.mpr (Classical.not_not.mp h1)))
      rw [e] at hQ
      exact hQ _ _ _ (St.keep (by assumption))
  · repeat walk_at "x1"
    have e : dirS x = headS x := if_pos (Classical.not_not.mp h0)
    rw [e] at hQ
    exact hQ _ _ _ (St.keep (by assumption))
end
end Mine

end
section
open PySem PySem.Calls PySem.W PyProof.Rows
set_option maxRecDepth 100000
set_option maxHeartbeats 1000000
namespace Mine
/-! facts of the methods of bytes -/
theorem slot_b_rfind : Slot "bytes" "rfind" "bytes.rfind" :=
  .of (owner := "bytes") (n := "rfind") (by rw [typeLookup_type, builtinLookup_eq_fast]; kernel_rfl) (by decide +kernel) (by decide +kernel) (by decide +kernel)
    (by first | exact .inl (by decide +kernel) | exact .inr (by decide +kernel)) (by rw [isSubtype_type]; kernel_rfl)
theorem type_b_rfind : typeOf (.builtin "bytes.rfind") = pure (.type "method_descriptor") := by show builtinType _ = _; rw [builtinType_eq_fast]; kernel_rfl
theorem entry_b_rfind : entryFor table "bytes.rfind" = some Builtin.«bytes.rfind» := entryFor_of_tree (by kernel_rfl)
theorem args_b_rfind (a b : Value) : argsOk "bytes.rfind" ⟨[a, b], []⟩ := by
  unfold argsOk; rw [signature?_of (id := "bytes.rfind") (n := ['d', 'n', 'i', 'f', 'r']) (o := ['s', 'e', 't', 'y', 'b']) (by kernel_rfl) FB.owner_bytes]; kernel_rfl
theorem slot_b_rstrip : Slot "bytes" "rstrip" "bytes.rstrip" :=
  .of (owner := "bytes") (n := "rstrip") (by rw [typeLookup_type, builtinLookup_eq_fast]; kernel_rfl) (by decide +kernel) (by decide +kernel) (by decide +kernel)
    (by first | exact .inl (by decide +kernel) | exact .inr (by decide +kernel)) (by rw [isSubtype_type]; kernel_rfl)
theorem type_b_rstrip : typeOf (.builtin "bytes.rstrip") = pure (.type "method_descriptor") := by show builtinType _ = _; rw [builtinType_eq_fast]; kernel_rfl
theorem entry_b_rstrip : entryFor table "bytes.rstrip" = some Builtin.«bytes.rstrip» := entryFor_of_tree (by kernel_rfl)
theorem args_b_rstrip (a b : Value) : argsOk "bytes.rstrip" ⟨[a, b], []⟩ := by
  unfold argsOk; rw [signature?_of (id := "bytes.rstrip") (n := ['p', 'i', 'r', 't', 's', 'r']) (o := ['s', 'e', 't', 'y', 'b']) (by kernel_rfl) FB.owner_bytes]; kernel_rfl

theorem lk_b_buffer : typeLookup (.type "bytes") "__buffer__" = pure (some (.builtin "bytes.__buffer__")) := by rw [typeLookup_type, builtinLookup_eq_fast]; kernel_rfl
def rfB (x : Array UInt8) : Int := if (x.size : Int) - 0 < 1 then -1 else match Builtin.Bytes.rfind? x #[47] 0 x.size with | some i => (i : Int) | none => -1
def rsB (x : Array UInt8) : Array UInt8 := ((x.toList.reverse.dropWhile (#[47] : Array UInt8).contains).reverse).toArray
theorem win (n : Nat) : Builtin.Bytes.window n none none = (0, (n : Int)) := by
  simp only [Builtin.Bytes.window, Option.getD_none]
  rw [if_neg (by omega), if_neg (by omega), Int.min_self]
theorem gives_b_rfind (x : Array UInt8) (t u : Tok) : Gives (Builtin.«bytes.rfind» ⟨[.bytes x t, .bytes #[47] u], []⟩) (.int (rfB x)) := by
  refine .of_wp fun M A E s Q hq => ?_
  obtain ⟨h, g, d, t, o⟩ := s
  repeat (first | ((with_reducible show wpAny _ _ (Builtin.Bytes.buffer? _ _) _ _ _); refine wpAny_of_eq KBy.buffer_eq ?_) | wp_step)
  rw [win]
  unfold rfB at hq
  dsimp only
  have e1 : (((#[47] : Array UInt8).size : Nat) : Int) = 1 := rfl
  simp only [e1, Int.toNat_zero, Int.toNat_natCast, if_true]
  by_cases c : (x.size : Int) - 0 < 1
  · simp only [c, if_true] at hq
    simp only [c, if_true, Option.bind_none]
    refine wpAny_bind (wpAny_rule ?_)
    rw [if_neg Bool.false_ne_true]
    exact fun _ _ _ => ⟨_, rfl, hq⟩
  · simp only [c, if_false] at hq
    simp only [c, if_false, Option.bind_some]
    cases e : Builtin.Bytes.rfind? x #[47] 0 x.size with
    | none =>
      rw [e] at hq
      refine wpAny_bind (wpAny_rule ?_)
      rw [if_neg Bool.false_ne_true]
      exact fun _ _ _ => ⟨_, rfl, hq⟩
    | some i =>
      rw [e] at hq
      exact fun _ _ _ => ⟨_, rfl, hq⟩
theorem dropWhile_len (p : UInt8 → Bool) (l : List UInt8) : (l.dropWhile p).length ≤ l.length := (List.dropWhile_sublist p).length_le
theorem rsB_le (x : Array UInt8) : (rsB x).size ≤ x.size := by
  unfold rsB
  rw [List.size_toArray, List.length_reverse]
  refine Nat.le_trans (dropWhile_len _ _) ?_
  rw [List.length_reverse]; exact Nat.le_of_eq Array.length_toList
theorem rsB_eq {x : Array UInt8} (e : (rsB x).size = x.size) : rsB x = x := by
  unfold rsB at *
  rw [List.size_toArray, List.length_reverse] at e
  have s1 := List.dropWhile_sublist (#[47] : Array UInt8).contains (l := x.toList.reverse)
  have s2 := s1.eq_of_length (by rw [List.length_reverse]; exact e.trans Array.length_toList.symm)
  rw [s2, List.reverse_reverse, Array.toArray_toList]
section
variable {prog : Program} {w : World} {A : Around} {X : Value → Shared → Prop} {g : Array GenState} {d : Drawn} {t : Nat} {o : OsState} {h h₀ : Heap} {mg mb : Str → Option Value} {N : List (Addr × Fact)} {x y : Array UInt8} {tx ty : Nat}
theorem r_b_rfind {Q : Value → Shared → Prop} (hQ : ∀ t t', Q (.int (rfB x) t) ⟨h, g, d, t', o⟩) : wpAny (model prog w) A (call (.builtin "bytes.rfind") [.bytes x tx, .bytes #[47] ty]) Q X ⟨h, g, d, t, o⟩ :=
  call_gives slot_b_rfind (typeIs_bytes _ _ _) entry_b_rfind (args_b_rfind _ _) (gives_b_rfind x tx ty) (hQ _ _)
theorem r_b_rstrip {Q : Value → Shared → Prop} (hs : x.size ≤ 1000) (hQ : ∀ t t', Q (.bytes (rsB x) t) ⟨h, g, d, t', o⟩) : wpAny (model prog w) A (call (.builtin "bytes.rstrip") [.bytes x tx, .bytes #[47] ty]) Q X ⟨h, g, d, t, o⟩ := by
  refine wpAny_call_entry slot_b_rstrip (typeIs_bytes _ _ _) entry_b_rstrip ?_ (args_b_rstrip _ _)
  repeat (first | ((with_reducible show wpAny _ _ (Builtin.Bytes.buffer? _ _) _ _ _); refine wpAny_of_eq KBy.buffer_eq ?_) | wp_step)
  simp only [if_true, Bool.false_eq_true, if_false]
  split
  · rename_i e
    rw [beq_iff_eq] at e
    have e' : rsB x = x := rsB_eq (by rw [rsB, List.size_toArray]; exact e)
    rw [e'] at hQ
    refine wpAny_bind (wpAny_rule ?_)
    refine wpAny_bind (wpAny_of_eq (a := Value.bytes x tx) rfl ?_)
    exact wpAny_pure ⟨_, rfl, hQ _ _⟩
  · refine wpAny_bind (wpAny_mkBytes (wpAny_pure ⟨_, rfl, hQ _ _⟩) ?_)
    have := rsB_le x
    rw [sizeLine_eq]; show (rsB x).size ≤ _; omega
theorem r_b_len {Q : Value → Shared → Prop} (hsz : x.size ≤ 1000) (hQ : ∀ t t', Q (.int x.size t) ⟨h, g, d, t', o⟩) : wpAny (model prog w) A (call (.builtin "len") [.bytes x tx]) Q X ⟨h, g, d, t, o⟩ := len_bytes (by omega) (hQ _ _)
theorem r_b_truthy {Q : Bool → Shared → Prop} (hsz : x.size ≤ 1000) (hQ : ∀ t', Q (decide (x.size ≠ 0)) ⟨h, g, d, t', o⟩) : wpAny (model prog w) A (truthy (.bytes x tx)) Q X ⟨h, g, d, t, o⟩ := by
  refine truthy_bytes (by omega) ?_
  have e : ((x.size : Int) != 0) = decide (x.size ≠ 0) := by
    by_cases h0 : x.size = 0 <;> simp [h0]
  rw [e]; exact hQ _
theorem bytes_eq_iff : (x.toList = y.toList) ↔ x = y := ⟨fun e => by have := congrArg List.toArray e; rwa [Array.toArray_toList, Array.toArray_toList] at this, fun e => by rw [e]⟩
theorem r_b_ne {Q : Value → Shared → Prop} (hQ : Q (.bool (decide (x ≠ y))) ⟨h, g, d, t, o⟩) : wpAny (model prog w) A (compareOp .NotEq (.bytes x tx) (.bytes y ty)) Q X ⟨h, g, d, t, o⟩ := by
  refine ne_bytes ?_
  have e : (x.toList != y.toList) = decide (x ≠ y) := by rw [Bool.eq_iff_iff, bne_iff_ne, decide_eq_true_iff, ne_eq, ne_eq, bytes_eq_iff]
  rw [e]; exact hQ
theorem r_b_eq {Q : Value → Shared → Prop} (hQ : Q (.bool (decide (x = y))) ⟨h, g, d, t, o⟩) : wpAny (model prog w) A (compareOp .Eq (.bytes x tx) (.bytes y ty)) Q X ⟨h, g, d, t, o⟩ := by
  refine eq_bytes ?_
  have e : (x.toList == y.toList) = decide (x = y) := by rw [Bool.eq_iff_iff, beq_iff_eq, decide_eq_true_iff, bytes_eq_iff]
  rw [e]; exact hQ
def sepsB (n : Nat) : Array UInt8 := ((List.replicate n ([47] : List UInt8)).flatten).toArray
theorem r_b_mul {n : Nat} {u : Nat} {Q : Value → Shared → Prop} (hn : n ≤ 1000) (hQ : ∀ t t', Q (.bytes (sepsB n) t) ⟨h, g, d, t', o⟩) : wpAny (model prog w) A (binaryOp .Mult (.bytes #[47] tx) (.int n u)) Q X ⟨h, g, d, t, o⟩ :=
  bytes_mul_any (b := [47]) (by decide) (by omega) (by omega) (by decide) fun _ _ => hQ _ _
theorem t_b_slice {value slice : Expr} {u : Nat} {a : Addr} {j : Int} {Q : Value → Shared → Prop} (D : St mg mb h₀ N h) (hm : (a, Fact.obj (sliceObj .none (.int j u))) ∈ N)
    (hQ : ∀ t t', Q (.bytes (KBy.picked x none (some j)) t) ⟨h, g, d, t', o⟩) (hsz : x.size ≤ sizeLine)
    (hs : subscripted slice false (.bytes x tx) (.ref a) = operate [.ref a, .bytes x tx] (getItem (.bytes x tx) (.ref a)) := by with_unfolding_all rfl) :
    wpAny (model prog w) A (subscriptTail value slice (.bytes x tx) (.ref a)) Q X ⟨h, g, d, t, o⟩ := by
  obtain ⟨ob, ho, rfl⟩ := D.get hm
  refine tail_any (typeIs_bytes _ _ _) FB.slot_bytes_getitem.lookup ?_ hs
  exact getItem_meets (typeIs_bytes _ _ _) (by decide) FB.slot_bytes_getitem FB.entry_bytes_getitem (FB.args_bytes_getitem_2 _ _) (KBc.meets_slice2 x tx a .none (.int _ _)) ⟨⟨_, ho, rfl, rfl⟩, Nat.le_trans (KBc.size_picked_le _ _ _) hsz, fun _ _ => hQ _ _⟩
theorem gm_b_rfind {pl : Sem Bool} {Q : Value × List Value → Shared → Prop} {s : Shared} (hQ : Q (.builtin "bytes.rfind", [.bytes x tx]) s) : wpAny (model prog w) A (getMethod (.bytes x tx) "rfind" pl) Q X s :=
  getMethod_builtin (T := "bytes") (name := "rfind") (id := "bytes.rfind") (typeIs_bytes _ _ _) FB.plainAttrs_bytes slot_b_rfind type_b_rfind (fun _ e => nomatch e) hQ
theorem gm_b_rstrip {pl : Sem Bool} {Q : Value × List Value → Shared → Prop} {s : Shared} (hQ : Q (.builtin "bytes.rstrip", [.bytes x tx]) s) : wpAny (model prog w) A (getMethod (.bytes x tx) "rstrip" pl) Q X s :=
  getMethod_builtin (T := "bytes") (name := "rstrip") (id := "bytes.rstrip") (typeIs_bytes _ _ _) FB.plainAttrs_bytes slot_b_rstrip type_b_rstrip (fun _ e => nomatch e) hQ
end
end Mine

end
section
open PySem PySem.Calls PySem.W PyProof.Rows
set_option maxRecDepth 100000
set_option maxHeartbeats 1000000
namespace Mine
local macro_rules | `(tactic| walk_at "mem") => `(tactic| first | exact List.Mem.head _ | (refine List.Mem.tail _ ?_; walk_at "mem"))
local macro_rules | `(tactic| walk_at "upd") => `(tactic| first | exact Upd.head | (apply Upd.tail; walk_at "upd"))
local macro_rules | `(tactic| walk_at "del") => `(tactic| first | exact Del.head | (apply Del.tail; walk_at "del"))
local macro_rules | `(tactic| walk_at "sees") => `(tactic| first | exact Sees.nil | (refine Sees.cons (by rfl) ?_; walk_at "sees"))
local macro_rules | `(tactic| walk_at "subl") => `(tactic| first | exact List.Sublist.slnil | (refine List.Sublist.cons_cons _ ?_; walk_at "subl") | (refine List.Sublist.cons _ ?_; walk_at "subl"))
local macro_rules | `(tactic| walk_at "fact") => `(tactic| first | exact St.get (by assumption) (by walk_at "mem") | exact St.oldf (by assumption) (by assumption) | assumption)
local macro_rules | `(tactic| walk_at "xname") => `(tactic| first
  | refine r_local (by assumption) (by walk_at "mem") (by rfl) ?_
  | refine r_blt (by assumption) (by rfl) ?_
  | refine r_cell (by assumption) (by rfl) (by walk_at "mem") ?_
  | refine r_glob (by assumption) (by first | assumption | exact FnAt.g (by assumption)) ?_)
local macro_rules | `(tactic| walk_at "xconst") => `(tactic| first
  | refine r_int fun _ _ => ?_
  | refine r_str fun _ _ => ?_
  | refine r_bytes fun _ _ => ?_
  | refine wpAny_Constant_bool ?_
  | refine wpAny_Constant_none ?_)
local macro_rules | `(tactic| walk_at "xeval") => `(tactic| first
  | ((with_reducible show wpAny _ _ (eval (Expr.Name _ _) _) _ _ _); walk_at "xname")
  | ((with_reducible show wpAny _ _ (eval (Expr.Constant _ _ _) _) _ _ _); walk_at "xconst")
  | ((with_reducible show wpAny _ _ (eval (Expr.Call (Expr.Attribute _ _ _) _ _ _) _) _ _ _); refine MethodCall_ ?_)
  | ((with_reducible show wpAny _ _ (eval (Expr.Call _ _ _ _) _) _ _ _); refine Call_ ?_)
  | with_reducible refine wpAny_BinOp ?_
  | ((with_reducible show wpAny _ _ (eval (Expr.Compare _ [_] [_] _) _) _ _ _); refine wpAny_Compare1 ?_)
  | ((with_reducible show wpAny _ _ (eval (Expr.Subscript _ _ _) _) _ _ _); refine Subscript_ ?_)
  | ((with_reducible show wpAny _ _ (eval (Expr.Slice none (some _) none _) _) _ _ _); refine e_slice_nu ?_)
  | ((with_reducible show wpAny _ _ (eval (Expr.IfExp _ _ _ _) _) _ _ _); refine wpAny_IfExp ?_)
  | ((with_reducible show wpAny _ _ (eval (Expr.Tuple _ _ _) _) _ _ _); refine Tuple_ ?_)
  | ((with_reducible show wpAny _ _ (eval (Expr.List _ _) _) _ _ _); refine List_ ?_)
  | ((with_reducible show wpAny _ _ (eval (Expr.UnaryOp _ _ _) _) _ _ _); refine wpAny_UnaryOp ?_))
local macro_rules | `(tactic| walk_at "xexec") => `(tactic| first
  | ((with_reducible show wpAny _ _ (exec (Stmt.Assign [Expr.Name _ _] _ _) _) _ _ _); refine wpAny_Assign_Name ?_)
  | ((with_reducible show wpAny _ _ (exec (Stmt.If _ _ _ _) _) _ _ _); refine wpAny_If ?_)
  | ((with_reducible show wpAny _ _ (exec (Stmt.Return (some _) _) _) _ _ _); refine wpAny_Return_some ?_)
  | ((with_reducible show wpAny _ _ (exec (Stmt.Break _) _) _ _ _); refine wpAny_Break ?_)
  | ((with_reducible show wpAny _ _ (exec (Stmt.Expr _ _) _) _ _ _); refine wpAny_Expr ?_)
  | ((with_reducible show wpAny _ _ (exec (Stmt.For _ _ _ _ _) _) _ _ _); refine r_For ?_)
  | ((with_reducible show wpAny _ _ (exec (Stmt.While _ _ _ _) _) _ _ _); refine r_While ?_)
  | ((with_reducible show wpAny _ _ (exec (Stmt.AugAssign (Expr.Name _ _) _ _ _) _) _ _ _); refine wpAny_AugAssign_Name ?_))
local macro_rules | `(tactic| walk_at "xtrue") => `(tactic| first
  | ((with_reducible show wpAny _ _ (isTrue (Expr.Compare _ [_] [_] _) _ _) _ _ _); refine wpAny_isTrue_Compare1 ?_)
  | ((with_reducible show wpAny _ _ (isTrue (Expr.BoolOp _ _ _) _ _) _ _ _); refine wpAny_isTrue_BoolOp ?_)
  | ((with_reducible show wpAny _ _ (isTrue (Expr.UnaryOp UnaryOp.Not _ _) _ _) _ _ _); refine wpAny_isTrue_Not ?_)
  | ((with_reducible show wpAny _ _ (isTrue (Expr.Call _ _ _ _) _ _) _ _ _); refine wpAny_isTrue_value ?_)
  | ((with_reducible show wpAny _ _ (isTrue (Expr.Name _ _) _ _) _ _ _); refine wpAny_isTrue_value ?_))
local macro_rules | `(tactic| walk_at "xcall") => `(tactic| first
  | ((with_reducible show wpAny _ _ (call (Value.type "range") [Value.int _ _]) _ _ _); refine r_range (by assumption) ?_; intro _ _ _ _ _ _)
  | ((with_reducible show wpAny _ _ (call (Value.builtin "list.append") [_, _]) _ _ _); refine r_append (by assumption) (by walk_at "upd") ?_; intro _ _)
  | ((with_reducible show wpAny _ _ (call (Value.builtin "len") [Value.ref _]) _ _ _); refine r_len_list (by walk_at "fact") (by first | assumption | decide | omega) ?_; intro _ _)
  | ((with_reducible show wpAny _ _ (call (Value.type "type") [Value.str _ _]) _ _ _); refine call_type_of (Tx := "str") rfl (by decide) ?_)
  | ((with_reducible show wpAny _ _ (call (Value.type "type") [Value.bytes _ _]) _ _ _); refine call_type_of (Tx := "bytes") rfl (by decide) ?_)
  | ((with_reducible show wpAny _ _ (call (Value.builtin "issubclass") [Value.type "str", _]) _ _ _); refine r_issub_str (by assumption) (by walk_at "mem") ?_)
  | ((with_reducible show wpAny _ _ (call (Value.builtin "issubclass") [Value.type "bytes", _]) _ _ _); refine r_issub_bytes (by assumption) (by walk_at "mem") ?_)
  | ((with_reducible show wpAny _ _ (call (Value.builtin "isinstance") [Value.str _ _, Value.type "bytes"]) _ _ _); refine IsiPair.str_bytes ?_)
  | ((with_reducible show wpAny _ _ (call (Value.builtin "isinstance") [Value.bytes _ _, Value.type "bytes"]) _ _ _); refine call_isinstance_yes (typeIs_bytes _ _ _) F.isi_meta_bytes F.isi_self_bytes ?_))
local macro_rules | `(tactic| walk_at "xop") => `(tactic| first
  | ((with_reducible show wpAny _ _ (binaryOp Operator.Add (Value.int _ _) (Value.int _ _)) _ _ _); refine r_add ?_; intro _ _)
  | ((with_reducible show wpAny _ _ (binaryOp Operator.Sub (Value.int _ _) (Value.int _ _)) _ _ _); refine r_sub ?_; intro _ _)
  | ((with_reducible show wpAny _ _ (binaryOp Operator.Mod (Value.int _ _) (Value.int _ _)) _ _ _); refine r_mod (by decide) ?_; intro _ _)
  | ((with_reducible show wpAny _ _ (binaryOp Operator.Mult (Value.int _ _) (Value.int _ _)) _ _ _); refine r_mul ?_; intro _ _)
  | ((with_reducible show wpAny _ _ (binaryOp Operator.FloorDiv (Value.int _ _) (Value.int _ _)) _ _ _); refine r_fdiv (by decide) (PyProof.noPylong_small (by decide)) ?_; intro _ _)
  | ((with_reducible show wpAny _ _ (binaryOp Operator.BitAnd (Value.int _ _) (Value.int _ _)) _ _ _); refine r_and ?_; intro _ _))
local macro_rules | `(tactic| walk_at "xcmp") => `(tactic| first
  | ((with_reducible show wpAny _ _ (compareOp CmpOp.Eq (Value.int _ _) (Value.int _ _)) _ _ _); refine r_eq ?_)
  | ((with_reducible show wpAny _ _ (compareOp CmpOp.NotEq (Value.int _ _) (Value.int _ _)) _ _ _); refine r_ne ?_)
  | ((with_reducible show wpAny _ _ (compareOp CmpOp.Lt (Value.int _ _) (Value.int _ _)) _ _ _); refine r_lt ?_))
local macro_rules | `(tactic| walk_at "x1") => `(tactic| first
  | ((with_reducible show wpAny _ _ (eval _ _) _ _ _); walk_at "xeval")
  | ((with_reducible show wpAny _ _ (spliced _) _ _ _); first
    | ((with_reducible show wpAny _ _ (spliced (backTo _ (starEach [] _))) _ _ _); refine args_nil ?_; (try simp only [List.nil_append, List.cons_append]))
    | ((with_reducible show wpAny _ _ (spliced (backTo _ (starEach (_ :: _) _))) _ _ _); refine args_cons ?_))
  | ((with_reducible show wpAny _ _ (callWith _ _ _ _ _) _ _ _); first
    | ((with_reducible show wpAny _ _ (callWith _ (Value.builtin _) _ _ _) _ _ _); refine cw_blt ?_)
    | ((with_reducible show wpAny _ _ (callWith _ (Value.ref _) _ _ _) _ _ _); refine cw_fn ?_)
    | ((with_reducible show wpAny _ _ (callWith _ (Value.type _) _ _ _) _ _ _); refine cw_type ?_))
  | ((with_reducible show wpAny _ _ (execs _ _) _ _ _); first
    | ((with_reducible show wpAny _ _ (execs (_ :: _) _) _ _ _); refine wpAny_execs_cons ?_)
    | ((with_reducible show wpAny _ _ (execs [] _) _ _ _); refine wpAny_execs_nil ?_))
  | ((with_reducible show wpAny _ _ (exec _ _) _ _ _); walk_at "xexec")
  | ((with_reducible show wpAny _ _ (storeName _ _ _) _ _ _); first | (refine r_st (by assumption) (by walk_at "upd") ?_; intro _ _ _) | (refine r_stc (by assumption) (by rfl) (by walk_at "upd") ?_; intro _ _ _))
  | ((with_reducible show wpAny _ _ (isTrue _ _ _) _ _ _); walk_at "xtrue")
  | ((with_reducible show wpAny _ _ (truthy (Value.bool _)) _ _ _); refine wpAny_truthy_bool ?_)
  | ((with_reducible show wpAny _ _ (call _ _ _) _ _ _); walk_at "xcall")
  | ((with_reducible show wpAny _ _ (binaryOp _ _ _) _ _ _); walk_at "xop")
  | ((with_reducible show wpAny _ _ (compareOp _ _ _) _ _ _); walk_at "xcmp")
  | ((with_reducible show wpAny _ _ (subscriptTail _ _ (Value.ref _) (Value.int _ _)) _ _ _); refine t_list_item (by walk_at "fact") (by decide) (by decide) (by rfl) ?_)
  | ((with_reducible show wpAny _ _ (inplaceOp Operator.Add (Value.int _ _) (Value.int _ _)) _ _ _); refine r_iadd ?_; intro _ _)
  | ((with_reducible show wpAny _ _ (loadName _ _) _ _ _); first
    | refine r_localN (by assumption) (by walk_at "mem") (by rfl) ?_
    | refine r_cellN (by assumption) (by rfl) (by walk_at "mem") ?_)
  | ((with_reducible show wpAny _ _ (forIn [] _ _) _ _ _); refine wpAny_tests_nil ?_)
  | ((with_reducible show wpAny _ _ (forIn [_] _ _) _ _ _); refine wpAny_tests_one ?_)
  | ((with_reducible show wpAny _ _ (emitL _ _ _) _ _ _); refine wp_emitL ?_)
  | ((with_reducible show wpAny _ _ (emitS _ _ _) _ _ _); refine wp_emitS ?_)
  | ((with_reducible show wpAny _ _ (assign (Expr.Name _ _) _ _) _ _ _); refine wpAny_assign_Name ?_)
  | ((with_reducible show wpAny _ _ (getMethod (Value.ref _) _ _) _ _ _); (with_reducible refine gm_append ?_ ?_); (· exact ⟨_, by walk_at "fact"⟩))
  | ((with_reducible show wpAny _ _ (letOwnedTupleGo (Expr.Name _ _) _ _) _ _ _); refine wpAny_pure ?_)
  | ((with_reducible show wpAny _ _ (newTuple _) _ _ _); refine r_newTuple (by assumption) ?_; intro _ _ _)
  | ((with_reducible show wpAny _ _ (newList _) _ _ _); refine r_newList (by assumption) ?_; intro _ _ _)
  | ((with_reducible show wpAny _ _ (newFields "slice" [_, _, Value.none]) _ _ _); refine r_newSlice (by assumption) ?_; intro _ _ _)
  | ((with_reducible show wpAny _ _ (allTrue _ _ _) _ _ _); first
    | ((with_reducible show wpAny _ _ (allTrue BoolOp.And (_ :: _) _) _ _ _); refine wpAny_allTrue_And_cons ?_)
    | ((with_reducible show wpAny _ _ (allTrue BoolOp.Or (_ :: _) _) _ _ _); refine wpAny_allTrue_Or_cons ?_)
    | refine wpAny_allTrue_And_nil ?_ | refine wpAny_allTrue_Or_nil ?_)
  | ((with_reducible show ite _ _ _); (first | rw [if_pos rfl] | rw [if_neg Bool.false_ne_true])))
section
variable {prog : Program} {w : World} {A : Around} {X : Value → Shared → Prop} {g : Array GenState} {d : Drawn} {t : Nat} {o : OsState} {mg mb : Str → Option Value} {h₀ h : Heap} {N N' : List (Addr × Fact)} {env : Env}
def headB (x : Array UInt8) : Array UInt8 := KBy.picked x none (some (rfB x + 1))
def dirB (x : Array UInt8) : Array UInt8 := if (headB x).size = 0 then headB x else if headB x = sepsB (headB x).size then headB x else rsB (headB x)
theorem headB_le (x : Array UInt8) : (headB x).size ≤ x.size := KBc.size_picked_le x _ _
theorem dirname_bytes {a : Addr} {x : Array UInt8} {tk : Nat} {Q : Value → Shared → Prop} {fa ga : Addr} (W : Wd mg mb h) (F : Fn mg h "dirname" 14 a) (F1 : Fn mg h "fspath" 9 fa) (F2 : Fn mg h "_get_sep" 13 ga) (hR : A.depth + 1 < recursionLimit) (hx : x.size ≤ 100)
    (hQ : ∀ h' t' tk', Ext h h' → Q (.bytes (dirB x) tk') ⟨h', g, d, t', o⟩) : wpAny (model prog w) A (call (.ref a) [.bytes x tk]) Q X ⟨h, g, d, t, o⟩ := by
  refine fcall (binds := [("p", .bytes x tk)]) W F (by omega) (fun _ _ _ => by rfl) (locs rfl) (fun L cd h₁ t₁ D => ?_) rfl rfl rfl (by decide)
  refine wpAny_execs_cons ?_
  repeat walk_at "x1"
  refine ⟨F1.here.ext D.keep, ?_⟩
  refine fspath_bytes D.wdn (F1.ext D.keep) hR fun h' t' k => ?_
  have D := D.ext k
  repeat walk_at "x1"
  refine ⟨F2.here.ext (St.keep (by assumption)), ?_⟩
  refine get_sep_bytes (St.wdn (by assumption)) (F2.ext (St.keep (by assumption))) hR fun h' t' tk' k => ?_
  have D := St.ext (by assumption) k
  repeat walk_at "x1"
  with_reducible refine gm_b_rfind ?_
  repeat walk_at "x1"
  refine r_b_rfind fun _ _ => ?_
  repeat walk_at "x1"
  refine t_b_slice (by assumption) (by walk_at "mem") (fun _ _ => ?_) (by rw [sizeLine_eq]; omega)
  have hl := headB_le x
  repeat walk_at "x1"
  refine r_b_truthy (by show (headB x).size ≤ 1000; omega) fun _ => ?_
  refine ite_dec (fun h0 => ?_) (fun h0 => ?_)
  · repeat walk_at "x1"
    refine r_b_len (by show (headB x).size ≤ 1000; omega) fun _ _ => ?_
    repeat walk_at "x1"
    refine r_b_mul (by show (headB x).size ≤ 1000; omega) fun _ _ => ?_
    repeat walk_at "x1"
    refine r_b_ne ?_
    repeat walk_at "x1"
    refine ite_dec (fun h1 => ?_) (fun h1 => ?_)
    · repeat walk_at "x1"
      with_reducible refine gm_b_rstrip ?_
      repeat walk_at "x1"
      refine r_b_rstrip (by show (headB x).size ≤ 1000; omega) fun _ _ => ?_
      repeat walk_at "x1"
      have e : dirB x = rsB (headB x) := (if_neg (h0 : ¬ (headB x).size = 0)).trans (if_neg h1)
      rw [e] at hQ
      exact hQ _ _ _ (St.keep (by assumption))
    · repeat walk_at "x1"
      have e : dirB x = headB x := (if_neg (h0 : ¬ (headB x).size = 0)).trans (if_pos (Classical.not_not.mp h1))
      rw [e] at hQ
      exact hQ _ _ _ (St.keep (by assumption))
  · repeat walk_at "x1"
    have e : dirB x = headB x := if_pos (Classical.not_not.mp h0)
    rw [e] at hQ
    exact hQ _ _ _ (St.keep (by assumption))
end
end Mine

end
section
open PySem PySem.Calls PySem.W PyProof.Rows
set_option maxRecDepth 100000
set_option maxHeartbeats 1000000
namespace Mine
local macro_rules | `(tactic| walk_at "mem") => `(tactic| first | exact List.Mem.head _ | (refine List.Mem.tail _ ?_; walk_at "mem"))
local macro_rules | `(tactic| walk_at "upd") => `(tactic| first | exact Upd.head | (apply Upd.tail; walk_at "upd"))
local macro_rules | `(tactic| walk_at "del") => `(tactic| first | exact Del.head | (apply Del.tail; walk_at "del"))
local macro_rules | `(tactic| walk_at "sees") => `(tactic| first | exact Sees.nil | (refine Sees.cons (by rfl) ?_; walk_at "sees"))
local macro_rules | `(tactic| walk_at "subl") => `(tactic| first | exact List.Sublist.slnil | (refine List.Sublist.cons_cons _ ?_; walk_at "subl") | (refine List.Sublist.cons _ ?_; walk_at "subl"))
local macro_rules | `(tactic| walk_at "fact") => `(tactic| first | exact St.get (by assumption) (by walk_at "mem") | exact St.oldf (by assumption) (by assumption) | assumption)
local macro_rules | `(tactic| walk_at "xname") => `(tactic| first
  | refine r_local (by assumption) (by walk_at "mem") (by rfl) ?_
  | refine r_blt (by assumption) (by rfl) ?_
  | refine r_cell (by assumption) (by rfl) (by walk_at "mem") ?_
  | refine r_glob (by assumption) (by first | assumption | exact FnAt.g (by assumption)) ?_)
local macro_rules | `(tactic| walk_at "xconst") => `(tactic| first
  | refine r_int fun _ _ => ?_
  | refine r_str fun _ _ => ?_
  | refine r_bytes fun _ _ => ?_
  | refine wpAny_Constant_bool ?_
  | refine wpAny_Constant_none ?_)
local macro_rules | `(tactic| walk_at "xeval") => `(tactic| first
  | ((with_reducible show wpAny _ _ (eval (Expr.Name _ _) _) _ _ _); walk_at "xname")
  | ((with_reducible show wpAny _ _ (eval (Expr.Constant _ _ _) _) _ _ _); walk_at "xconst")
  | ((with_reducible show wpAny _ _ (eval (Expr.Call (Expr.Attribute _ _ _) _ _ _) _) _ _ _); refine MethodCall_ ?_)
  | ((with_reducible show wpAny _ _ (eval (Expr.Call _ _ _ _) _) _ _ _); refine Call_ ?_)
  | with_reducible refine wpAny_BinOp ?_
  | ((with_reducible show wpAny _ _ (eval (Expr.Compare _ [_] [_] _) _) _ _ _); refine wpAny_Compare1 ?_)
  | ((with_reducible show wpAny _ _ (eval (Expr.Subscript _ _ _) _) _ _ _); refine Subscript_ ?_)
  | ((with_reducible show wpAny _ _ (eval (Expr.Slice none (some _) none _) _) _ _ _); refine e_slice_nu ?_)
  | ((with_reducible show wpAny _ _ (eval (Expr.IfExp _ _ _ _) _) _ _ _); refine wpAny_IfExp ?_)
  | ((with_reducible show wpAny _ _ (eval (Expr.Tuple _ _ _) _) _ _ _); refine Tuple_ ?_)
  | ((with_reducible show wpAny _ _ (eval (Expr.List _ _) _) _ _ _); refine List_ ?_)
  | ((with_reducible show wpAny _ _ (eval (Expr.UnaryOp _ _ _) _) _ _ _); refine wpAny_UnaryOp ?_))
local macro_rules | `(tactic| walk_at "xexec") => `(tactic| first
  | ((with_reducible show wpAny _ _ (exec (Stmt.Assign [Expr.Name _ _] _ _) _) _ _ _); refine wpAny_Assign_Name ?_)
  | ((with_reducible show wpAny _ _ (exec (Stmt.If _ _ _ _) _) _ _ _); refine wpAny_If ?_)
  | ((with_reducible show wpAny _ _ (exec (Stmt.Return (some _) _) _) _ _ _); refine wpAny_Return_some ?_)
  | ((with_reducible show wpAny _ _ (exec (Stmt.Break _) _) _ _ _); refine wpAny_Break ?_)
  | ((with_reducible show wpAny _ _ (exec (Stmt.Expr _ _) _) _ _ _); refine wpAny_Expr ?_)
  | ((with_reducible show wpAny _ _ (exec (Stmt.For _ _ _ _ _) _) _ _ _); refine r_For ?_)
  | ((with_reducible show wpAny _ _ (exec (Stmt.While _ _ _ _) _) _ _ _); refine r_While ?_)
  | ((with_reducible show wpAny _ _ (exec (Stmt.AugAssign (Expr.Name _ _) _ _ _) _) _ _ _); refine wpAny_AugAssign_Name ?_))
local macro_rules | `(tactic| walk_at "xtrue") => `(tactic| first
  | ((with_reducible show wpAny _ _ (isTrue (Expr.Compare _ [_] [_] _) _ _) _ _ _); refine wpAny_isTrue_Compare1 ?_)
  | ((with_reducible show wpAny _ _ (isTrue (Expr.BoolOp _ _ _) _ _) _ _ _); refine wpAny_isTrue_BoolOp ?_)
  | ((with_reducible show wpAny _ _ (isTrue (Expr.UnaryOp UnaryOp.Not _ _) _ _) _ _ _); refine wpAny_isTrue_Not ?_)
  | ((with_reducible show wpAny _ _ (isTrue (Expr.Call _ _ _ _) _ _) _ _ _); refine wpAny_isTrue_value ?_)
  | ((with_reducible show wpAny _ _ (isTrue (Expr.Name _ _) _ _) _ _ _); refine wpAny_isTrue_value ?_))
local macro_rules | `(tactic| walk_at "xcall") => `(tactic| first
  | ((with_reducible show wpAny _ _ (call (Value.type "range") [Value.int _ _]) _ _ _); refine r_range (by assumption) ?_; intro _ _ _ _ _ _)
  | ((with_reducible show wpAny _ _ (call (Value.builtin "list.append") [_, _]) _ _ _); refine r_append (by assumption) (by walk_at "upd") ?_; intro _ _)
  | ((with_reducible show wpAny _ _ (call (Value.builtin "len") [Value.ref _]) _ _ _); refine r_len_list (by walk_at "fact") (by first | assumption | decide | omega) ?_; intro _ _)
  | ((with_reducible show wpAny _ _ (call (Value.type "type") [Value.str _ _]) _ _ _); refine call_type_of (Tx := "str") rfl (by decide) ?_)
  | ((with_reducible show wpAny _ _ (call (Value.type "type") [Value.bytes _ _]) _ _ _); refine call_type_of (Tx := "bytes") rfl (by decide) ?_)
  | ((with_reducible show wpAny _ _ (call (Value.builtin "issubclass") [Value.type "str", _]) _ _ _); refine r_issub_str (by assumption) (by walk_at "mem") ?_)
  | ((with_reducible show wpAny _ _ (call (Value.builtin "issubclass") [Value.type "bytes", _]) _ _ _); refine r_issub_bytes (by assumption) (by walk_at "mem") ?_)
  | ((with_reducible show wpAny _ _ (call (Value.builtin "isinstance") [Value.str _ _, Value.type "bytes"]) _ _ _); refine IsiPair.str_bytes ?_)
  | ((with_reducible show wpAny _ _ (call (Value.builtin "isinstance") [Value.bytes _ _, Value.type "bytes"]) _ _ _); refine call_isinstance_yes (typeIs_bytes _ _ _) F.isi_meta_bytes F.isi_self_bytes ?_))
local macro_rules | `(tactic| walk_at "xop") => `(tactic| first
  | ((with_reducible show wpAny _ _ (binaryOp Operator.Add (Value.int _ _) (Value.int _ _)) _ _ _); refine r_add ?_; intro _ _)
  | ((with_reducible show wpAny _ _ (binaryOp Operator.Sub (Value.int _ _) (Value.int _ _)) _ _ _); refine r_sub ?_; intro _ _)
  | ((with_reducible show wpAny _ _ (binaryOp Operator.Mod (Value.int _ _) (Value.int _ _)) _ _ _); refine r_mod (by decide) ?_; intro _ _)
  | ((with_reducible show wpAny _ _ (binaryOp Operator.Mult (Value.int _ _) (Value.int _ _)) _ _ _); refine r_mul ?_; intro _ _)
  | ((with_reducible show wpAny _ _ (binaryOp Operator.FloorDiv (Value.int _ _) (Value.int _ _)) _ _ _); refine r_fdiv (by decide) (PyProof.noPylong_small (by decide)) ?_; intro _ _)
  | ((with_reducible show wpAny _ _ (binaryOp Operator.BitAnd (Value.int _ _) (Value.int _ _)) _ _ _); refine r_and ?_; intro _ _))
local macro_rules | `(tactic| walk_at "xcmp") => `(tactic| first
  | ((with_reducible show wpAny _ _ (compareOp CmpOp.Eq (Value.int _ _) (Value.int _ _)) _ _ _); refine r_eq ?_)
  | ((with_reducible show wpAny _ _ (compareOp CmpOp.NotEq (Value.int _ _) (Value.int _ _)) _ _ _); refine r_ne ?_)
  | ((with_reducible show wpAny _ _ (compareOp CmpOp.Lt (Value.int _ _) (Value.int _ _)) _ _ _); refine r_lt ?_))
local macro_rules | `(tactic| walk_at "x1") => `(tactic| first
  | ((with_reducible show wpAny _ _ (eval _ _) _ _ _); walk_at "xeval")
  | ((with_reducible show wpAny _ _ (spliced _) _ _ _); first
    | ((with_reducible show wpAny _ _ (spliced (backTo _ (starEach [] _))) _ _ _); refine args_nil ?_; (try simp only [List.nil_append, List.cons_append]))
    | ((with_reducible show wpAny _ _ (spliced (backTo _ (starEach (_ :: _) _))) _ _ _); refine args_cons ?_))
  | ((with_reducible show wpAny _ _ (callWith _ _ _ _ _) _ _ _); first
    | ((with_reducible show wpAny _ _ (callWith _ (Value.builtin _) _ _ _) _ _ _); refine cw_blt ?_)
    | ((with_reducible show wpAny _ _ (callWith _ (Value.ref _) _ _ _) _ _ _); refine cw_fn ?_)
    | ((with_reducible show wpAny _ _ (callWith _ (Value.type _) _ _ _) _ _ _); refine cw_type ?_))
  | ((with_reducible show wpAny _ _ (execs _ _) _ _ _); first
    | ((with_reducible show wpAny _ _ (execs (_ :: _) _) _ _ _); refine wpAny_execs_cons ?_)
    | ((with_reducible show wpAny _ _ (execs [] _) _ _ _); refine wpAny_execs_nil ?_))
  | ((with_reducible show wpAny _ _ (exec _ _) _ _ _); walk_at "xexec")
  | ((with_reducible show wpAny _ _ (storeName _ _ _) _ _ _); first | (refine r_st (by assumption) (by walk_at "upd") ?_; intro _ _ _) | (refine r_stc (by assumption) (by rfl) (by walk_at "upd") ?_; intro _ _ _))
  | ((with_reducible show wpAny _ _ (isTrue _ _ _) _ _ _); walk_at "xtrue")
  | ((with_reducible show wpAny _ _ (truthy (Value.bool _)) _ _ _); refine wpAny_truthy_bool ?_)
  | ((with_reducible show wpAny _ _ (call _ _ _) _ _ _); walk_at "xcall")
  | ((with_reducible show wpAny _ _ (binaryOp _ _ _) _ _ _); walk_at "xop")
  | ((with_reducible show wpAny _ _ (compareOp _ _ _) _ _ _); walk_at "xcmp")
  | ((with_reducible show wpAny _ _ (subscriptTail _ _ (Value.ref _) (Value.int _ _)) _ _ _); refine t_list_item (by walk_at "fact") (by decide) (by decide) (by rfl) ?_)
  | ((with_reducible show wpAny _ _ (inplaceOp Operator.Add (Value.int _ _) (Value.int _ _)) _ _ _); refine r_iadd ?_; intro _ _)
  | ((with_reducible show wpAny _ _ (loadName _ _) _ _ _); first
    | refine r_localN (by assumption) (by walk_at "mem") (by rfl) ?_
    | refine r_cellN (by assumption) (by rfl) (by walk_at "mem") ?_)
  | ((with_reducible show wpAny _ _ (forIn [] _ _) _ _ _); refine wpAny_tests_nil ?_)
  | ((with_reducible show wpAny _ _ (forIn [_] _ _) _ _ _); refine wpAny_tests_one ?_)
  | ((with_reducible show wpAny _ _ (emitL _ _ _) _ _ _); refine wp_emitL ?_)
  | ((with_reducible show wpAny _ _ (emitS _ _ _) _ _ _); refine wp_emitS ?_)
  | ((with_reducible show wpAny _ _ (assign (Expr.Name _ _) _ _) _ _ _); refine wpAny_assign_Name ?_)
  | ((with_reducible show wpAny _ _ (getMethod (Value.ref _) _ _) _ _ _); (with_reducible refine gm_append ?_ ?_); (· exact ⟨_, by walk_at "fact"⟩))
  | ((with_reducible show wpAny _ _ (letOwnedTupleGo (Expr.Name _ _) _ _) _ _ _); refine wpAny_pure ?_)
  | ((with_reducible show wpAny _ _ (newTuple _) _ _ _); refine r_newTuple (by assumption) ?_; intro _ _ _)
  | ((with_reducible show wpAny _ _ (newList _) _ _ _); refine r_newList (by assumption) ?_; intro _ _ _)
  | ((with_reducible show wpAny _ _ (newFields "slice" [_, _, Value.none]) _ _ _); refine r_newSlice (by assumption) ?_; intro _ _ _)
  | ((with_reducible show wpAny _ _ (allTrue _ _ _) _ _ _); first
    | ((with_reducible show wpAny _ _ (allTrue BoolOp.And (_ :: _) _) _ _ _); refine wpAny_allTrue_And_cons ?_)
    | ((with_reducible show wpAny _ _ (allTrue BoolOp.Or (_ :: _) _) _ _ _); refine wpAny_allTrue_Or_cons ?_)
    | refine wpAny_allTrue_And_nil ?_ | refine wpAny_allTrue_Or_nil ?_)
  | ((with_reducible show ite _ _ _); (first | rw [if_pos rfl] | rw [if_neg Bool.false_ne_true])))
def codeN (c : Bool) : Nat := if c then 98 else 97
def bodyN : List Bool → List Nat
  | [] => []
  | [c] => [codeN c]
  | c :: r => codeN c :: 47 :: bodyN r
def pathN (f : Bool) (r : List Bool) : List Nat := (if f then [47] else []) ++ bodyN r
def pathS (f : Bool) (r : List Bool) : Str := ⟨(pathN f r).toArray⟩
def bytesN (l : List Nat) : Array UInt8 := (l.map Nat.toUInt8).toArray
def pathB (f : Bool) (r : List Bool) : Array UInt8 := bytesN (pathN f r)
def rows3 : List (List Bool) := [[]] ++ [[false], [true]] ++ [[false, false], [false, true], [true, false], [true, true]] ++
  [[false, false, false], [false, false, true], [false, true, false], [false, true, true], [true, false, false], [true, false, true], [true, true, false], [true, true, true]]
theorem mem_rows3 : ∀ {r : List Bool}, r.length ≤ 3 → r ∈ rows3
  | [], _ => by decide
  | [a], _ => by cases a <;> decide
  | [a, b], _ => by cases a <;> cases b <;> decide
  | [a, b, c], _ => by cases a <;> cases b <;> cases c <;> decide
  | _ :: _ :: _ :: _ :: _, h => by simp at h
theorem dirS_path : ∀ f : Bool, ∀ r ∈ rows3, (dirS (pathS f r)).cps.toList = pathN f r.dropLast := by decide +kernel
theorem dirB_path : ∀ f : Bool, ∀ r ∈ rows3, (dirB (pathB f r)).toList = (pathB f r.dropLast).toList := by decide +kernel
theorem path_inj : ∀ f : Bool, ∀ r ∈ rows3, ∀ r' ∈ rows3, pathN f r = pathN f r' → r = r' := by decide +kernel
theorem pathB_inj : ∀ f : Bool, ∀ r ∈ rows3, ∀ r' ∈ rows3, (pathB f r).toList = (pathB f r').toList → r = r' := by decide +kernel
theorem path_len : ∀ f : Bool, ∀ r ∈ rows3, (pathN f r).length ≤ 6 := by decide +kernel
theorem dirS_eq {f : Bool} {r : List Bool} (h : r.length ≤ 3) : dirS (pathS f r) = pathS f r.dropLast := by
  have := dirS_path f r (mem_rows3 h)
  obtain ⟨⟨l⟩, e⟩ : ∃ x : Str, dirS (pathS f r) = x := ⟨_, rfl⟩
  rw [e] at this ⊢
  have this := congrArg List.toArray this
  change l.toList.toArray = _ at this
  rw [Array.toArray_toList] at this
  rw [this]; rfl
theorem dirB_eq {f : Bool} {r : List Bool} (h : r.length ≤ 3) : dirB (pathB f r) = pathB f r.dropLast := bytes_eq_iff.mp (dirB_path f r (mem_rows3 h))
theorem pathS_inj {f : Bool} {r r' : List Bool} (h : r.length ≤ 3) (h' : r'.length ≤ 3) : pathS f r = pathS f r' ↔ r = r' := by
  refine ⟨fun e => path_inj f r (mem_rows3 h) r' (mem_rows3 h') ?_, fun e => by rw [e]⟩
  have := congrArg (fun x : Str => x.cps.toList) e
  exact this
theorem pathB_eq {f : Bool} {r r' : List Bool} (h : r.length ≤ 3) (h' : r'.length ≤ 3) : pathB f r = pathB f r' ↔ r = r' :=
  ⟨fun e => pathB_inj f r (mem_rows3 h) r' (mem_rows3 h') (congrArg Array.toList e), fun e => by rw [e]⟩
/-- a folder, as text or as bytes -/
def node (m f : Bool) (r : List Bool) (t : Nat) : Value := match m with | true => .bytes (pathB f r) t | false => .str (pathS f r) t
inductive Nodes (m f : Bool) : List Value → List (List Bool) → Prop
  | nil : Nodes m f [] []
  | cons {t r vs rs} : Nodes m f vs rs → Nodes m f (node m f r t :: vs) (r :: rs)
theorem Nodes.snoc {m f vs rs r t} (s : Nodes m f vs rs) : Nodes m f (vs ++ [node m f r t]) (rs ++ [r]) := by
  induction s with
  | nil => exact .cons .nil
  | cons _ ih => exact .cons ih
theorem Nodes.len {m f vs rs} (s : Nodes m f vs rs) : vs.length = rs.length := by
  induction s with
  | nil => rfl
  | cons _ ih => simp [ih]
theorem Nodes.append {m f vs rs vs' rs'} (s : Nodes m f vs rs) (s' : Nodes m f vs' rs') : Nodes m f (vs ++ vs') (rs ++ rs') := by
  induction s with
  | nil => exact s'
  | cons _ ih => exact .cons ih
theorem Nodes.get {m f vs rs} (s : Nodes m f vs rs) : ∀ (k : Nat) (r : List Bool), rs[k]? = some r → ∃ t, vs[k]? = some (node m f r t) := by
  induction s with
  | nil => intro k r e; simp at e
  | @cons t r' vs rs _ ih =>
    intro k r e
    cases k with
    | zero => simp only [List.getElem?_cons_zero, Option.some.injEq] at e; subst e; exact ⟨t, rfl⟩
    | succ k => simp only [List.getElem?_cons_succ] at e; exact ih k r e
section
variable {prog : Program} {w : World} {A : Around} {X : Value → Shared → Prop} {g : Array GenState} {d : Drawn} {t : Nat} {o : OsState} {mg mb : Str → Option Value} {h₀ h : Heap} {N N' : List (Addr × Fact)} {env : Env} {m f : Bool}
theorem pathS_len {r : List Bool} (h : r.length ≤ 3) : (pathS f r).length ≤ 100 := by
  have := path_len f r (mem_rows3 h)
  show (pathN f r).toArray.size ≤ 100
  rw [List.size_toArray]; omega
theorem pathB_len {r : List Bool} (h : r.length ≤ 3) : (pathB f r).size ≤ 100 := by
  have := path_len f r (mem_rows3 h)
  unfold pathB bytesN
  rw [List.size_toArray, List.length_map]; omega
theorem dirname_node {a : Addr} {r : List Bool} {tk : Nat} {Q : Value → Shared → Prop} {fa ga : Addr} (W : Wd mg mb h) (F : Fn mg h "dirname" 14 a) (F1 : Fn mg h "fspath" 9 fa) (F2 : Fn mg h "_get_sep" 13 ga) (hR : A.depth + 1 < recursionLimit) (hr : r.length ≤ 3)
    (hQ : ∀ h' t' tk', Ext h h' → Q (node m f r.dropLast tk') ⟨h', g, d, t', o⟩) : wpAny (model prog w) A (call (.ref a) [node m f r tk]) Q X ⟨h, g, d, t, o⟩ := by
  cases m with
  | true =>
    refine dirname_bytes W F F1 F2 hR (pathB_len hr) fun h' t' tk' k => ?_
    rw [dirB_eq hr]; exact hQ h' t' tk' k
  | false =>
    refine dirname_str W F F1 F2 hR (pathS_len hr) fun h' t' tk' k => ?_
    rw [dirS_eq hr]; exact hQ h' t' tk' k
theorem r_eq_node {r r' : List Bool} {tx ty : Nat} {Q : Value → Shared → Prop} (hr : r.length ≤ 3) (hr' : r'.length ≤ 3) (hQ : Q (.bool (decide (r = r'))) ⟨h, g, d, t, o⟩) :
    wpAny (model prog w) A (compareOp .Eq (node m f r tx) (node m f r' ty)) Q X ⟨h, g, d, t, o⟩ := by
  cases m with
  | true => refine r_b_eq ?_; rw [decide_eq_decide.mpr (pathB_eq hr hr')]; exact hQ
  | false => refine r_eq_str ?_; rw [decide_eq_decide.mpr (pathS_inj hr hr')]; exact hQ

def climbF (top : List Bool) : Nat → List Bool → Option (List (List Bool))
  | 0, _ => none
  | n + 1, r => if r = top then some [r] else (climbF top n r.dropLast).map (r :: ·)
theorem law_climb {a : Addr} {here top : List Bool} {cs : List (List Bool)} {tk tk' : Nat} {Q : Value → Shared → Prop} {da fa ga : Addr} (hh : A.handled = none) (W : Wd mg mb h) (F : Fn mg h "_law_climb" 18 a) (F0 : Fn mg h "dirname" 14 da) (F1 : Fn mg h "fspath" 9 fa) (F2 : Fn mg h "_get_sep" 13 ga)
    (hR : A.depth + 2 < recursionLimit) (hx : here.length ≤ 3) (hy : top.length ≤ 3) (hc : climbF top 5 here = some cs)
    (hQ : ∀ h' t' r vs, Ext h h' → h.get? r = none → (Fact.lst vs).at h' r → Nodes m f vs cs → Q (.ref r) ⟨h', g, d, t', o⟩) : wpAny (model prog w) A (call (.ref a) [node m f here tk, node m f top tk']) Q X ⟨h, g, d, t, o⟩ := by
  refine fcall (binds := [("here", node m f here tk), ("top", node m f top tk')]) W F (by omega) (fun _ _ _ => by rfl) (locs rfl) (fun L cd h₁ t₁ D => ?_) rfl rfl rfl (by decide)
  refine wpAny_execs_cons ?_
  repeat walk_at "x1"
  refine pi_range (n := 5) (by assumption) (by walk_at "mem") (by decide) fun I h' D => ?_
  refine ⟨5, fun E => ?_⟩
  have D := (D.sub (N' := [(I, _), (_, .lst []), (L, _)]) (by walk_at "subl")).see (E' := [("here", node m f here tk), ("top", node m f top tk'), ("passed", .ref _)]) (by walk_at "upd") (by walk_at "sees")
  refine (fun (key : ∀ (n : Nat) (here : List Bool) (k tx : Nat) (vs : List Value) (cs cs' : List (List Bool)) (r : Addr) (h' : Heap) (t' : Nat), St mg mb h [(I, .obj (rgObj ((k : Nat) : Int) ((n : Nat) : Int))), (r, .lst vs), (L, .ns [("here", node m f here tx), ("top", node m f top tk'), ("passed", .ref r)])] h' →
    here.length ≤ 3 → vs.length + n ≤ 1000 → Nodes m f vs cs → climbF top n here = some cs' → (∀ h' t' r vs, Ext h h' → h.get? r = none → (Fact.lst vs).at h' r → Nodes m f vs (cs ++ cs') → Q (.ref r) ⟨h', g, d, t', o⟩) → ForT prog w _ E _ _ _ _ _ _ n ⟨h', g, d, t', o⟩) => key 5 here 0 tk [] [] cs _ h' _ D hx (by decide) .nil hc hQ) ?_
  intro n
  induction n with
  | zero => intro _ _ _ _ _ _ _ _ _ _ _ _ _ hc; cases hc
  | succ n ih =>
    intro here k tx vs cs cs' r h' t' D hx hl S hc hQ
    refine pn_range D (by walk_at "upd") fun h' t' _ D => ?_
    show wpAny _ _ (letOwnedTupleGo _ _ _) _ _ _
    repeat walk_at "x1"
    refine r_eq_node hx hy ?_
    repeat walk_at "x1"
    rw [climbF] at hc
    refine ite_dec (fun h0 => ?_) (fun h0 => ?_)
    · repeat walk_at "x1"
      rw [if_pos h0] at hc
      cases hc
      exact hQ _ _ _ _ (St.keep (by assumption)) (St.new (by assumption) (by walk_at "mem")) (by walk_at "fact") S.snoc
    · repeat walk_at "x1"
      rw [if_neg h0] at hc
      obtain ⟨cs₁, hc1, hc2⟩ := Option.map_eq_some_iff.mp hc
      subst hc2
      refine ⟨F0.here.ext (St.keep (by assumption)), ?_⟩
      refine dirname_node (St.wdn (by assumption)) (F0.ext (St.keep (by assumption))) (F1.ext (St.keep (by assumption))) (F2.ext (St.keep (by assumption))) (by show A.depth + 1 + 1 < recursionLimit; omega) hx fun h' t' tk' k => ?_
      have D := St.ext (by assumption) k
      repeat walk_at "x1"
      have D := ‹St mg mb h _ _›
      refine ih here.dropLast _ _ _ _ cs₁ r _ _ (D.see (E' := [("here", node m f here.dropLast _), ("top", node m f top _), ("passed", .ref r)]) (by walk_at "upd") (by walk_at "sees")) (by rw [List.length_dropLast]; omega) (by rw [List.length_append, List.length_singleton]; omega) S.snoc hc1 fun h' t' r vs k1 k2 k3 k4 => hQ h' t' r vs k1 k2 k3 ?_
      rw [List.append_assoc] at k4
      exact k4
end
end Mine

end
section
open PySem PySem.Calls PySem.W PyProof.Rows
set_option maxRecDepth 100000
set_option maxHeartbeats 1000000
namespace Mine
theorem slot_b_split : Slot "bytes" "split" "bytes.split" :=
  .of (owner := "bytes") (n := "split") (by rw [typeLookup_type, builtinLookup_eq_fast]; kernel_rfl) (by decide +kernel) (by decide +kernel) (by decide +kernel)
    (by first | exact .inl (by decide +kernel) | exact .inr (by decide +kernel)) (by rw [isSubtype_type]; kernel_rfl)
theorem type_b_split : typeOf (.builtin "bytes.split") = pure (.type "method_descriptor") := by show builtinType _ = _; rw [builtinType_eq_fast]; kernel_rfl
theorem entry_b_split : entryFor table "bytes.split" = some Builtin.«bytes.split» := entryFor_of_tree (by kernel_rfl)
theorem args_b_split (a b : Value) : argsOk "bytes.split" ⟨[a, b], []⟩ := by
  unfold argsOk; rw [signature?_of (id := "bytes.split") (n := ['t', 'i', 'l', 'p', 's']) (o := ['s', 'e', 't', 'y', 'b']) (by kernel_rfl) FB.owner_bytes]; kernel_rfl
theorem slot_b_join : Slot "bytes" "join" "bytes.join" :=
  .of (owner := "bytes") (n := "join") (by rw [typeLookup_type, builtinLookup_eq_fast]; kernel_rfl) (by decide +kernel) (by decide +kernel) (by decide +kernel)
    (by first | exact .inl (by decide +kernel) | exact .inr (by decide +kernel)) (by rw [isSubtype_type]; kernel_rfl)
theorem type_b_join : typeOf (.builtin "bytes.join") = pure (.type "method_descriptor") := by show builtinType _ = _; rw [builtinType_eq_fast]; kernel_rfl
theorem entry_b_join : entryFor table "bytes.join" = some Builtin.«bytes.join» := entryFor_of_tree (by kernel_rfl)
theorem args_b_join (a b : Value) : argsOk "bytes.join" ⟨[a, b], []⟩ := by
  unfold argsOk; rw [signature?_of (id := "bytes.join") (n := ['n', 'i', 'o', 'j']) (o := ['s', 'e', 't', 'y', 'b']) (by kernel_rfl) FB.owner_bytes]; kernel_rfl
theorem slot_b_lt : Slot "bytes" (cmpInfo .Lt).2.1 "bytes.__lt__" :=
  .of (owner := "bytes") (n := "__lt__") (by rw [typeLookup_type, builtinLookup_eq_fast]; kernel_rfl) (by decide +kernel) (by decide +kernel) (by decide +kernel)
    (by first | exact .inl (by decide +kernel) | exact .inr (by decide +kernel)) (by rw [isSubtype_type]; kernel_rfl)
theorem entry_b_lt : entryFor table "bytes.__lt__" = some Builtin.«bytes.__lt__» := entryFor_of_tree (by kernel_rfl)
theorem args_b_lt (a b : Value) : argsOk "bytes.__lt__" ⟨[a, b], []⟩ := by
  unfold argsOk; rw [signature?_of (id := "bytes.__lt__") (n := ['_', '_', 't', 'l', '_', '_']) (o := ['s', 'e', 't', 'y', 'b']) (by kernel_rfl) FB.owner_bytes]; kernel_rfl
theorem slot_b_gt : Slot "bytes" (cmpInfo .Gt).2.1 "bytes.__gt__" :=
  .of (owner := "bytes") (n := "__gt__") (by rw [typeLookup_type, builtinLookup_eq_fast]; kernel_rfl) (by decide +kernel) (by decide +kernel) (by decide +kernel)
    (by first | exact .inl (by decide +kernel) | exact .inr (by decide +kernel)) (by rw [isSubtype_type]; kernel_rfl)
theorem entry_b_gt : entryFor table "bytes.__gt__" = some Builtin.«bytes.__gt__» := entryFor_of_tree (by kernel_rfl)
theorem args_b_gt (a b : Value) : argsOk "bytes.__gt__" ⟨[a, b], []⟩ := by
  unfold argsOk; rw [signature?_of (id := "bytes.__gt__") (n := ['_', '_', 't', 'g', '_', '_']) (o := ['s', 'e', 't', 'y', 'b']) (by kernel_rfl) FB.owner_bytes]; kernel_rfl
end Mine

end
section
open PySem PySem.Calls PySem.W PyProof.Rows
set_option maxRecDepth 100000
set_option maxHeartbeats 1000000
namespace Mine
/-! pieces of a path -/
def pieceN : Option Bool → List Nat
  | none => []
  | some c => [codeN c]
def pieceS (p : Option Bool) : Str := ⟨(pieceN p).toArray⟩
def pieceB (p : Option Bool) : Array UInt8 := bytesN (pieceN p)
def pc (m : Bool) (p : Option Bool) (t : Nat) : Value := match m with | true => .bytes (pieceB p) t | false => .str (pieceS p) t
def sepV (m : Bool) (t : Nat) : Value := match m with | true => .bytes #[47] t | false => .str ⟨#[47]⟩ t
def curV (m : Bool) (t : Nat) : Value := match m with | true => .bytes #[46] t | false => .str ⟨#[46]⟩ t
inductive Pcs (m : Bool) : List Value → List (Option Bool) → Prop
  | nil : Pcs m [] []
  | cons {t p vs ps} : Pcs m vs ps → Pcs m (pc m p t :: vs) (p :: ps)
theorem Pcs.snoc {m vs rs r t} (s : Pcs m vs rs) : Pcs m (vs ++ [pc m r t]) (rs ++ [r]) := by
  induction s with
  | nil => exact .cons .nil
  | cons _ ih => exact .cons ih
theorem Pcs.len {m vs cs} (s : Pcs m vs cs) : vs.length = cs.length := by
  induction s with
  | nil => rfl
  | cons _ ih => simp [ih]
theorem Pcs.get {m vs cs} (s : Pcs m vs cs) : ∀ (k : Nat) (c : Option Bool), cs[k]? = some c → ∃ t, vs[k]? = some (pc m c t) := by
  induction s with
  | nil => intro k c e; simp at e
  | @cons t c' vs cs _ ih =>
    intro k c e
    cases k with
    | zero => simp only [List.getElem?_cons_zero, Option.some.injEq] at e; subst e; exact ⟨t, rfl⟩
    | succ k => simp only [List.getElem?_cons_succ] at e; exact ih k c e
theorem Pcs.take {m vs cs} (s : Pcs m vs cs) : ∀ k, Pcs m (vs.take k) (cs.take k) := by
  induction s with
  | nil => intro k; simp; exact .nil
  | cons _ ih =>
    intro k
    cases k with
    | zero => exact .nil
    | succ k => exact .cons (ih k)
def piecesF (f : Bool) (r : List Bool) : List (Option Bool) := if r = [] then (if f then [none, none] else [none]) else (if f then [none] else []) ++ r.map some
def splitB (x : Array UInt8) : List (Array UInt8) := if (Builtin.Bytes.occurrences x #[47] 0 x.size).take (x.size + 1) = [] then [x] else Builtin.Bytes.between x 1 ((Builtin.Bytes.occurrences x #[47] 0 x.size).take (x.size + 1))
theorem splitS_path : ∀ f : Bool, ∀ r ∈ rows3, (Txt.split (pathS f r) ⟨#[47]⟩).map (·.cps.toList) = (piecesF f r).map pieceN := by decide +kernel
theorem splitB_path : ∀ f : Bool, ∀ r ∈ rows3, (splitB (pathB f r)).map (·.toList) = (piecesF f r).map fun p => (pieceB p).toList := by decide +kernel
theorem startsS_path : ∀ f : Bool, ∀ r ∈ rows3, Txt.startswith (pathS f r) ⟨#[47]⟩ = f := by decide +kernel
end Mine

end
section
open PySem PySem.Calls PySem.W PyProof.Rows
set_option maxRecDepth 100000
set_option maxHeartbeats 1000000
namespace Mine
theorem sub_b_tuple : isSubtype (.type "bytes") (.type "tuple") = pure false := by rw [isSubtype_type]; kernel_rfl
theorem sub_b_bytes : isSubtype (.type "bytes") (.type "bytes") = pure true := by rw [isSubtype_type]; kernel_rfl
inductive Byts : List Value → List (Array UInt8) → Prop
  | nil : Byts [] []
  | cons {b t vs bs} : Byts vs bs → Byts (.bytes b t :: vs) (b :: bs)
theorem Byts.len {vs bs} (s : Byts vs bs) : vs.length = bs.length := by
  induction s with
  | nil => rfl
  | cons _ ih => simp [ih]
theorem wp_mapNew {M : Model} {A : Around} {X : Value → Shared → Prop} {g : Array GenState} {d : Drawn} {o : OsState} {h : Heap} : ∀ (bs : List (Array UInt8)) {t : Nat} {Q : List Value → Shared → Prop}, (∀ b ∈ bs, b.size ≤ sizeLine) →
    (∀ vs t', Byts vs bs → Q vs ⟨h, g, d, t', o⟩) → wpAny M A (bs.mapM Builtin.Bytes.Kind.bytes.new) Q X ⟨h, g, d, t, o⟩
  | [], _, _, _, hQ => by rw [List.mapM_nil]; exact wpAny_pure (hQ _ _ .nil)
  | b :: bs, _, _, hz, hQ => by
    rw [List.mapM_cons]
    refine wpAny_bind (wpAny_mkBytes ?_ (hz b (.head _)))
    exact wpAny_bind (wp_mapNew bs (fun b hb => hz b (.tail _ hb)) fun vs t' hv => wpAny_pure (hQ _ _ (.cons hv)))
theorem splitB_size : ∀ f : Bool, ∀ r ∈ rows3, ∀ b ∈ splitB (pathB f r), b.size ≤ 10 := by decide +kernel
theorem startsB_path : ∀ f : Bool, ∀ r ∈ rows3, (if ((pathB f r).size : Int) - 0 < 1 then false else (pathB f r).extract 0 (0 + 1) == #[47]) = f := by decide +kernel
section
variable {prog : Program} {w : World} {A : Around} {X : Value → Shared → Prop} {g : Array GenState} {d : Drawn} {t : Nat} {o : OsState} {h h₀ : Heap} {mg mb : Str → Option Value} {N : List (Addr × Fact)} {x y : Array UInt8} {tx ty : Nat}
theorem r_b_split {Q : Value → Shared → Prop} (D : St mg mb h₀ N h) (hz : ∀ b ∈ splitB x, b.size ≤ 1000) (hl : (splitB x).length ≤ 1000) (hQ : ∀ a vs h' t', Byts vs (splitB x) → St mg mb h₀ ((a, .lst vs) :: N) h' → Q (.ref a) ⟨h', g, d, t', o⟩) :
    wpAny (model prog w) A (call (.builtin "bytes.split") [.bytes x tx, .bytes #[47] ty]) Q X ⟨h, g, d, t, o⟩ := by
  refine wpAny_call_entry slot_b_split (typeIs_bytes _ _ _) entry_b_split ?_ (args_b_split _ _)
  repeat (first | ((with_reducible show wpAny _ _ (Builtin.Bytes.buffer? _ _) _ _ _); refine wpAny_of_eq KBy.buffer_eq ?_) | wp_step)
  have e1 : (if (-1 : Int) < 0 then x.size + 1 else (-1 : Int).toNat) = x.size + 1 := by rw [if_pos (by decide)]
  simp only [e1, Bool.false_eq_true, if_false]
  unfold splitB at hz hl hQ
  have e2 : (#[47] : Array UInt8).size = 1 := rfl
  rw [e2]
  generalize hp : List.take (x.size + 1) (Builtin.Bytes.occurrences x #[47] 0 x.size) = places at *
  cases places with
  | nil =>
    simp only [if_true] at hQ
    simp only [List.isEmpty_nil, if_true]
    refine wpAny_bind (wpAny_rule ?_)
    refine wpAny_bind (wpAny_of_eq (a := Value.bytes x tx) rfl ?_)
    refine wpAny_bind (r_newList D (fun a h' D' => wpAny_pure ⟨_, rfl, hQ _ _ _ _ (.cons .nil) D'⟩) (by rw [sizeLine_eq]; show 1 ≤ 16777216; decide))
  | cons q qs =>
    have hne : ¬ (q :: qs = []) := by simp
    simp only [if_neg hne] at hz hl hQ
    simp only [List.isEmpty_cons, Bool.false_eq_true, if_false]
    refine wpAny_bind (wp_mapNew _ (fun b hb => by rw [sizeLine_eq]; have := hz b hb; omega) fun vs t' hv => ?_)
    have hlen := hv.len
    exact wpAny_bind (r_newList D (fun a h' D' => wpAny_pure ⟨_, rfl, hQ _ _ _ _ hv D'⟩) (by rw [sizeLine_eq]; omega))
theorem r_b_startswith {Q : Value → Shared → Prop} (hQ : Q (.bool (if (x.size : Int) - 0 < 1 then false else x.extract 0 (0 + 1) == #[47])) ⟨h, g, d, t, o⟩) :
    wpAny (model prog w) A (call (.builtin "bytes.startswith") [.bytes x tx, .bytes #[47] ty]) Q X ⟨h, g, d, t, o⟩ := by
  refine wpAny_call_entry FB.slot_bytes_startswith (typeIs_bytes _ _ _) FB.entry_bytes_startswith ?_ (FB.args_bytes_startswith_2 _ _)
  have f1 := sub_b_tuple
  repeat (first | assumption | ((with_reducible show wpAny _ _ (Builtin.Bytes.buffer? _ _) _ _ _); refine wpAny_of_eq KBy.buffer_eq ?_) | wp_step)
  refine ⟨_, rfl, ?_⟩
  rw [win]
  exact hQ
theorem gives_b_lt : Gives (Builtin.«bytes.__lt__» ⟨[.bytes x tx, .bytes y ty], []⟩) (.val (.bool (Builtin.Bytes.order x.toList y.toList == .lt))) := by
  refine .of_wp fun M A E s Q hq => ?_
  have f1 := sub_b_bytes
  obtain ⟨h, g, d, t, o⟩ := s
  repeat (first | assumption | wp_step)
  exact ⟨_, rfl, hq⟩
theorem gives_b_gt : Gives (Builtin.«bytes.__gt__» ⟨[.bytes x tx, .bytes y ty], []⟩) (.val (.bool (Builtin.Bytes.order x.toList y.toList == .gt))) := by
  refine .of_wp fun M A E s Q hq => ?_
  have f1 := sub_b_bytes
  obtain ⟨h, g, d, t, o⟩ := s
  repeat (first | assumption | wp_step)
  exact ⟨_, rfl, hq⟩
theorem r_b_lt {Q : Value → Shared → Prop} (hQ : Q (.bool (Builtin.Bytes.order x.toList y.toList == .lt)) ⟨h, g, d, t, o⟩) : wpAny (model prog w) A (compareOp .Lt (.bytes x tx) (.bytes y ty)) Q X ⟨h, g, d, t, o⟩ :=
  compareOp_gives (op := .Lt) (typeIs_bytes _ _ _) (typeIs_bytes _ _ _) slot_b_lt entry_b_lt (args_b_lt _ _) gives_b_lt (fun e => nomatch e) hQ
theorem r_b_gt {Q : Value → Shared → Prop} (hQ : Q (.bool (Builtin.Bytes.order x.toList y.toList == .gt)) ⟨h, g, d, t, o⟩) : wpAny (model prog w) A (compareOp .Gt (.bytes x tx) (.bytes y ty)) Q X ⟨h, g, d, t, o⟩ :=
  compareOp_gives (op := .Gt) (typeIs_bytes _ _ _) (typeIs_bytes _ _ _) slot_b_gt entry_b_gt (args_b_gt _ _) gives_b_gt (fun e => nomatch e) hQ
end
end Mine

end
section
open PySem PySem.Calls PySem.W PyProof.Rows
set_option maxRecDepth 100000
set_option maxHeartbeats 1000000
namespace Mine
section
variable {prog : Program} {w : World} {A : Around} {X : Value → Shared → Prop} {g : Array GenState} {d : Drawn} {t : Nat} {o : OsState} {h h₀ : Heap} {mg mb : Str → Option Value} {N : List (Addr × Fact)} {x y : Array UInt8} {tx ty : Nat}
theorem wp_tbq {M : Model} {id : String} {b : Array UInt8} {u : Nat} {Q : Option (Array UInt8 × Option Value) → Shared → Prop} (hQ : Q (some (b, none)) ⟨h, g, d, t, o⟩) : wpAny M A (Builtin.Bytes.takeBufferQuiet? id (.bytes b u) 0) Q X ⟨h, g, d, t, o⟩ := by
  have f1 := KBy.look_buffer
  have f2 := KBy.look_release
  repeat (first | ((with_reducible show wpAny _ _ (Builtin.Bytes.buffer? _ _) _ _ _); refine wpAny_of_eq KBy.buffer_eq ?_) | ((with_reducible show wpAny _ _ (Builtin.Bytes.slotIsOwn _ _) _ _ _); refine wpAny_of_eq KBy.own_buffer ?_) | assumption | wp_step)
theorem wp_jlg {M : Model} {keep : List Value} {Q : Unit → Shared → Prop} : ∀ (taken : List (Value × Option Value)), (∀ p ∈ taken, p.2 = none) → Q () ⟨h, g, d, t, o⟩ → wpAny M A (Builtin.Bytes.joinLetGo taken keep) Q X ⟨h, g, d, t, o⟩
  | [], _, hQ => by unfold Builtin.Bytes.joinLetGo; exact wpAny_pure hQ
  | (x, w) :: r, hz, hQ => by
    have e := hz (x, w) (.head _)
    change w = none at e
    subst e
    unfold Builtin.Bytes.joinLetGo
    dsimp only
    exact wpAny_bind (wpAny_letGo (wp_jlg r (fun p hp => hz p (.tail _ hp)) hQ))
theorem Byts.get {vs bs} (s : Byts vs bs) : ∀ (k : Nat) (b : Array UInt8), bs[k]? = some b → ∃ t, vs[k]? = some (.bytes b t) := by
  induction s with
  | nil => intro k c e; simp at e
  | @cons b' t vs cs _ ih =>
    intro k c e
    cases k with
    | zero => simp only [List.getElem?_cons_zero, Option.some.injEq] at e; subst e; exact ⟨t, rfl⟩
    | succ k => simp only [List.getElem?_cons_succ] at e; exact ih k c e
theorem r_b_join {a : Addr} {vs : List Value} {bs : List (Array UInt8)} {Q : Value → Shared → Prop} (hl : (Fact.lst vs).at h a) (hv : Byts vs bs) (hne : bs.length ≠ 1) (hsz : (bs.toArray.foldl (fun x1 x2 => x1 + x2.size) (1 * (bs.toArray.size - 1))) ≤ 1000) (hj : (Builtin.Bytes.joined #[47] bs).size ≤ 1000)
    (hQ : ∀ t t', Q (.bytes (Builtin.Bytes.joined #[47] bs) t) ⟨h, g, d, t', o⟩) : wpAny (model prog w) A (call (.builtin "bytes.join") [.bytes #[47] tx, .ref a]) Q X ⟨h, g, d, t, o⟩ := by
  refine wpAny_call_entry slot_b_join (typeIs_bytes _ _ _) entry_b_join ?_ (args_b_join _ _)
  obtain ⟨⟨c, di, dt, sl⟩, ho, hc, hdi, hsl, n, hd⟩ := hl
  dsimp only at hc hdi hsl hd
  subst hc hdi hsl hd
  repeat ((fail_if_success (with_reducible show wpAny _ _ (forIn _ _ _) _ _ _)); wp_step)
  have hlen := hv.len
  rcases hvs : vs with _ | ⟨v0, _ | ⟨v1, vr⟩⟩
  rotate_left
  · exact absurd (by rw [← hlen, hvs]; rfl) hne
  · wp_step
    rw [← hvs]
    repeat ((fail_if_success (with_reducible show wpAny _ _ (forIn _ _ _) _ _ _)); wp_step)
    rw [Std.Legacy.Range.forIn_eq_forIn_range']
    have e : ∀ n : Nat, List.range' [:n].start [:n].size [:n].step = List.range' 0 n 1 := fun n => by simp [Std.Legacy.Range.size]
    rw [e, List.size_toArray, hlen]
    refine wpAny_forIn_list _ (fun l b s' => ∃ k tk, k ≤ bs.length ∧ l = List.range' k (bs.length - k) 1 ∧ b.1 = (bs.take k).toArray ∧ (∀ p ∈ b.2, p.2 = none ∧ p.1.onHeap = false) ∧ s' = ⟨h, g, d, tk, o⟩) _ ?_ ?_ _ _ ⟨0, t, Nat.zero_le _, rfl, rfl, (fun p hp => nomatch hp), rfl⟩
    · rintro i rest ⟨parts, taken⟩ s' ⟨k, tk, hk, hlr, hparts, htk, rfl⟩
      dsimp only at hparts htk
      have hlt : k < bs.length := by
        rcases Nat.lt_or_ge k bs.length with q | q
        · exact q
        · rw [Nat.sub_eq_zero_of_le q] at hlr; simp at hlr
      have e2 : bs.length - k = (bs.length - (k + 1)) + 1 := by omega
      rw [e2, List.range'_succ] at hlr
      obtain ⟨rfl, hrest⟩ := List.cons.inj hlr
      obtain ⟨u, hu⟩ := hv.get i _ (List.getElem?_eq_getElem hlt)
      have hgd : vs.toArray.getD i Value.none = .bytes bs[i] u := by
        rw [Array.getD_eq_getD_getElem?, List.getElem?_toArray, hu]; rfl
      have hany : (taken.any fun x => x.1.onHeap) = false := by
        rw [List.any_eq_false]; intro p hp; rw [(htk p hp).2]; exact Bool.false_ne_true
      dsimp only
      refine wpAny_bind (wpAny_seqItems ho rfl ?_)
      dsimp only
      rw [hgd, hany, if_neg (by decide)]
      refine wpAny_bind (wpAny_holding (wp_tbq ?_))
      dsimp only
      refine wpAny_bind (wpAny_seqItems ho rfl ?_)
      dsimp only
      rw [if_neg (by rw [List.size_toArray, hlen]; simp)]
      refine wpAny_pure ⟨i + 1, tk, hlt, hrest, ?_, ?_, rfl⟩
      · dsimp only
        rw [hparts, List.push_toArray, ← List.take_append_getElem hlt]
      · intro p hp
        rcases List.mem_append.mp hp with hp | hp
        · exact htk p hp
        · rw [List.mem_singleton.mp hp]; exact ⟨rfl, rfl⟩
    · rintro ⟨parts, taken⟩ s' ⟨k, tk, hk, hlr, hparts, htk, rfl⟩
      dsimp only at hparts htk
      have hkk : k = bs.length := by
        rcases Nat.lt_or_ge k bs.length with q | q
        · have e2 : bs.length - k = (bs.length - (k + 1)) + 1 := by omega
          rw [e2, List.range'_succ] at hlr; cases hlr
        · omega
      rw [hkk, List.take_length] at hparts
      subst hparts
      refine wpAny_bind (wpAny_of_eq (a := (#[47] : Array UInt8)) rfl ?_)
      dsimp only
      rw [if_neg (by
        unfold Builtin.Bytes.tooLong
        rw [decide_eq_true_iff, sizeLine_eq]
        have e1 : (#[47] : Array UInt8).size = 1 := rfl
        rw [e1]; omega)]
      refine wpAny_bind (wpAny_mkBytes ?_ (by show (Builtin.Bytes.joined #[47] bs).size ≤ _; rw [sizeLine_eq]; omega))
      refine wpAny_bind (wpAny_holding (wpAny_point ?_))
      refine wpAny_bind (wp_jlg _ (fun p hp => (htk p hp).1) ?_)
      exact wpAny_pure ⟨_, rfl, hQ _ _⟩
  · have hb : bs = [] := List.length_eq_zero_iff.mp (by rw [← hlen, hvs]; rfl)
    subst hb
    wp_step
    repeat ((fail_if_success (with_reducible show wpAny _ _ (forIn _ _ _) _ _ _)); wp_step)
    rw [Std.Legacy.Range.forIn_eq_forIn_range']
    have e : List.range' [:([] : List Value).toArray.size].start [:([] : List Value).toArray.size].size [:([] : List Value).toArray.size].step = [] := by simp [Std.Legacy.Range.size]
    rw [e, List.forIn_nil]
    refine wpAny_pure ?_
    refine wpAny_bind (wpAny_of_eq (a := (#[47] : Array UInt8)) rfl ?_)
    dsimp only
    rw [if_neg (by decide)]
    refine wpAny_bind (wpAny_mkBytes ?_ (by rw [sizeLine_eq]; show (Builtin.Bytes.joined #[47] []).size ≤ _; omega))
    refine wpAny_bind (wpAny_holding (wpAny_point ?_))
    refine wpAny_bind (wp_jlg _ (fun p hp => nomatch hp) ?_)
    exact wpAny_pure ⟨_, rfl, hQ _ _⟩
end
end Mine

end
section
open PySem PySem.Calls PySem.W PyProof.Rows
set_option maxRecDepth 100000
set_option maxHeartbeats 1000000
namespace Mine
inductive Strs : List Value → List Str → Prop
  | nil : Strs [] []
  | cons {x t vs xs} : Strs vs xs → Strs (.str x t :: vs) (x :: xs)
theorem pcN_eq (p q : Option Bool) : ((pieceS p).cps.toList == (pieceS q).cps.toList) = decide (p = q) := by rcases p with _ | (_ | _) <;> rcases q with _ | (_ | _) <;> decide
theorem pcB_eq (p q : Option Bool) : ((pieceB p).toList == (pieceB q).toList) = decide (p = q) := by rcases p with _ | (_ | _) <;> rcases q with _ | (_ | _) <;> decide
theorem pcN_ne (p q : Option Bool) : ((pieceS p).cps.toList != (pieceS q).cps.toList) = decide (p ≠ q) := by rcases p with _ | (_ | _) <;> rcases q with _ | (_ | _) <;> decide
theorem pcB_ne (p q : Option Bool) : ((pieceB p).toList != (pieceB q).toList) = decide (p ≠ q) := by rcases p with _ | (_ | _) <;> rcases q with _ | (_ | _) <;> decide
theorem pcN_lt : ∀ a b : Bool, (decide ((pieceS (some a)).cps.toList < (pieceS (some b)).cps.toList)) = (!a && b) := by decide
theorem pcN_gt : ∀ a b : Bool, (decide ((pieceS (some b)).cps.toList < (pieceS (some a)).cps.toList)) = (a && !b) := by decide
theorem pcB_lt : ∀ a b : Bool, (Builtin.Bytes.order (pieceB (some a)).toList (pieceB (some b)).toList == .lt) = (!a && b) := by decide
theorem pcB_gt : ∀ a b : Bool, (Builtin.Bytes.order (pieceB (some a)).toList (pieceB (some b)).toList == .gt) = (a && !b) := by decide
theorem strs_from : ∀ (tk : Nat) (xs : List Str), Strs (strsFrom tk xs) xs
  | _, [] => .nil
  | tk, _ :: r => .cons (strs_from (tk + 1) r)
theorem str_of_list {x : Str} {l : List Nat} (e : x.cps.toList = l) : x = ⟨l.toArray⟩ := by
  obtain ⟨a⟩ := x
  have := congrArg List.toArray e
  change a.toList.toArray = _ at this
  rw [Array.toArray_toList] at this
  rw [this]
theorem Strs.pcs {vs xs} (s : Strs vs xs) : ∀ {ps : List (Option Bool)}, xs.map (·.cps.toList) = ps.map pieceN → Pcs false vs ps := by
  induction s with
  | nil => intro ps e; cases ps with
    | nil => exact .nil
    | cons _ _ => simp at e
  | @cons x t vs xs _ ih =>
    intro ps e
    cases ps with
    | nil => simp at e
    | cons p ps =>
      simp only [List.map_cons, List.cons.injEq] at e
      rw [str_of_list e.1]
      exact Pcs.cons (m := false) (ih e.2)
theorem Byts.pcs {vs bs} (s : Byts vs bs) : ∀ {ps : List (Option Bool)}, bs.map (·.toList) = ps.map (fun p => (pieceB p).toList) → Pcs true vs ps := by
  induction s with
  | nil => intro ps e; cases ps with
    | nil => exact .nil
    | cons _ _ => simp at e
  | @cons b t vs xs _ ih =>
    intro ps e
    cases ps with
    | nil => simp at e
    | cons p ps =>
      simp only [List.map_cons, List.cons.injEq] at e
      rw [bytes_eq_iff.mp e.1]
      exact Pcs.cons (m := true) (ih e.2)
section
variable {prog : Program} {w : World} {A : Around} {X : Value → Shared → Prop} {g : Array GenState} {d : Drawn} {t : Nat} {o : OsState} {h h₀ : Heap} {mg mb : Str → Option Value} {N N' : List (Addr × Fact)} {tx ty : Nat} {m f : Bool} {r : List Bool}
theorem rs_split {x y : Str} {Q : Value → Shared → Prop} (D : St mg mb h₀ N h) (hy : (y.length == 0) = false) (hz : x.length ≤ 1000) (hl : (Txt.split x y).length ≤ 1000) (hQ : ∀ a vs h' t', Strs vs (Txt.split x y) → St mg mb h₀ ((a, .lst vs) :: N) h' → Q (.ref a) ⟨h', g, d, t', o⟩) :
    wpAny (model prog w) A (call (.builtin "str.split") [.str x tx, .str y ty]) Q X ⟨h, g, d, t, o⟩ := by
  have one : ∀ n, (Txt.split x y) = [x] → Q (.ref h.objs.size) ⟨h.push { cls := .type "list", data := .seq [Value.str x tx].toArray n }, g, d, t, o⟩ := fun n e => by
    rw [e] at hQ
    exact hQ _ _ _ _ (.cons .nil) (D.push ⟨rfl, rfl, rfl, _, rfl⟩ rfl)
  cases h1 : (decide (x.length < y.length) || decide (Builtin.Str.strKind x < Builtin.Str.strKind y))
  · cases hf : (Builtin.Str.occurrences x y 0 x.length (x.length + 1)).isEmpty
    · have e : Txt.split x y = Builtin.Str.partsBetween x (Builtin.Str.occurrences x y 0 x.length (x.length + 1)) y.length := by
        unfold Txt.split; rw [h1, hf, if_neg Bool.false_ne_true, if_neg Bool.false_ne_true]
      rw [e] at hQ hl
      refine call_meets F.slot_str_split (typeIs_str _ _ _) F.entry_str_split (F.args_str_split_2 _ _) (meets_str_split_sep x y tx ty h1 hy hf (by rw [sizeLine_eq]; omega) (by rw [sizeLine_eq]; omega)) ?_
      exact hQ _ _ _ _ (strs_from _ _) (D.push ⟨rfl, rfl, rfl, 0, rfl⟩ rfl)
    · exact call_meets F.slot_str_split (typeIs_str _ _ _) F.entry_str_split (F.args_str_split_2 _ _) (meets_str_split_not_found x y tx ty h1 hy hf)
        (one _ (by unfold Txt.split; rw [h1, hf, if_neg Bool.false_ne_true, if_pos rfl]))
  · exact call_meets F.slot_str_split (typeIs_str _ _ _) F.entry_str_split (F.args_str_split_2 _ _) (meets_str_split_cannot_occur x y tx ty h1)
      (one _ (by unfold Txt.split; rw [h1, if_pos rfl]))
theorem pieces_len : ∀ f : Bool, ∀ r ∈ rows3, (piecesF f r).length ≤ 4 := by decide +kernel
theorem gm_split {pl : Sem Bool} {s : Shared} {Q : Value × List Value → Shared → Prop} (hQ : Q (.builtin (bif m then "bytes.split" else "str.split"), [node m f r tx]) s) : wpAny (model prog w) A (getMethod (node m f r tx) "split" pl) Q X s := by
  cases m with
  | true =>
    have hQ : Q (.builtin "bytes.split", [.bytes (pathB f r) tx]) s := hQ
    show wpAny _ _ (getMethod (.bytes (pathB f r) tx) _ _) _ _ _
    exact getMethod_builtin (T := "bytes") (name := "split") (id := "bytes.split") (typeIs_bytes _ _ _) FB.plainAttrs_bytes slot_b_split type_b_split (fun _ e => nomatch e) hQ
  | false =>
    have hQ : Q (.builtin "str.split", [.str (pathS f r) tx]) s := hQ
    show wpAny _ _ (getMethod (.str (pathS f r) tx) _ _) _ _ _
    with_reducible exact GM.split hQ
theorem r_split {Q : Value → Shared → Prop} (D : St mg mb h₀ N h) (hr : r.length ≤ 3) (hQ : ∀ a vs h' t', Pcs m vs (piecesF f r) → St mg mb h₀ ((a, .lst vs) :: N) h' → Q (.ref a) ⟨h', g, d, t', o⟩) :
    wpAny (model prog w) A (call (.builtin (bif m then "bytes.split" else "str.split")) [node m f r tx, sepV m ty]) Q X ⟨h, g, d, t, o⟩ := by
  have hl := pieces_len f r (mem_rows3 hr)
  cases m with
  | true =>
    have e := splitB_path f r (mem_rows3 hr)
    have e2 := congrArg List.length e
    rw [List.length_map, List.length_map] at e2
    refine r_b_split D (fun b hb => ?_) (by omega) fun a vs h' t' hv => hQ a vs h' t' (hv.pcs e)
    have := splitB_size f r (mem_rows3 hr) b hb; omega
  | false =>
    have e := splitS_path f r (mem_rows3 hr)
    have e2 := congrArg List.length e
    rw [List.length_map, List.length_map] at e2
    have z := pathS_len (f := f) hr
    show wpAny _ _ (call (.builtin "str.split") [.str (pathS f r) tx, .str ⟨#[47]⟩ ty]) _ _ _
    have z2 : (Txt.split (pathS f r) ⟨#[47]⟩).length ≤ 1000 := by rw [e2]; exact Nat.le_trans hl (by decide)
    refine rs_split D (by decide) (Nat.le_trans z (by decide)) z2 ?_
    intro a vs h' t' hv D'
    exact hQ a vs h' t' (hv.pcs e) D'
theorem gm_startswith {pl : Sem Bool} {s : Shared} {Q : Value × List Value → Shared → Prop} (hQ : Q (.builtin (bif m then "bytes.startswith" else "str.startswith"), [node m f r tx]) s) : wpAny (model prog w) A (getMethod (node m f r tx) "startswith" pl) Q X s := by
  cases m with
  | true =>
    have hQ : Q (.builtin "bytes.startswith", [.bytes (pathB f r) tx]) s := hQ
    show wpAny _ _ (getMethod (.bytes (pathB f r) tx) _ _) _ _ _
    exact getMethod_builtin (T := "bytes") (name := "startswith") (id := "bytes.startswith") (typeIs_bytes _ _ _) FB.plainAttrs_bytes FB.slot_bytes_startswith FB.type_bytes_startswith (fun _ e => nomatch e) hQ
  | false =>
    have hQ : Q (.builtin "str.startswith", [.str (pathS f r) tx]) s := hQ
    show wpAny _ _ (getMethod (.str (pathS f r) tx) _ _) _ _ _
    with_reducible exact GM.startswith hQ
theorem r_startswith {Q : Value → Shared → Prop} (hr : r.length ≤ 3) (hQ : Q (.bool f) ⟨h, g, d, t, o⟩) :
    wpAny (model prog w) A (call (.builtin (bif m then "bytes.startswith" else "str.startswith")) [node m f r tx, sepV m ty]) Q X ⟨h, g, d, t, o⟩ := by
  cases m with
  | true => refine r_b_startswith ?_; rw [startsB_path f r (mem_rows3 hr)]; exact hQ
  | false => refine SC.startswith ?_; rw [startsS_path f r (mem_rows3 hr)]; exact hQ
theorem r_isi_node {Q : Value → Shared → Prop} (hQ : ∀ t', Q (.bool m) ⟨h, g, d, t', o⟩) : wpAny (model prog w) A (call (.builtin "isinstance") [node m f r tx, .type "bytes"]) Q X ⟨h, g, d, t, o⟩ := by
  cases m with
  | true => exact call_isinstance_yes (typeIs_bytes _ _ _) F.isi_meta_bytes F.isi_self_bytes (hQ _)
  | false =>
    refine IsiPair.str_bytes ?_
    exact hQ _
/-! pieces -/
variable {p q : Option Bool}
theorem r_truthy_pc {Q : Bool → Shared → Prop} (hQ : ∀ t', Q (decide (p ≠ none)) ⟨h, g, d, t', o⟩) : wpAny (model prog w) A (truthy (pc m p tx)) Q X ⟨h, g, d, t, o⟩ := by
  cases m with
  | true =>
    refine r_b_truthy (by cases p with | none => decide | some c => cases c <;> decide) fun t' => ?_
    have e : decide ((pieceB p).size ≠ 0) = decide (p ≠ none) := by cases p with | none => decide | some c => cases c <;> decide
    rw [e]; exact hQ _
  | false =>
    refine r_truthy_str (by cases p with | none => decide | some c => cases c <;> decide) fun t' => ?_
    have e : decide ((pieceS p).length ≠ 0) = decide (p ≠ none) := by cases p with | none => decide | some c => cases c <;> decide
    rw [e]; exact hQ _
theorem r_ne_cur {Q : Value → Shared → Prop} (hQ : Q (.bool true) ⟨h, g, d, t, o⟩) : wpAny (model prog w) A (compareOp .NotEq (pc m p tx) (curV m ty)) Q X ⟨h, g, d, t, o⟩ := by
  cases m with
  | true =>
    refine ne_bytes ?_
    have e : ((pieceB p).toList != (#[46] : Array UInt8).toList) = true := by cases p with | none => decide | some c => cases c <;> decide
    rw [e]; exact hQ
  | false =>
    refine P.ne_str ?_
    have e : ((pieceS p).cps.toList != (⟨#[46]⟩ : Str).cps.toList) = true := by cases p with | none => decide | some c => cases c <;> decide
    rw [e]; exact hQ
theorem r_ne_pc {Q : Value → Shared → Prop} (hQ : Q (.bool (decide (p ≠ q))) ⟨h, g, d, t, o⟩) : wpAny (model prog w) A (compareOp .NotEq (pc m p tx) (pc m q ty)) Q X ⟨h, g, d, t, o⟩ := by
  cases m with
  | true =>
    refine ne_bytes ?_
    have e := pcB_ne p q
    rw [e]; exact hQ
  | false =>
    refine P.ne_str ?_
    have e := pcN_ne p q
    rw [e]; exact hQ
theorem eg_bytes (x y : Array UInt8) (t u : Tok) : MeetsSeq.EqGives (.bytes x t) (.bytes y u) (x.toList == y.toList) := by
  intro prog w A E s Q h
  unfold eqBool
  refine wpAny_holding ?_
  refine wpAny_ite_split (fun hab => ?_) (fun hab => ?_)
  · have e : x = y := by have := eq_of_beq hab; injection this
    subst e
    exact wpAny_bind (wpAny_rule (wpAny_pure (by simpa using h)))
  · exact wpAny_bind (richCompare_gives (typeIs_bytes s x t) (typeIs_bytes s y u) FB.slot_bytes_eq FB.entry_bytes_eq (FB.args_bytes_eq_2 _ _) (gives_bytes_eq x y t u) (by simp [Made.takes]) (wpAny_truthy_bool h))
theorem eg_pc : MeetsSeq.EqGives (pc m p tx) (pc m q ty) (decide (p = q)) := by
  cases m with
  | true => have := eg_bytes (pieceB p) (pieceB q) tx ty; rw [pcB_eq] at this; exact this
  | false => have := SeqRoads2.EqGives.str (pieceS p) (pieceS q) tx ty; rw [pcN_eq] at this; exact this
theorem eg_node {r' : List Bool} (hr : r.length ≤ 3) (hr' : r'.length ≤ 3) : MeetsSeq.EqGives (node m f r tx) (node m f r' ty) (decide (r = r')) := by
  cases m with
  | true =>
    have := eg_bytes (pathB f r) (pathB f r') tx ty
    have e : ((pathB f r).toList == (pathB f r').toList) = decide (r = r') := by rw [Bool.eq_iff_iff, beq_iff_eq, decide_eq_true_iff, bytes_eq_iff, pathB_eq hr hr']
    rw [e] at this; exact this
  | false =>
    have := SeqRoads2.EqGives.str (pathS f r) (pathS f r') tx ty
    have e : ((pathS f r).cps.toList == (pathS f r').cps.toList) = decide (r = r') := by rw [Bool.eq_iff_iff, beq_iff_eq, decide_eq_true_iff, str_eq_iff, pathS_inj hr hr']
    rw [e] at this; exact this
theorem r_lt_pc {Q : Value → Shared → Prop} {a b : Bool} (hQ : Q (.bool (!a && b)) ⟨h, g, d, t, o⟩) : wpAny (model prog w) A (compareOp .Lt (pc m (some a) tx) (pc m (some b) ty)) Q X ⟨h, g, d, t, o⟩ := by
  cases m with
  | true =>
    refine r_b_lt ?_
    have e := pcB_lt a b
    rw [e]; exact hQ
  | false =>
    refine P.lt_str ?_
    have e := pcN_lt a b
    rw [e]; exact hQ
theorem r_gt_pc {Q : Value → Shared → Prop} {a b : Bool} (hQ : Q (.bool (a && !b)) ⟨h, g, d, t, o⟩) : wpAny (model prog w) A (compareOp .Gt (pc m (some a) tx) (pc m (some b) ty)) Q X ⟨h, g, d, t, o⟩ := by
  cases m with
  | true =>
    refine r_b_gt ?_
    have e := pcB_gt a b
    rw [e]; exact hQ
  | false =>
    refine P.gt_str ?_
    have e := pcN_gt a b
    rw [e]; exact hQ
end
end Mine

end
section
open PySem PySem.Calls PySem.W PyProof.Rows
open AutoSeq1 (wpAny_loadPart')
open MeetsSeq MeetsSeq2 MeetsSeq3 SeqRoads2
set_option maxRecDepth 100000
set_option maxHeartbeats 1000000
namespace Mine
def ltF : List Bool → List Bool → Bool
  | [], [] => false
  | [], _ :: _ => true
  | _ :: _, [] => false
  | a :: r, b :: s => if a = b then ltF r s else (!a && b)
def gtF : List Bool → List Bool → Bool
  | [], [] => false
  | [], _ :: _ => false
  | _ :: _, [] => true
  | a :: r, b :: s => if a = b then gtF r s else (a && !b)
theorem ltF_nil (r : List Bool) : ltF [] r = decide (0 < r.length) := by cases r <;> rfl
theorem ltF_nil' (r : List Bool) : ltF r [] = false := by cases r <;> rfl
theorem gtF_nil (r : List Bool) : gtF [] r = false := by cases r <;> rfl
theorem gtF_nil' (r : List Bool) : gtF r [] = decide (0 < r.length) := by cases r <;> rfl
theorem lt_loop {m : Bool} {vs0 vs1 : List Value} {r0 r1 : List Bool} (p0 : Pcs m vs0 (r0.map some)) (p1 : Pcs m vs1 (r1.map some)) (l b : Addr) (n n2 : Nat) (k : Nat) :
    ∀ i : Nat, r0.length - i = k → i ≤ r0.length → i ≤ r1.length → Meets (Builtin.«list.__eq__.loop» ⟨[.ref l, .ref b, rawInt i, rawInt 0], []⟩)
      (fun _ R s => s.heap.get? l = some { cls := .type "list", dict := none, data := .seq vs0.toArray n, slots := #[] } ∧ s.heap.get? b = some { cls := .type "list", dict := none, data := .seq vs1.toArray n2, slots := #[] } ∧
        R (.ok (.ret (.bool (ltF (r0.drop i) (r1.drop i))))) s) := by
  have z0 : vs0.length = r0.length := p0.len.trans (List.length_map _)
  have z1 : vs1.length = r1.length := p1.len.trans (List.length_map _)
  induction k with
  | zero =>
    intro i hk h1 h2 prog w A R s h
    obtain ⟨hp, g, d, tk, os⟩ := s; obtain ⟨hl, hb, h⟩ := h
    have hi : i = r0.length := by omega
    subst hi
    wp_walk using wpAny_loadPart' hl, wpAny_loadPart' hb
    have hi1 : vs0.toArray[((r0.length : Nat) : Int).toNat]? = none := by rw [List.getElem?_toArray]; exact List.getElem?_eq_none (by rw [Int.toNat_natCast]; omega)
    rw [hi1]
    wp_walk using wpAny_loadPart' hl, wpAny_loadPart' hb
    rw [List.drop_length, ltF_nil] at h
    have e : (decide (vs0.toArray.size < vs1.toArray.size)) = decide (0 < (r1.drop r0.length).length) := by
      rw [List.size_toArray, List.size_toArray, z0, z1, List.length_drop, decide_eq_decide]; omega
    show R (.ok (.ret (.bool (decide (vs0.toArray.size < vs1.toArray.size))))) _
    rw [e]; exact h
  | succ k ih =>
    intro i hk h1 h2 prog w A R s h
    obtain ⟨hp, g, d, tk, os⟩ := s; obtain ⟨hl, hb, h⟩ := h
    wp_walk using wpAny_loadPart' hl, wpAny_loadPart' hb
    have hlt : i < r0.length := by omega
    obtain ⟨t0, g0⟩ := p0.get i (some r0[i]) (by rw [List.getElem?_map, List.getElem?_eq_getElem hlt]; rfl)
    have hi1 : vs0.toArray[((i : Nat) : Int).toNat]? = some (pc m (some r0[i]) t0) := by rw [List.getElem?_toArray, Int.toNat_natCast]; exact g0
    rw [hi1]
    rcases Nat.lt_or_ge i r1.length with hlt2 | hge
    · obtain ⟨t1, g1⟩ := p1.get i (some r1[i]) (by rw [List.getElem?_map, List.getElem?_eq_getElem hlt2]; rfl)
      have hi2 : vs1.toArray[((i : Nat) : Int).toNat]? = some (pc m (some r1[i]) t1) := by rw [List.getElem?_toArray, Int.toNat_natCast]; exact g1
      rw [hi2]
      have hc : ((i : Int) + 1) = ((i + 1 : Nat) : Int) := by push_cast; rfl
      rw [List.drop_eq_getElem_cons hlt, List.drop_eq_getElem_cons hlt2, ltF] at h
      refine wpAny_bind (eg_pc prog w _ _ _ _ ?_)
      by_cases he : r0[i] = r1[i]
      · rw [if_pos he] at h
        rw [decide_eq_true (congrArg some he)]
        wp_walk
        rw [hc]
        exact ⟨plainId_quiet plain_eq_loop _, codeAny_builtin entry_eq_loop (by
          rw [Around.under_plainId plain_eq_loop _]
          exact ih (i + 1) (by omega) hlt hlt2 prog w A R _ ⟨hl, hb, h⟩)⟩
      · rw [if_neg he] at h
        rw [decide_eq_false (fun z => he (Option.some.inj z))]
        wp_walk using wpAny_loadPart' hl, wpAny_loadPart' hb
        rw [hi1, hi2]
        refine wpAny_bind ?_
        show wpAny _ _ (compareOp .Lt (pc m (some r0[i]) t0) (pc m (some r1[i]) t1)) _ _ _
        refine r_lt_pc ?_
        exact wpAny_pure h
    · have hi2 : vs1.toArray[((i : Nat) : Int).toNat]? = none := by rw [List.getElem?_toArray]; exact List.getElem?_eq_none (by rw [Int.toNat_natCast]; omega)
      rw [hi2]
      wp_walk using wpAny_loadPart' hl, wpAny_loadPart' hb
      rw [List.drop_eq_nil_of_le hge, ltF_nil'] at h
      have e : (decide (vs0.toArray.size < vs1.toArray.size)) = false := by
        rw [List.size_toArray, List.size_toArray, z0, z1, decide_eq_false (by omega)]
      show R (.ok (.ret (.bool (decide (vs0.toArray.size < vs1.toArray.size))))) _
      rw [e]; exact h
theorem gt_loop {m : Bool} {vs0 vs1 : List Value} {r0 r1 : List Bool} (p0 : Pcs m vs0 (r0.map some)) (p1 : Pcs m vs1 (r1.map some)) (l b : Addr) (n n2 : Nat) (k : Nat) :
    ∀ i : Nat, r0.length - i = k → i ≤ r0.length → i ≤ r1.length → Meets (Builtin.«list.__eq__.loop» ⟨[.ref l, .ref b, rawInt i, rawInt 4], []⟩)
      (fun _ R s => s.heap.get? l = some { cls := .type "list", dict := none, data := .seq vs0.toArray n, slots := #[] } ∧ s.heap.get? b = some { cls := .type "list", dict := none, data := .seq vs1.toArray n2, slots := #[] } ∧
        R (.ok (.ret (.bool (gtF (r0.drop i) (r1.drop i))))) s) := by
  have z0 : vs0.length = r0.length := p0.len.trans (List.length_map _)
  have z1 : vs1.length = r1.length := p1.len.trans (List.length_map _)
  induction k with
  | zero =>
    intro i hk h1 h2 prog w A R s h
    obtain ⟨hp, g, d, tk, os⟩ := s; obtain ⟨hl, hb, h⟩ := h
    have hi : i = r0.length := by omega
    subst hi
    wp_walk using wpAny_loadPart' hl, wpAny_loadPart' hb
    have hi1 : vs0.toArray[((r0.length : Nat) : Int).toNat]? = none := by rw [List.getElem?_toArray]; exact List.getElem?_eq_none (by rw [Int.toNat_natCast]; omega)
    rw [hi1]
    wp_walk using wpAny_loadPart' hl, wpAny_loadPart' hb
    rw [List.drop_length, gtF_nil] at h
    have e : (decide (vs0.toArray.size > vs1.toArray.size)) = false := by
      rw [List.size_toArray, List.size_toArray, z0, z1, decide_eq_false (by omega)]
    show R (.ok (.ret (.bool (decide (vs0.toArray.size > vs1.toArray.size))))) _
    rw [e]; exact h
  | succ k ih =>
    intro i hk h1 h2 prog w A R s h
    obtain ⟨hp, g, d, tk, os⟩ := s; obtain ⟨hl, hb, h⟩ := h
    wp_walk using wpAny_loadPart' hl, wpAny_loadPart' hb
    have hlt : i < r0.length := by omega
    obtain ⟨t0, g0⟩ := p0.get i (some r0[i]) (by rw [List.getElem?_map, List.getElem?_eq_getElem hlt]; rfl)
    have hi1 : vs0.toArray[((i : Nat) : Int).toNat]? = some (pc m (some r0[i]) t0) := by rw [List.getElem?_toArray, Int.toNat_natCast]; exact g0
    rw [hi1]
    rcases Nat.lt_or_ge i r1.length with hlt2 | hge
    · obtain ⟨t1, g1⟩ := p1.get i (some r1[i]) (by rw [List.getElem?_map, List.getElem?_eq_getElem hlt2]; rfl)
      have hi2 : vs1.toArray[((i : Nat) : Int).toNat]? = some (pc m (some r1[i]) t1) := by rw [List.getElem?_toArray, Int.toNat_natCast]; exact g1
      rw [hi2]
      have hc : ((i : Int) + 1) = ((i + 1 : Nat) : Int) := by push_cast; rfl
      rw [List.drop_eq_getElem_cons hlt, List.drop_eq_getElem_cons hlt2, gtF] at h
      refine wpAny_bind (eg_pc prog w _ _ _ _ ?_)
      by_cases he : r0[i] = r1[i]
      · rw [if_pos he] at h
        rw [decide_eq_true (congrArg some he)]
        wp_walk
        rw [hc]
        exact ⟨plainId_quiet plain_eq_loop _, codeAny_builtin entry_eq_loop (by
          rw [Around.under_plainId plain_eq_loop _]
          exact ih (i + 1) (by omega) hlt hlt2 prog w A R _ ⟨hl, hb, h⟩)⟩
      · rw [if_neg he] at h
        rw [decide_eq_false (fun z => he (Option.some.inj z))]
        wp_walk using wpAny_loadPart' hl, wpAny_loadPart' hb
        rw [hi1, hi2]
        refine wpAny_bind ?_
        show wpAny _ _ (compareOp .Gt (pc m (some r0[i]) t0) (pc m (some r1[i]) t1)) _ _ _
        refine r_gt_pc ?_
        exact wpAny_pure h
    · have hi2 : vs1.toArray[((i : Nat) : Int).toNat]? = none := by rw [List.getElem?_toArray]; exact List.getElem?_eq_none (by rw [Int.toNat_natCast]; omega)
      rw [hi2]
      wp_walk using wpAny_loadPart' hl, wpAny_loadPart' hb
      rw [List.drop_eq_nil_of_le hge, gtF_nil'] at h
      have e : (decide (vs0.toArray.size > vs1.toArray.size)) = decide (0 < (r0.drop i).length) := by
        rw [List.size_toArray, List.size_toArray, z0, z1, List.length_drop, decide_eq_decide]; omega
      show R (.ok (.ret (.bool (decide (vs0.toArray.size > vs1.toArray.size))))) _
      rw [e]; exact h
end Mine

end
section
open PySem PySem.Calls PySem.W PyProof.Rows
open AutoSeq1 (wpAny_loadPart')
set_option maxRecDepth 100000
set_option maxHeartbeats 1000000
namespace Mine
theorem mro_map : mroOf (.type "map") = pure [.type "map", .type "object"] := by rw [mroOf_type]; kernel_rfl
theorem lookup_map_new : typeLookup (.type "map") "__new__" = pure (some (.builtin "map.__new__")) := by rw [typeLookup_type, builtinLookup_eq_fast]; kernel_rfl
theorem slot_map_init : Slot "map" "__init__" "object.__init__" :=
  .of (owner := "object") (n := "__init__") (by rw [typeLookup_type, builtinLookup_eq_fast]; kernel_rfl) (by decide +kernel) (by decide +kernel) (by decide +kernel)
    (by first | exact .inl (by decide +kernel) | exact .inr (by decide +kernel)) (by rw [isSubtype_type]; kernel_rfl)
theorem slot_map_iter : Slot "map" "__iter__" "map.__iter__" :=
  .of (owner := "map") (n := "__iter__") (by rw [typeLookup_type, builtinLookup_eq_fast]; kernel_rfl) (by decide +kernel) (by decide +kernel) (by decide +kernel)
    (by first | exact .inl (by decide +kernel) | exact .inr (by decide +kernel)) (by rw [isSubtype_type]; kernel_rfl)
theorem slot_map_next : Slot "map" "__next__" "map.__next__" :=
  .of (owner := "map") (n := "__next__") (by rw [typeLookup_type, builtinLookup_eq_fast]; kernel_rfl) (by decide +kernel) (by decide +kernel) (by decide +kernel)
    (by first | exact .inl (by decide +kernel) | exact .inr (by decide +kernel)) (by rw [isSubtype_type]; kernel_rfl)
theorem entry_map_next : entryFor table "map.__next__" = some Builtin.«map.__next__» := by first | exact entryFor_of_tree (by kernel_rfl) | exact entryFor_of_fast (by kernel_rfl)
theorem entry_map_iter : entryFor table "map.__iter__" = some Builtin.«dict_keyiterator.__iter__» :=
  entryFor_alias (id' := "dict_keyiterator.__iter__") (by kernel_rfl) (by first | rfl | decide +kernel | (unfold String.splitOn; simp +decide [String.splitOnAux])) (by decide +kernel) (by kernel_rfl)
theorem args_map_next (a : Value) : argsOk "map.__next__" ⟨[a], []⟩ := by unfold argsOk; kernel_rfl
theorem args_map_iter (a : Value) : argsOk "map.__iter__" ⟨[a], []⟩ := by unfold argsOk; kernel_rfl
theorem called_map : TypeCalled "map" "map.__new__" "object.__init__" :=
  ⟨by decide +kernel, by decide +kernel, ⟨_, _, mro_map⟩, madeBy_type mro_map lookup_map_new (by decide +kernel), by decide +kernel, by rw [isSubtype_type]; kernel_rfl, slot_map_init⟩
theorem typeCall_map (a b : Value) : checkTypeCall "map" ⟨[a, b], []⟩ = pure () := by kernel_rfl
theorem newCall_map (a b : Value) : checkBuiltinCall "map.__new__" ⟨[.type "map", a, b], []⟩ = pure () := by kernel_rfl
theorem entry_map_new : entryFor table "map.__new__" = some Builtin.«map.__new__» := by first | exact entryFor_of_tree (by kernel_rfl) | exact entryFor_of_fast (by kernel_rfl)
theorem args_init3 (a b c : Value) : argsOk "object.__init__" ⟨[a, b, c], []⟩ := by unfold argsOk; kernel_rfl
theorem map_no_len : typeLookup (.type "map") "__len__" = pure none := by rw [typeLookup_type, builtinLookup_eq_fast]; kernel_rfl
theorem map_no_hint : typeLookup (.type "map") "__length_hint__" = pure none := by rw [typeLookup_type, builtinLookup_eq_fast]; kernel_rfl
theorem meets_map_new (fa l : Addr) (items : Array Value) :
    Meets (Builtin.«map.__new__» ⟨[.type "map", .ref fa, .ref l], []⟩) (fun _ R s => s.heap.IsList l items ∧
      R (.ok (.ret (.ref ((s.heap.push { cls := .type "list_iterator", data := .fields #[.ref l, .int 0 0] }).push { cls := .type "tuple", data := .seq #[.ref s.heap.objs.size] }).objs.size)))
        { s with heap := ((s.heap.push { cls := .type "list_iterator", data := .fields #[.ref l, .int 0 0] }).push { cls := .type "tuple", data := .seq #[.ref s.heap.objs.size] }).push { cls := .type "map", data := .fields #[.ref (s.heap.push { cls := .type "list_iterator", data := .fields #[.ref l, .int 0 0] }).objs.size, .ref fa] } }) :=
  .of_wp fun prog w A R s h => by
    obtain ⟨hp, g, d, tk, os⟩ := s; obtain ⟨hL, h⟩ := h
    have hsub := called_map.sub
    wp_walk using wpAny_pyIter_list hL
    exact ⟨_, rfl, h⟩
end Mine

end
section
open PySem PySem.Calls PySem.W PyProof.Rows
open AutoSeq1 (wpAny_loadPart')
set_option maxRecDepth 100000
set_option maxHeartbeats 1000000
namespace Mine
abbrev mapObj (T fa : Addr) : Obj := { cls := .type "map", dict := none, data := .fields #[.ref T, .ref fa], slots := #[] }
section
variable {prog : Program} {w : World} {A : Around} {X : Value → Shared → Prop} {g : Array GenState} {d : Drawn} {t : Nat} {o : OsState} {mg mb : Str → Option Value} {h₀ h : Heap} {N N' : List (Addr × Fact)} {env : Env}
theorem r_map {fa l : Addr} {vs : List Value} {Q : Value → Shared → Prop} (D : St mg mb h₀ N h) (hl : (Fact.lst vs).at h l)
    (hQ : ∀ Mp T I h', St mg mb h₀ ((Mp, .obj (mapObj T fa)) :: (T, .tup [.ref I]) :: (I, .li l 0) :: N) h' → Q (.ref Mp) ⟨h', g, d, t, o⟩) :
    wpAny (model prog w) A (call (.type "map") [.ref fa, .ref l]) Q X ⟨h, g, d, t, o⟩ := by
  refine callType_new called_map (by decide) (typeCall_map _ _) (newCall_map _ _) (fun obj => args_init3 obj _ _) entry_map_new (meets_map_new fa l vs.toArray) ⟨hl.isList, ⟨_, Heap.get?_push_size _ rfl, rfl⟩, ?_⟩
  have D1 : St mg mb h₀ ((h.objs.size, .li l 0) :: N) (h.push { cls := .type "list_iterator", data := .fields #[.ref l, .int 0 0] }) := D.push ⟨rfl, rfl⟩ rfl
  have D2 := D1.push (f := .tup [.ref h.objs.size]) (o := { cls := .type "tuple", data := .seq #[.ref h.objs.size] }) ⟨rfl, rfl, rfl, 0, rfl⟩ rfl
  exact hQ _ _ _ _ (D2.push rfl rfl)
inductive IsTx : Value → Prop
  | str (x t) : IsTx (.str x t)
  | bytes (x t) : IsTx (.bytes x t)
theorem fspath_tx {a : Addr} {v : Value} {Q : Value → Shared → Prop} (hv : IsTx v) (W : Wd mg mb h) (F : Fn mg h "fspath" 9 a) (hR : A.depth < recursionLimit)
    (hQ : ∀ h' t', Ext h h' → Q v ⟨h', g, d, t', o⟩) : wpAny (model prog w) A (call (.ref a) [v]) Q X ⟨h, g, d, t, o⟩ := by
  cases hv with
  | str x tk => exact fspath_str W F hR hQ
  | bytes x tk => exact fspath_bytes W F hR hQ
theorem map_walks {fa l Mp T I : Addr} {vs : List Value} (hh : A.handled = none) (hR : A.depth < recursionLimit) (W : Wd mg mb h₀) (F : Fn mg h₀ "fspath" 9 fa) (hl : (Fact.lst vs).at h₀ l) (hv : ∀ v ∈ vs, IsTx v)
    (hn : ∀ b o, h₀.get? b = some o → b < n₀) (hM : Mp < n₀) (hT : T < n₀) (hI : I < n₀) :
    WalksS prog w A Mp (List.range n₀) [I] (fun a b => b = a) vs.length (fun i v => vs[i]? = some v) (fun i s => St mg mb h₀ [(Mp, .obj (mapObj T fa)), (T, .tup [.ref I]), (I, .li l i)] s.heap) where
  sub := fun b hb => by rw [List.mem_singleton.mp hb]; exact List.mem_range.mpr hI
  grefl := fun _ => rfl
  gtrans := fun _ _ _ h1 h2 => h2.trans h1
  frame := fun i s h' tk D _ k => by
    have k' : ∀ b o, b < n₀ → s.heap.get? b = some o → h'.get? b = some o := fun b o hb e => k b (List.mem_range.mpr hb) o e
    refine ⟨D.wd, fun b o e => k' b o (hn b o e) (D.keep b o e), fun p hp => (D.here p hp).keep fun o => k' _ o ?_, D.own, D.nd⟩
    simp only [List.mem_cons, List.not_mem_nil, or_false] at hp
    rcases hp with rfl | rfl | rfl <;> assumption
  item := fun i s Q E hi D hQ => by
    obtain ⟨h, g, d, tk, os⟩ := s
    refine wpAny_with_toks (Nat.le_refl tk) ?_
    obtain ⟨om, em, rfl⟩ := D.get (.head _)
    have hTy : (⟨h, g, d, tk, os⟩ : Shared).TypeIs (.ref Mp) "map" := ⟨_, em, rfl⟩
    obtain ⟨ot, et, ct, _, _, nt, dt⟩ := D.get (.tail _ (.head _))
    unfold pyNext
    refine wpAny_bind (wpAny_attempt (wpAny_callSpecial?_slot (name := Str.ofString "__next__") hTy slot_map_next (wpAny_call_entry slot_map_next hTy entry_map_next ?_ (args_map_next _))))
    show wpAny _ _ (field (.ref Mp) 0 >>= _) _ _ _
    refine wpAny_bind (wpAny_field em rfl (x := .ref T) rfl ?_)
    show wpAny _ _ (seqItems? (.ref T) >>= _) _ _ _
    refine wpAny_bind (wpAny_seqItems et dt ?_)
    have hlist := (D.oldf hl).isList
    have hli : h.IsListIter I l i := (D.get (.tail _ (.tail _ (.head _)))).isLi
    have hxv : vs.toArray[i]? = some vs[i] := by rw [List.getElem?_toArray]; exact List.getElem?_eq_getElem hi
    repeat (first | ((with_reducible show wpAny _ _ (Builtin.SmallTypes.nextOf _) _ _ _); (refine wpAny_nextOf_list_item (s := ⟨h, g, d, tk, os⟩) hli hlist hxv fun h₁ hit₁ hs₁ => ?_)) | wp_step)
    have D₁ := D.upd (f' := .li l (i + 1)) (.tail (.tail .head)) hs₁.extBut hit₁
    obtain ⟨om₁, em₁, hom⟩ := D₁.get (.head _)
    subst hom
    repeat ((fail_if_success (with_reducible show wpAny _ _ (call _ _ _) _ _ _)); wp_step)
    refine fspath_tx (hv _ (List.getElem_mem hi)) D₁.wdn (F.ext D₁.keep) hR fun h₂ t₂ k₂ => ?_
    repeat wp_step
    refine ⟨_, rfl, wpAny_pure fun htk => ?_⟩
    have D₂ := D₁.ext k₂
    refine hQ _ _ (List.getElem?_eq_getElem hi) D₂ ⟨fun b ob hb e => k₂ _ _ (hs₁.extBut b ob (fun z => hb (by rw [z]; exact List.mem_singleton.mpr rfl)) e), rfl, rfl, rfl, htk⟩
  done := fun s Q E D hQ => by
    obtain ⟨h, g, d, tk, os⟩ := s
    refine wpAny_with_toks (Nat.le_refl tk) ?_
    obtain ⟨om, em, rfl⟩ := D.get (.head _)
    have hTy : (⟨h, g, d, tk, os⟩ : Shared).TypeIs (.ref Mp) "map" := ⟨_, em, rfl⟩
    obtain ⟨ot, et, ct, _, _, nt, dt⟩ := D.get (.tail _ (.head _))
    have hlist := (D.oldf hl).isList
    have hli : h.IsListIter I l vs.length := (D.get (.tail _ (.tail _ (.head _)))).isLi
    have hxv : vs.toArray[vs.length]? = none := by rw [List.getElem?_toArray]; exact List.getElem?_eq_none (Nat.le_refl _)
    unfold pyNext
    refine wpAny_bind (wpAny_attempt (wpAny_callSpecial?_slot (name := Str.ofString "__next__") hTy slot_map_next (wpAny_call_entry slot_map_next hTy entry_map_next ?_ (args_map_next _))))
    show wpAny _ _ (field (.ref Mp) 0 >>= _) _ _ _
    refine wpAny_bind (wpAny_field em rfl (x := .ref T) rfl ?_)
    show wpAny _ _ (seqItems? (.ref T) >>= _) _ _ _
    refine wpAny_bind (wpAny_seqItems et dt ?_)
    repeat ((fail_if_success (with_reducible show wpAny _ _ (Builtin.SmallTypes.nextOf _) _ _ _)); wp_step)
    refine wpAny_nextOf_list_end (s := ⟨h, g, d, tk, os⟩) hh hli hlist hxv fun h' x he' hx' => ?_
    obtain ⟨o', ho', hc'⟩ := hx'
    refine wpAny_bind (wpAny_isInstance (T := "StopIteration") (b := true) ⟨o', ho', hc'⟩ isSubtype_stop ?_)
    exact wpAny_pure fun htk => hQ _ ⟨fun b ob hb e => he' b ob (fun z => hb (by rw [z]; exact List.mem_singleton.mpr rfl)) e, rfl, rfl, rfl, htk⟩
  self := fun i s Q E D hQ => by
    obtain ⟨om, em, rfl⟩ := D.get (.head _)
    have hTy : s.TypeIs (.ref Mp) "map" := ⟨_, em, rfl⟩
    refine wpAny_pyIter_slot hTy slot_map_iter (wpAny_call_entry slot_map_iter hTy entry_map_iter ?_ (args_map_iter _))
    show wpAny _ _ (ret (.ref Mp)) _ _ s
    exact wpAny_pure ⟨_, rfl, "map", _, hTy, slot_map_next.lookup, hQ⟩

theorem collect_map {I : Addr} {fp wr : List Addr} {G : Array GenState → Array GenState → Prop} {n : Nat} {P : Nat → Value → Prop} {S : Nat → Shared → Prop} {s : Shared} {Q : List Value → Shared → Prop} (W : WalksS prog w A.in1 I fp wr G n P S) (hT : ∀ i s, S i s → s.TypeIs (.ref I) "map") (hst : S 0 s) (hfp : ∀ b ∈ fp, b < s.heap.objs.size) (hI : I ∈ fp)
    (hQ : ∀ s' acc, Moved wr G s s' → ItemsOf P acc n → Q acc.toList s') (hn : n ≤ sizeLine := by size_fits) : wpAny (model prog w) A (collect (.ref I)) Q X s := by
  have hSf : s.heap.objs.size ∉ fp := fun hm => Nat.lt_irrefl _ (hfp _ hm)
  have hSI : s.heap.objs.size ≠ I := fun e => hSf (e ▸ hI)
  unfold collect
  refine wpAny_bind (wpAny_runValue (codeAny_builtin F.entry_proto_collect ?_))
  rw [Around.under_plainId F.plain_proto_collect _]
  show wpAny _ A.in1 (newList [] >>= fun l => again (.builtin "list.__iadd__" ⟨[l, .ref I], []⟩)) _ _ s
  refine wpAny_bind (wpAny_newObj_type ?_)
  refine wpAny_pure ⟨plainId_quiet F.plain_list_iadd _, codeAny_builtin F.entry_list_iadd ?_⟩
  rw [Around.under_plainId F.plain_list_iadd _]
  have hst₁ := W.frame 0 s (s.heap.push { cls := .type "list", data := .seq ([] : List Value).toArray }) s.toks hst (Nat.le_refl _) fun b _ o e => Heap.get?_push_of_some _ e
  show wpAny _ A.in1 (Builtin.List.listExtendWith (.ref s.heap.objs.size) (.ref I) (.ref s.heap.objs.size)) _ _ _
  unfold Builtin.List.listExtendWith
  refine wpAny_bind (wpAny_typeOf (hT 0 _ hst₁) ?_)
  have h1 : Builtin.List.listSameRef (.ref s.heap.objs.size) (.ref I) = false := by simp [Builtin.List.listSameRef, hSI]
  have h2 : (Value.type "map" == Value.type "list") = false := by decide
  have h3 : (Value.type "map" == Value.type "tuple") = false := by decide
  simp only [h1, h2, h3, Bool.or_false, Bool.false_eq_true, if_false]
  refine wpAny_bind (W.self 0 _ _ _ hst₁ ?_)
  refine wpAny_bind (wpAny_holding ?_)
  unfold Builtin.List.listLengthHint
  refine wpAny_bind (wpAny_specialOf (hT 0 _ hst₁) map_no_len ?_)
  show wpAny _ A.in1 (specialOf (Value.ref I) (Str.ofString "__length_hint__") >>= _) _ _ _
  refine wpAny_bind (wpAny_specialOf (hT 0 _ hst₁) map_no_hint ?_)
  refine wpAny_pure ?_
  show wpAny _ A.in1 (rule "list.extend.makes-room" >>= fun _ => Builtin.List.listTouch (.ref s.heap.objs.size) >>= fun _ =>
    again (.builtin "list.extend.loop" ⟨[.ref s.heap.objs.size, .ref I, .ref s.heap.objs.size], []⟩)) _ _ _
  refine wpAny_bind (wpAny_rule ?_)
  have hS₁ : (s.heap.push { cls := .type "list", data := .seq ([] : List Value).toArray }).get? s.heap.objs.size = some { cls := .type "list", data := .seq ([] : List Value).toArray } := Heap.get?_push_size _ rfl
  refine wpAny_bind ?_
  show wpAny _ A.in1 (updateSeq s.heap.objs.size (·.push .none) >>= fun _ => updateSeq s.heap.objs.size (·.pop)) _ _ _
  refine wpAny_bind (wpAny_updateSeq hS₁ rfl ?_)
  have hS₂ := Heap.get?_update_self (Obj.mapSeq (·.push Value.none)) hS₁ rfl
  refine wpAny_updateSeq hS₂ rfl ?_
  have hS₃ := Heap.get?_update_self (Obj.mapSeq (·.pop)) hS₂ rfl
  have oth : ∀ b o, b ≠ s.heap.objs.size → (s.heap.push { cls := .type "list", data := .seq ([] : List Value).toArray }).get? b = some o →
      (((s.heap.push { cls := .type "list", data := .seq ([] : List Value).toArray }).update s.heap.objs.size (Obj.mapSeq (·.push Value.none))).update s.heap.objs.size (Obj.mapSeq (·.pop))).get? b = some o :=
    fun b o hb e => (Heap.get?_update_other _ _ (Ne.symm hb)).trans ((Heap.get?_update_other _ _ (Ne.symm hb)).trans e)
  refine wpAny_pure ⟨plainId_quiet F.plain_extend_loop _, codeAny_extend_loopS W hn _ hSf _ n 0 _ _ _ rfl (Nat.zero_le _)
    (W.frame 0 ({ s with heap := s.heap.push { cls := .type "list", data := .seq ([] : List Value).toArray } } : Shared) _ s.toks hst₁ (Nat.le_refl _) fun b hb o e => oth b o (fun h => hSf (h ▸ hb)) e) hS₃ (ItemsOf.nil P) fun s' acc' c' hm hS' hacc => ?_⟩
  show wpAny _ A (load s.heap.objs.size >>= _) _ _ s'
  refine wpAny_bind (wpAny_load hS' ?_)
  refine wpAny_pure (hQ s' acc' (Moved.drop_new (o := { cls := .type "list", data := .seq ([] : List Value).toArray }) (tk := s.toks) (Moved.trans W.gtrans ((Moved.refl W.grefl).then_heap (by first | exact Nat.le_refl _ | exact Nat.le_succ _ | omega) fun b o hb e => ?_) hm) (Nat.le_refl _)) hacc)
  exact oth b o (fun h => hb (h ▸ List.mem_cons_self)) e

theorem code_tuple_map {I : Addr} {fp wr : List Addr} {G : Array GenState → Array GenState → Prop} {n : Nat} {P : Nat → Value → Prop} {S : Nat → Shared → Prop} {s : Shared} {Q₁ : Value → Shared → Prop} (W : WalksS prog w A.in1.in1 I fp wr G n P S) (hT : ∀ i s, S i s → s.TypeIs (.ref I) "map") (hst : S 0 s) (hfp : ∀ b ∈ fp, b < s.heap.objs.size) (hI : I ∈ fp)
    (h : ∀ s' acc, Moved wr G s s' → ItemsOf P acc n → Q₁ (.ref s'.heap.objs.size) { s' with heap := s'.heap.push { cls := .type "tuple", data := .seq acc } }) (hsz : n ≤ sizeLine := by size_fits) :
    codeAny (model prog w) A (.call (.builtin "tuple.__new__") ⟨[.type "tuple", .ref I], []⟩) (wants Q₁ X) s := by
  refine codeAny_of_tree ?_
  show wpAny _ A.in1 (do checkBuiltinCall "tuple.__new__" ⟨[.type "tuple", .ref I], []⟩; again (.builtin "tuple.__new__" ⟨[.type "tuple", .ref I], []⟩)) _ _ s
  refine wpAny_bind (wpAny_of_eq (F.newCall_tuple_1 _) (wpAny_pure ⟨plainId_quiet F.plain_tuple_new _, codeAny_builtin F.entry_tuple_new ?_⟩))
  rw [Around.under_plainId F.plain_tuple_new _]
  have hsub := sub_tuple_self
  have hinit := init_tuple_lookup
  have hmh := madeHere_tuple
  have hTI := hT 0 s hst
  wp_walk using wpAny_typeOf hTI, collect_map (hn := hsz) W hT hst hfp hI
  intro s' acc hm hacc
  show wpAny _ _ (Builtin.Tuple.tupleExact acc.toList.toArray >>= fun v => ret v) _ _ _
  unfold Builtin.Tuple.tupleExact
  refine wpAny_bind (wpAny_newObj_type ?_ (by show acc.toList.toArray.size ≤ sizeLine; simp only [Array.toArray_toList]; rw [hacc.1]; exact hsz))
  refine wpAny_pure ?_
  have e : acc.toList.toArray = acc := by simp
  rw [e]
  exact h s' acc hm hacc
/-- tuple(map(fspath, l)) -/
theorem r_tuple_map {fa l Mp T I : Addr} {vs : List Value} {Q : Value → Shared → Prop} (hh : A.handled = none) (hR : A.depth < recursionLimit) (D : St mg mb h₀ N h) (Fp : Fn mg h₀ "fspath" 9 fa) (hl : (Fact.lst vs).at h₀ l) (hv : ∀ v ∈ vs, IsTx v) (hsz : vs.length ≤ 1000)
    (hM : (Mp, Fact.obj (mapObj T fa)) ∈ N) (hT : (T, Fact.tup [.ref I]) ∈ N) (hI : (I, Fact.li l 0) ∈ N) (u1 : Del I N N') (nd : [Mp, T, I].Nodup)
    (hQ : ∀ a h' t', St mg mb h₀ ((a, .tup vs) :: N') h' → Q (.ref a) ⟨h', g, d, t', o⟩) : wpAny (model prog w) A (call (.type "tuple") [.ref Mp]) Q X ⟨h, g, d, t, o⟩ := by
  have hz : vs.length ≤ sizeLine := by rw [sizeLine_eq]; omega
  have D0 : St mg mb h₀ [(Mp, .obj (mapObj T fa)), (T, .tup [.ref I]), (I, .li l 0)] h :=
    ⟨D.wd, D.keep, fun p hp => by simp only [List.mem_cons, List.not_mem_nil, or_false] at hp; rcases hp with rfl | rfl | rfl <;> exact D.get (by assumption),
      fun p hp => by simp only [List.mem_cons, List.not_mem_nil, or_false] at hp; rcases hp with rfl | rfl | rfl <;> exact D.own _ (by assumption), nd⟩
  have W := map_walks (prog := prog) (w := w) (A := A.in1.in1.in1) (n₀ := h.objs.size) hh hR D.wd Fp hl hv (fun b ob e => Heap.lt_size (D.keep b ob e)) (D.get hM).lt (D.get hT).lt (D.get hI).lt
  refine callType_codes (Q₁ := fun obj s₁ => s₁.TypeIs obj "tuple" ∧ Q obj s₁) F.called_tuple (F.typeCall_tuple_1 _) F.entry_object_init
    (code_tuple_map (hsz := hz) W (fun i s h => by obtain ⟨om, em, hom⟩ := h.get (.head _); exact ⟨om, em, by rw [hom]⟩) D0 (fun b hb => List.mem_range.mp hb) (List.mem_range.mpr (D.get hM).lt) fun s' acc hm hacc => ⟨⟨_, Heap.get?_push_size _ rfl, rfl⟩, ?_⟩) fun obj s₁ h₁ => ?_
  · obtain ⟨h', g', d', t', o'⟩ := s'
    obtain ⟨k, e1, e2, e3, _⟩ := hm
    change g' = g at e1
    change d' = d at e2
    change o' = o at e3
    subst e1 e2 e3
    have eacc : acc = vs.toArray := by
      refine Array.ext (by rw [hacc.1, List.size_toArray]) fun i hi1 hi2 => ?_
      have this : vs[i]? = some acc[i] := hacc.2 i _ (Array.getElem?_eq_getElem hi1)
      rw [List.getElem?_eq_getElem (by rw [← hacc.1]; exact hi1)] at this
      rw [List.getElem_toArray]; exact (Option.some.inj this).symm
    rw [eacc]
    exact hQ _ _ _ ((D.del u1 (fun b ob hb e => k b ob (fun z => hb (List.mem_singleton.mp z)) e)).push ⟨rfl, rfl, rfl, 0, rfl⟩ rfl)
  · exact ⟨h₁.1, F.args_object_init_2 obj _, object_init_meets F.called_tuple.init.lookup F.called_tuple.made (by decide) prog w A.in1 _ s₁ ⟨h₁.1, rfl, h₁.2⟩⟩
end
end Mine

end
section
open PySem PySem.Calls PySem.W PyProof.Rows
open AutoSeq1 (wpAny_loadPart')
set_option maxRecDepth 100000
set_option maxHeartbeats 1000000
namespace Mine
abbrev set0 (led : Bool) : Obj := { cls := .type "set", dict := none, data := .set #[] 0 (.fresh 0 0 led), slots := #[] }
section
variable {prog : Program} {w : World} {A : Around} {X : Value → Shared → Prop} {g : Array GenState} {d : Drawn} {t : Nat} {o : OsState} {h h₀ : Heap} {mg mb : Str → Option Value} {N N' : List (Addr × Fact)}
theorem wp_hash_bool {b : Bool} {Q : Int → Shared → Prop} (hQ : ∀ t', Q (if b then 1 else 0) ⟨h, g, d, t', o⟩) : wpAny (model prog w) A (pyHash (.bool b)) Q X ⟨h, g, d, t, o⟩ := by
  refine pyHash_slot (T := "bool") rfl F.slot_bool_hash entry_int_hash (args_int_hash _) (beq_builtin_none _) (.inl rfl) ?_
  cases b
  · exact (show wpAny _ _ (do ret (← mkInt 0)) _ _ _ from wpAny_bind (wpAny_mkInt (wpAny_pure ⟨_, _, rfl, hQ _⟩)))
  · exact (show wpAny _ _ (do ret (← mkInt 1)) _ _ _ from wpAny_bind (wpAny_mkInt (wpAny_pure ⟨_, _, rfl, hQ _⟩)))
abbrev set1 (b led : Bool) (n : Nat) : Obj := { cls := .type "set", dict := none, data := .set #[(if b = true then 1 else 0, .bool b)] n { mask := 7, place := #[if b = true then 1 else 0], dummies := #[], finger := 0, led := led, moves := 0, plain := true }, slots := #[] }
theorem set_add1 {a : Addr} {b led : Bool} {Q : Value → Shared → Prop} (D : St mg mb h₀ N h) (u : Upd a (.obj (set1 b led 1)) (.obj (set0 led)) N N') (hQ : ∀ h' t', St mg mb h₀ N' h' → Q .none ⟨h', g, d, t', o⟩) :
    wpAny (model prog w) A (call (.builtin "set.add") [.ref a, .bool b]) Q X ⟨h, g, d, t, o⟩ := by
  obtain ⟨ob, ho, rfl⟩ := D.get u.mem
  refine wpAny_call_entry F.slot_set_add ⟨_, ho, rfl⟩ F.entry_set_add ?_ (F.args_set_add_2 _ _)
  repeat (first | ((with_reducible show wpAny _ _ (pyHash (Value.bool _)) _ _ _); refine wp_hash_bool fun _ => ?_) | wp_step)
  rw [if_pos (show byScan (Value.bool b) #[] = true by cases b <;> decide +kernel)]
  have e1 : layNew (SetTable.fresh 0 0 led) #[] (if b = true then 1 else 0) (Value.bool b) = (#[(if b = true then 1 else 0, .bool b)], { mask := 7, place := #[if b = true then 1 else 0], dummies := #[], finger := 0, led := led, moves := 0, plain := true }, false, false) := by
    cases b <;> cases led <;> kernel_rfl
  have e2 : setScan a (Value.bool b) (if b = true then 1 else 0) true #[] = pure .absent := rfl
  refine wpAny_bind ?_
  unfold setAddByScan
  refine wpAny_bind (wpAny_rule ?_)
  refine wpAny_bind (wpAny_of_eq e2 ?_)
  try dsimp only
  refine wpAny_bind (wpAny_pure ?_)
  rw [e1]
  try dsimp only
  rw [if_pos rfl]
  refine wpAny_bind (wpAny_of_eq (a := true) (by cases b <;> rfl) ?_)
  try dsimp only
  rw [if_pos rfl]
  refine wpAny_bind (wpAny_storeSet_of ho rfl ?_ (by rw [sizeLine_eq]; show 1 ≤ 16777216; decide))
  have D2 : St mg mb h₀ N' (h.update a (Obj.putSet #[(if b = true then 1 else 0, .bool b)] { mask := 7, place := #[if b = true then 1 else 0], dummies := #[], finger := 0, led := led, moves := 0, plain := true })) :=
    D.upd u (Heap.SameBut.update ..).extBut ⟨_, Heap.get?_update_self _ ho rfl, rfl⟩
  try dsimp only
  rw [if_neg (by cases b <;> cases led <;> decide +kernel)]
  refine wpAny_pure ?_
  try dsimp only
  refine wpAny_pure ?_
  exact wpAny_pure ⟨_, rfl, hQ _ _ D2⟩
theorem set_add2 {a : Addr} {b led : Bool} {n : Nat} {Q : Value → Shared → Prop} (D : St mg mb h₀ N h) (hm : (a, Fact.obj (set1 b led n)) ∈ N) (hQ : ∀ t', Q .none ⟨h, g, d, t', o⟩) :
    wpAny (model prog w) A (call (.builtin "set.add") [.ref a, .bool b]) Q X ⟨h, g, d, t, o⟩ := by
  obtain ⟨ob, ho, rfl⟩ := D.get hm
  refine wpAny_call_entry F.slot_set_add ⟨_, ho, rfl⟩ F.entry_set_add ?_ (F.args_set_add_2 _ _)
  repeat (first | ((with_reducible show wpAny _ _ (pyHash (Value.bool _)) _ _ _); refine wp_hash_bool fun _ => ?_) | wp_step)
  rw [if_pos (show byScan (Value.bool b) #[(if b = true then 1 else 0, Value.bool b)] = true by cases b <;> decide +kernel)]
  unfold setAddByScan
  refine wpAny_bind (wpAny_bind (wpAny_rule ?_))
  have e2 : ∀ hh : Int, setScan a (Value.bool b) hh true #[(hh, Value.bool b)] = setScanFrom a (Value.bool b) hh true [(hh, Value.bool b)] 0 := fun _ => rfl
  rw [e2]
  unfold setScanFrom
  rw [if_pos (beq_self_eq_true _)]
  unfold setEpoch setState eqBool
  repeat wp_step
  exact ⟨_, rfl, hQ _⟩
end
end Mine

end
section
open PySem PySem.Calls PySem.W PyProof.Rows
open AutoSeq1 (wpAny_loadPart')
set_option maxRecDepth 100000
set_option maxHeartbeats 1000000
namespace Mine
theorem slot_seti_next : Slot "set_iterator" "__next__" "set_iterator.__next__" :=
  .of (owner := "set_iterator") (n := "__next__") (by rw [typeLookup_type, builtinLookup_eq_fast]; kernel_rfl) (by decide +kernel) (by decide +kernel) (by decide +kernel)
    (by first | exact .inl (by decide +kernel) | exact .inr (by decide +kernel)) (by rw [isSubtype_type]; kernel_rfl)
theorem entry_seti_next : entryFor table "set_iterator.__next__" = some Builtin.«set_iterator.__next__» := by first | exact entryFor_of_tree (by kernel_rfl) | exact entryFor_of_fast (by kernel_rfl)
theorem args_seti_next (a : Value) : argsOk "set_iterator.__next__" ⟨[a], []⟩ := by unfold argsOk; kernel_rfl
theorem entry_set_iter : entryFor table "set.__iter__" = some Builtin.«frozenset.__iter__» :=
  entryFor_alias (id' := "frozenset.__iter__") (by kernel_rfl) rfl (by decide +kernel) (by kernel_rfl)
abbrev setI (k j n : Nat) (a : Addr) : Obj := { cls := .type "set_iterator", dict := none, data := .fields #[rawInt k, rawInt j, .ref a, rawInt 1, rawInt n], slots := #[] }
section
variable {prog : Program} {w : World} {A : Around} {X : Value → Shared → Prop} {g : Array GenState} {d : Drawn} {t : Nat} {o : OsState} {h h₀ : Heap} {mg mb : Str → Option Value} {N N' : List (Addr × Fact)}
abbrev byTx (w : World) : Bool := w.params.followText "set-order"
theorem pi_set {a : Addr} {b led : Bool} {n : Nat} {Q : Value → Shared → Prop} (D : St mg mb h₀ N h) (hm : (a, Fact.obj (set1 b led n)) ∈ N) (hQ : ∀ I h' , St mg mb h₀ ((I, .obj (setI 0 0 n a)) :: N) h' → Q (.ref I) ⟨h', g, d, t, o⟩) :
    wpAny (model prog w) A (pyIter (.ref a)) Q X ⟨h, g, d, t, o⟩ := by
  obtain ⟨ob, ho, rfl⟩ := D.get hm
  refine wpAny_pyIter_slot (T := "set") (s := ⟨h, g, d, t, o⟩) ⟨_, ho, rfl⟩ F.slot_set_iter (wpAny_call_entry F.slot_set_iter ⟨_, ho, rfl⟩ entry_set_iter ?_ (F.args_set_iter_1 _))
  repeat ((fail_if_success (with_reducible show wpAny _ _ ask _ _ _)); wp_step)
  refine wpAny_askSetting (wpAny_pure (wpAny_pure ?_))
  rw [if_neg (show ¬ _ = true from by cases (Setting.params _).followText _ <;> cases b <;> cases led <;> decide +kernel)]
  repeat wp_step
  exact ⟨_, rfl, "set_iterator", _, ⟨_, Heap.get?_push_size _ rfl, rfl⟩, slot_seti_next.lookup, hQ _ _ (D.push rfl rfl)⟩
theorem pick1 {α : Type} (f : Nat → Nat) (x : α) : pickOrder f #[x] = #[x] := by
  simp [pickOrder, pickOrder.go, Nat.mod_one]
theorem pn_set {a I : Addr} {b : Bool} {n : Nat} {Q : Option Value → Shared → Prop} (D : St mg mb h₀ N h) (hm : (a, Fact.obj (set1 b (!byTx w) n)) ∈ N) (u : Upd I (.obj (setI (bif byTx w then 0 else (bif b then 2 else 1)) 1 n a)) (.obj (setI 0 0 n a)) N N') (hQ : ∀ h', St mg mb h₀ N' h' → Q (some (.bool b)) ⟨h', g, d, t, o⟩) :
    wpAny (model prog w) A (pyNext (.ref I)) Q X ⟨h, g, d, t, o⟩ := by
  obtain ⟨ob, ho, rfl⟩ := D.get hm
  obtain ⟨oi, hi, rfl⟩ := D.get u.mem
  unfold pyNext
  refine wpAny_bind (wpAny_attempt (wpAny_callSpecial?_slot (T := "set_iterator") (s := ⟨h, g, d, t, o⟩) (name := Str.ofString "__next__") ⟨_, hi, rfl⟩ slot_seti_next (wpAny_call_entry slot_seti_next ⟨_, hi, rfl⟩ entry_seti_next ?_ (args_seti_next _))))
  repeat ((fail_if_success (with_reducible show wpAny _ _ ask _ _ _)); wp_step)
  refine wpAny_askSetting (wpAny_pure ?_)
  have e : (Setting.params ⟨(model prog w).prog, (model prog w).w.params⟩).followText "set-order" = byTx w := rfl
  rw [e]
  cases hbt : byTx w with
  | true =>
    rw [if_pos rfl]
    repeat ((fail_if_success (with_reducible show wpAny _ _ ask _ _ _)); wp_step)
    refine wpAny_askSetting (wpAny_pure ?_)
    rw [e, hbt, if_pos rfl]
    refine wpAny_bind (wpAny_askSetting ?_)
    rw [pick1]
    refine wpAny_pure (wpAny_pure ?_)
    repeat wp_step
    refine ⟨_, rfl, wpAny_pure (hQ _ (D.upd u ((Heap.SameBut.update ..).trans (Heap.SameBut.update ..)).extBut ⟨_, Heap.get?_update_self _ (Heap.get?_update_self _ hi rfl) rfl, ?_⟩))⟩
    rw [hbt]; rfl
  | false =>
    rw [if_neg Bool.false_ne_true]
    repeat ((fail_if_success (with_reducible show wpAny _ _ ask _ _ _)); wp_step)
    refine ⟨_, rfl, wpAny_pure (hQ _ (D.upd u ((Heap.SameBut.update ..).trans (Heap.SameBut.update ..)).extBut ⟨_, Heap.get?_update_self _ (Heap.get?_update_self _ hi rfl) rfl, ?_⟩))⟩
    rw [hbt]; show (setI _ _ _ _ : Obj) = _; cases b <;> kernel_rfl
theorem pn_set_end {a I : Addr} {b : Bool} {n : Nat} {Q : Option Value → Shared → Prop} (hh : A.handled = none) (D : St mg mb h₀ N h) (hm : (a, Fact.obj (set1 b (!byTx w) n)) ∈ N) (hI : (I, Fact.obj (setI (bif byTx w then 0 else (bif b then 2 else 1)) 1 n a)) ∈ N) (u : Del I N N') (hQ : ∀ h', St mg mb h₀ N' h' → Q none ⟨h', g, d, t, o⟩) :
    wpAny (model prog w) A (pyNext (.ref I)) Q X ⟨h, g, d, t, o⟩ := by
  obtain ⟨ob, ho, rfl⟩ := D.get hm
  obtain ⟨oi, hi, rfl⟩ := D.get hI
  unfold pyNext
  refine wpAny_bind (wpAny_attempt (wpAny_callSpecial?_slot (T := "set_iterator") (s := ⟨h, g, d, t, o⟩) (name := Str.ofString "__next__") ⟨_, hi, rfl⟩ slot_seti_next (wpAny_call_entry slot_seti_next ⟨_, hi, rfl⟩ entry_seti_next ?_ (args_seti_next _))))
  repeat ((fail_if_success (with_reducible show wpAny _ _ ask _ _ _)); wp_step)
  refine wpAny_askSetting (wpAny_pure ?_)
  have e : (Setting.params ⟨(model prog w).prog, (model prog w).w.params⟩).followText "set-order" = byTx w := rfl
  rw [e]
  cases hbt : byTx w with
  | true =>
    rw [if_pos rfl]
    repeat ((fail_if_success (with_reducible show wpAny _ _ ask _ _ _)); wp_step)
    refine wpAny_askSetting (wpAny_pure ?_)
    rw [e, hbt, if_pos rfl]
    refine wpAny_bind (wpAny_askSetting ?_)
    rw [pick1]
    refine wpAny_pure (wpAny_pure ?_)
    show wpAny _ _ (setField (.ref I) 2 .none >>= fun _ => newExc (.type "StopIteration") [] >>= fun e => raiseNew e) _ _ _
    refine wpAny_bind (wpAny_setField hi rfl (by simp) ?_)
    refine wpAny_bind ?_
    simp only [newExc, newTuple]
    refine wpAny_bind (wpAny_newObj_type ?_ (by size_fits))
    refine wpAny_bind (m := firstArgMember _ _) (wpAny_of_eq (a := Value.none) (by first | rfl | (simp only [firstArgMember]; rfl)) ?_)
    refine wpAny_newObj_type ?_ (by size_fits)
    simp only [raiseNew]
    refine wpAny_bind (wpAny_handled ?_)
    rw [show A.in1.handled = none from hh]
    refine wpAny_bind (wpAny_pure (wpAny_throw ?_))
    refine wpAny_bind (wpAny_isInstance (T := "StopIteration") (b := true) ⟨_, Heap.get?_push_size _ rfl, rfl⟩ isSubtype_stop ?_)
    exact wpAny_pure (hQ _ (D.del u (((Heap.SameBut.update ..).extBut.push _).push _)))
  | false =>
    rw [if_neg Bool.false_ne_true]
    repeat ((fail_if_success (with_reducible show wpAny _ _ (setField _ _ _) _ _ _)); wp_step)
    cases b
    · show wpAny _ _ (setField (.ref I) 2 .none >>= fun _ => newExc (.type "StopIteration") [] >>= fun e => raiseNew e) _ _ _
      refine wpAny_bind (wpAny_setField hi rfl (by simp) ?_)
      refine wpAny_bind ?_
      simp only [newExc, newTuple]
      refine wpAny_bind (wpAny_newObj_type ?_ (by size_fits))
      refine wpAny_bind (m := firstArgMember _ _) (wpAny_of_eq (a := Value.none) (by first | rfl | (simp only [firstArgMember]; rfl)) ?_)
      refine wpAny_newObj_type ?_ (by size_fits)
      simp only [raiseNew]
      refine wpAny_bind (wpAny_handled ?_)
      rw [show A.in1.handled = none from hh]
      refine wpAny_bind (wpAny_pure (wpAny_throw ?_))
      refine wpAny_bind (wpAny_isInstance (T := "StopIteration") (b := true) ⟨_, Heap.get?_push_size _ rfl, rfl⟩ isSubtype_stop ?_)
      exact wpAny_pure (hQ _ (D.del u (((Heap.SameBut.update ..).extBut.push _).push _)))
    · show wpAny _ _ (setField (.ref I) 2 .none >>= fun _ => newExc (.type "StopIteration") [] >>= fun e => raiseNew e) _ _ _
      refine wpAny_bind (wpAny_setField hi rfl (by simp) ?_)
      refine wpAny_bind ?_
      simp only [newExc, newTuple]
      refine wpAny_bind (wpAny_newObj_type ?_ (by size_fits))
      refine wpAny_bind (m := firstArgMember _ _) (wpAny_of_eq (a := Value.none) (by first | rfl | (simp only [firstArgMember]; rfl)) ?_)
      refine wpAny_newObj_type ?_ (by size_fits)
      simp only [raiseNew]
      refine wpAny_bind (wpAny_handled ?_)
      rw [show A.in1.handled = none from hh]
      refine wpAny_bind (wpAny_pure (wpAny_throw ?_))
      refine wpAny_bind (wpAny_isInstance (T := "StopIteration") (b := true) ⟨_, Heap.get?_push_size _ rfl, rfl⟩ isSubtype_stop ?_)
      exact wpAny_pure (hQ _ (D.del u (((Heap.SameBut.update ..).extBut.push _).push _)))
end
end Mine

end
section
open PySem PySem.Calls PySem.W PyProof.Rows
set_option maxRecDepth 100000
set_option maxHeartbeats 1000000
namespace Mine
def envC (name : Str) (scope : Scope) (L a : Addr) (cd : Value) (cs : List (Str × Addr)) : Env :=
  { scope := scope, locals := L, globals := mainGlobals, cells := cs, qual := name ++ ".<locals>.", func := some a, code := cd, frame := some L, builtins := builtinsNs }
section
variable {prog : Program} {w : World} {A : Around} {X : Value → Shared → Prop} {g : Array GenState} {d : Drawn} {t : Nat} {o : OsState} {mg mb : Str → Option Value} {h₀ h : Heap} {N N' : List (Addr × Fact)} {env : Env}
theorem none_of_ge {h : Heap} {a : Addr} (ha : h.objs.size ≤ a) : h.get? a = none := by
  cases e : h.get? a with
  | none => rfl
  | some o => exact absurd (Nat.lt_of_lt_of_le (Heap.lt_size e) ha) (Nat.lt_irrefl _)
theorem lookup_of_nodup {c : Str × Addr} : ∀ {l : List (Str × Addr)}, c ∈ l → (l.map (·.1)).Nodup → l.lookup c.1 = some c.2
  | [], hc, _ => nomatch hc
  | z :: r, hc, nd => by
    rw [List.lookup_cons]
    rw [List.map_cons, List.nodup_cons] at nd
    rcases List.mem_cons.mp hc with rfl | hc
    · rw [beq_self_eq_true]
    · have hne : (c.1 == z.1) = false := beq_eq_false_iff_ne.mpr fun e => nd.1 (e ▸ List.mem_map_of_mem (f := (·.1)) hc)
      rw [hne]; exact lookup_of_nodup hc nd.2
/-- a def with cells, of one parameter that is no cell -/
theorem fcallC {name : Str} {params : Arguments} {body : List Stmt} {scope : Scope} {a : Addr} {p : Str} {v : Value} {Q : Value → Shared → Prop} (cs : Addr → List (Str × Addr))
    (W : Wd mg mb h) (F : FnAt mg h name params body scope a) (hR : A.depth < recursionLimit)
    (hbind : ∀ pm cd doc, bindArgs (docDef name params body scope pm cd doc) ⟨[v], []⟩ = pure [(p, v)])
    (hloc : scope.names.lookup p = some .local) (hcs : ∀ L, cellsFrom (L + 1) scope.names [] = cs L) (hnd : ∀ L, ((cs L).map (·.1)).Nodup)
    (hq : ∀ L cd h₁ t₁, St mg mb h ((cs L).map (fun q => (q.2, Fact.cell none)) ++ [(L, .ns [(p, v)])]) h₁ → wpAny (model prog w) (A.deeper (envC name scope L a cd (cs L))) (execs body (envC name scope L a cd (cs L)))
      (fun f s' => Q (match f with | .ret v => v | _ => .none) s') (fun _ _ => False) ⟨h₁, g, d, t₁, o⟩)
    (hco : scope.isCoroutine = false := by rfl) (hgen : scope.isGenerator = false := by rfl) (hk : scope.kind = .function := by rfl) :
    wpAny (model prog w) A (call (.ref a) [v]) Q X ⟨h, g, d, t, o⟩ := by
  obtain ⟨ob, pm, cd, doc, ho, hd, hc⟩ := F.o
  refine wpAny_call (call_cells_ret hR ho hd W.nolim hc (hbind pm cd doc) (fun x hx => by rw [List.mem_singleton.mp hx]; exact .inl hloc) (fun h₁ tk F₁ C₁ => ?_) hco hgen hk)
  have ek : (envOfC name scope h.objs.size a cd).kindOf p = some .local := hloc
  have eL : bindL (envOfC name scope h.objs.size a cd).kindOf [(p, v)] (fun _ => none) = fun y => if y = p then some v else none := by
    show (if _ then _ else _) = _
    rw [if_pos ek]
  have eC : bindC (envOfC name scope h.objs.size a cd).kindOf [(p, v)] (fun _ => none) = fun _ => none := by
    show (if _ then _ else _) = _
    rw [if_pos ek]
  change Fr h h.objs.size h₁ (bindL (envOfC name scope h.objs.size a cd).kindOf [(p, v)] (fun _ => none)) at F₁
  change Cl h.objs.size (cellsFrom (h.objs.size + 1) scope.names []) h₁ (bindC (envOfC name scope h.objs.size a cd).kindOf [(p, v)] (fun _ => none)) at C₁
  rw [eL] at F₁
  rw [eC, hcs] at C₁
  have eenv : envOfC name scope h.objs.size a cd = envC name scope h.objs.size a cd (cs h.objs.size) := by unfold envOfC envC; rw [hcs]
  show wpAny _ (A.deeper (envOfC name scope h.objs.size a cd)) (execs body (envOfC name scope h.objs.size a cd)) _ _ _
  rw [eenv]
  refine wpAny_mono (hq _ cd h₁ _ ⟨W, F₁.keep, ?_, ?_, ?_⟩) (fun _ _ q => q) fun _ _ e => e
  · intro q hq
    rcases List.mem_append.mp hq with hq | hq
    · obtain ⟨c, hc, rfl⟩ := List.mem_map.mp hq
      have hl : (cs h.objs.size).lookup c.1 = some c.2 := by
        exact lookup_of_nodup hc (hnd _)
      exact C₁.cell c.1 c.2 hl
    · rw [List.mem_singleton.mp hq]
      refine ns_at F₁.ns fun n u e => ?_
      rw [List.lookup_cons] at e
      by_cases hn : n = p
      · subst hn; rw [beq_self_eq_true] at e; simpa using e
      · rw [beq_eq_false_iff_ne.mpr hn] at e; cases e
  · intro q hq
    rcases List.mem_append.mp hq with hq | hq
    · obtain ⟨c, hc, rfl⟩ := List.mem_map.mp hq
      exact none_of_ge (Nat.le_of_lt (C₁.above c.1 c.2 hc))
    · rw [List.mem_singleton.mp hq]; exact none_of_ge (Nat.le_refl _)
  · rw [List.map_append, List.map_map, List.map_singleton]
    refine List.nodup_append.mpr ⟨?_, by simp, ?_⟩
    · show ((cs h.objs.size).map (·.2)).Nodup
      have := C₁.apart
      rw [List.Nodup, List.pairwise_map]; exact this
    · intro x hx y hy e
      obtain ⟨c, hc, rfl⟩ := List.mem_map.mp hx
      rw [List.mem_singleton.mp hy] at e
      change c.2 = h.objs.size at e
      have := C₁.above c.1 c.2 hc
      rw [e] at this
      exact absurd this (Nat.lt_irrefl _)
end
end Mine

end
section
open PySem PySem.Calls PySem.W PyProof.Rows
open AutoSeq1 (wpAny_loadPart')
open MeetsSeq MeetsSeq2 MeetsSeq3 SeqRoads2
set_option maxRecDepth 100000
set_option maxHeartbeats 1000000
namespace Mine
section
variable {prog : Program} {w : World} {A : Around} {X : Value → Shared → Prop} {g : Array GenState} {d : Drawn} {t : Nat} {o : OsState} {h h₀ : Heap} {mg mb : Str → Option Value} {N N' : List (Addr × Fact)} {m : Bool} {vs0 vs1 : List Value} {r0 r1 : List Bool}
theorem Fact.at.plain {xs : List Value} {h : Heap} {a : Addr} (x : (Fact.lst xs).at h a) : ∃ n, h.get? a = some { cls := .type "list", dict := none, data := .seq xs.toArray n, slots := #[] } := by
  obtain ⟨⟨c, di, dt, sl⟩, ho, hc, hdi, hsl, n, hd⟩ := x
  dsimp only at hc hdi hsl hd
  subst hc hdi hsl hd
  exact ⟨n, ho⟩
theorem r_update {S : Addr} {xs ys : List Value} {Q : Unit → Shared → Prop} (D : St mg mb h₀ N h) (u : Upd S (.lst ys) (.lst xs) N N') (hx : xs.length ≤ 1000) (hy : ys.length ≤ 1000) (hQ : ∀ h', St mg mb h₀ N' h' → Q () ⟨h', g, d, t, o⟩) :
    wpAny (model prog w) A (updateSeq S (fun _ => ys.toArray)) Q X ⟨h, g, d, t, o⟩ := by
  obtain ⟨n, ho⟩ := (D.get u.mem).plain
  refine wpAny_updateSeq ho rfl (hQ _ (D.upd u (Heap.SameBut.update ..).extBut ?_)) (by rw [List.size_toArray, sizeLine_eq]; omega) (by show ys.toArray.size ≤ _; rw [List.size_toArray, sizeLine_eq]; omega)
  obtain ⟨n', e⟩ := Obj.data_mapSeq (o := { cls := .type "list", dict := none, data := .seq xs.toArray n, slots := #[] }) rfl (fun _ => ys.toArray)
  exact ⟨_, Heap.get?_update_self _ ho rfl, rfl, rfl, rfl, n', e⟩
theorem list_lt (p0 : Pcs m vs0 (r0.map some)) (p1 : Pcs m vs1 (r1.map some)) (l b : Addr) (n n2 : Nat) :
    Meets (Builtin.«list.__lt__» ⟨[.ref l, .ref b], []⟩) (fun _ R s => s.heap.get? l = some { cls := .type "list", dict := none, data := .seq vs0.toArray n, slots := #[] } ∧ s.heap.get? b = some { cls := .type "list", dict := none, data := .seq vs1.toArray n2, slots := #[] } ∧
        R (.ok (.ret (.bool (ltF r0 r1)))) s) := by
  intro prog w A R s h
  obtain ⟨hp, g, d, tk, os⟩ := s; obtain ⟨hl, hb, h⟩ := h
  have f3 := AutoSeq1.sub_list_list
  wp_walk using wpAny_loadPart' hl, wpAny_loadPart' hb
  exact ⟨plainId_quiet plain_eq_loop _, codeAny_builtin entry_eq_loop (by
    rw [Around.under_plainId plain_eq_loop _]
    exact lt_loop p0 p1 l b n n2 _ 0 rfl (Nat.zero_le _) (Nat.zero_le _) prog w A R _ ⟨hl, hb, h⟩)⟩
theorem rc_lt {l b : Addr} {Q : Value → Shared → Prop} (p0 : Pcs m vs0 (r0.map some)) (p1 : Pcs m vs1 (r1.map some)) (hl : (Fact.lst vs0).at h l) (hb : (Fact.lst vs1).at h b) (hu : A.units < cLine) (hQ : Q (.bool (ltF r0 r1)) ⟨h, g, d, t, o⟩) :
    wpAny (model prog w) A (richCompare .Lt (.ref l) (.ref b)) Q X ⟨h, g, d, t, o⟩ := by
  obtain ⟨n, e0⟩ := hl.plain
  obtain ⟨n2, e1⟩ := hb.plain
  exact richCompare_meets_room (op := .Lt) ⟨_, e0, rfl⟩ ⟨_, e1, rfl⟩ F.slot_list_lt F.entry_list_lt (F.args_list_lt_2 _ _) (list_lt p0 p1 l b n n2)
    ⟨e0, e1, show Value.bool (ltF r0 r1) ≠ Value.notImplemented ∧ Q (.bool (ltF r0 r1)) _ from ⟨(fun x => nomatch x), hQ⟩⟩ hu
theorem r_min_lists {L a0 a1 : Addr} {Q : Value → Shared → Prop} (hh : A.handled = none) (hu : A.units + 50 < cLine) (D : St mg mb h₀ N h) (hl : (L, Fact.lst [.ref a0, .ref a1]) ∈ N) (f0 : (a0, Fact.lst vs0) ∈ N) (f1 : (a1, Fact.lst vs1) ∈ N)
    (p0 : Pcs m vs0 (r0.map some)) (p1 : Pcs m vs1 (r1.map some)) (hQ : ∀ h' t', St mg mb h₀ N h' → Q (.ref (bif ltF r1 r0 then a1 else a0)) ⟨h', g, d, t', o⟩) :
    wpAny (model prog w) A (call (.builtin "min") [.ref L]) Q X ⟨h, g, d, t, o⟩ := by
  have hname : (toString "min" ++ toString ".loop" : String) = "min.loop" := by decide
  refine call_function_tree F.kind_min F.plain_min F.entry_min (F.args_min1 _) ?_
  show wpAny _ A.in1 (Builtin.Builtins.bindParams "min" ["key", "default"] 0 ⟨[], []⟩ >>= _) _ _ _
  refine wpAny_bind (wpAny_of_eq (show Builtin.Builtins.bindParams "min" ["key", "default"] 0 ⟨[], []⟩ = pure [none, none] from rfl) ?_)
  refine wpAny_bind (wpAny_pure ?_)
  refine wpAny_bind (pi_list D (D.get hl) fun I h' D => ?_)
  refine wpAny_bind (r_newList (vs := []) D fun S h' D => ?_)
  rw [hname]
  refine wpAny_pure ⟨plainId_quiet F.plain_min_loop _, codeAny_builtin F.entry_min_loop ?_⟩
  rw [Around.under_plainId F.plain_min_loop _]
  obtain ⟨nS, eS⟩ := (D.get (.head _)).plain
  show wpAny _ A.in1 (seqItems? (.ref S) >>= _) _ _ _
  refine wpAny_bind (wpAny_seqItems eS rfl ?_)
  show wpAny _ A.in1 (tryCatch (pyNext (.ref I)) _ >>= _) _ _ _
  refine wpAny_bind (wpAny_tryCatch (pn_list (v := .ref a0) D (.tail .head) (D.get (.tail _ (.tail _ hl))) rfl fun h' D => ?_))
  show wpAny _ A.in1 (updateSeq S (fun _ => [Value.ref a0, Value.ref a0].toArray) >>= _) _ _ _
  refine wpAny_bind (r_update D .head (by simp) (by simp) fun h' D => ?_)
  rw [hname]
  refine wpAny_pure ⟨plainId_quiet F.plain_min_loop _, codeAny_builtin F.entry_min_loop ?_⟩
  rw [Around.under_plainId F.plain_min_loop _]
  obtain ⟨nS, eS⟩ := (D.get (.head _)).plain
  show wpAny _ A.in1 (seqItems? (.ref S) >>= _) _ _ _
  refine wpAny_bind (wpAny_seqItems eS rfl ?_)
  show wpAny _ A.in1 (tryCatch (pyNext (.ref I)) _ >>= _) _ _ _
  refine wpAny_bind (wpAny_tryCatch (pn_list (v := .ref a1) D (.tail .head) (D.get (.tail _ (.tail _ hl))) rfl fun h' D => ?_))
  show wpAny _ A.in1 (tryCatch (holding [.ref a1, .ref a1] (richCompare .Lt (.ref a1) (.ref a0) >>= _)) _ >>= _) _ _ _
  refine wpAny_bind (wpAny_tryCatch (wpAny_holding (wpAny_bind (rc_lt p1 p0 (D.get (.tail _ (.tail _ f1))) (D.get (.tail _ (.tail _ f0))) (by show A.units + 1 < cLine; omega) ?_))))
  refine wpAny_bind (wpAny_holding (wpAny_truthy_bool ?_))
  refine wpAny_bind (wpAny_letGo (wpAny_pure ?_))
  cases hb : ltF r1 r0 with
  | true =>
    rw [hb] at hQ
    simp only [if_true]
    show wpAny _ _ (updateSeq S (fun _ => [Value.ref a1, Value.ref a1].toArray) >>= _) _ _ _
    refine wpAny_bind (r_update D .head (by simp) (by simp) fun h' D => ?_)
    refine wpAny_bind (wpAny_letGo ?_)
    rw [hname]
    refine wpAny_pure ⟨plainId_quiet F.plain_min_loop _, codeAny_builtin F.entry_min_loop ?_⟩
    rw [Around.under_plainId F.plain_min_loop _]
    obtain ⟨nS, eS⟩ := (D.get (.head _)).plain
    show wpAny _ A.in1 (seqItems? (.ref S) >>= _) _ _ _
    refine wpAny_bind (wpAny_seqItems eS rfl ?_)
    show wpAny _ A.in1 (tryCatch (pyNext (.ref I)) _ >>= _) _ _ _
    refine wpAny_bind (wpAny_tryCatch (pn_list_end hh D (.tail _ (.head _)) (D.get (.tail _ (.tail _ hl))) (Nat.le_refl 2) (.tail .head) fun h' D => ?_))
    show wpAny _ A.in1 (updateSeq S (fun _ => ([] : List Value).toArray) >>= _) _ _ _
    refine wpAny_bind (r_update D .head (by simp) (by simp) fun h' D => ?_)
    refine wpAny_bind (wpAny_letGo (wpAny_pure ?_))
    exact hQ _ _ D.tl
  | false =>
    rw [hb] at hQ
    simp only [Bool.false_eq_true, if_false]
    refine wpAny_bind (wpAny_letGo ?_)
    rw [hname]
    refine wpAny_pure ⟨plainId_quiet F.plain_min_loop _, codeAny_builtin F.entry_min_loop ?_⟩
    rw [Around.under_plainId F.plain_min_loop _]
    obtain ⟨nS, eS⟩ := (D.get (.head _)).plain
    show wpAny _ A.in1 (seqItems? (.ref S) >>= _) _ _ _
    refine wpAny_bind (wpAny_seqItems eS rfl ?_)
    show wpAny _ A.in1 (tryCatch (pyNext (.ref I)) _ >>= _) _ _ _
    refine wpAny_bind (wpAny_tryCatch (pn_list_end hh D (.tail _ (.head _)) (D.get (.tail _ (.tail _ hl))) (Nat.le_refl 2) (.tail .head) fun h' D => ?_))
    show wpAny _ A.in1 (updateSeq S (fun _ => ([] : List Value).toArray) >>= _) _ _ _
    refine wpAny_bind (r_update D .head (by simp) (by simp) fun h' D => ?_)
    refine wpAny_bind (wpAny_letGo (wpAny_pure ?_))
    exact hQ _ _ D.tl
theorem list_gt (p0 : Pcs m vs0 (r0.map some)) (p1 : Pcs m vs1 (r1.map some)) (l b : Addr) (n n2 : Nat) :
    Meets (Builtin.«list.__gt__» ⟨[.ref l, .ref b], []⟩) (fun _ R s => s.heap.get? l = some { cls := .type "list", dict := none, data := .seq vs0.toArray n, slots := #[] } ∧ s.heap.get? b = some { cls := .type "list", dict := none, data := .seq vs1.toArray n2, slots := #[] } ∧
        R (.ok (.ret (.bool (gtF r0 r1)))) s) := by
  intro prog w A R s h
  obtain ⟨hp, g, d, tk, os⟩ := s; obtain ⟨hl, hb, h⟩ := h
  have f3 := AutoSeq1.sub_list_list
  wp_walk using wpAny_loadPart' hl, wpAny_loadPart' hb
  exact ⟨plainId_quiet plain_eq_loop _, codeAny_builtin entry_eq_loop (by
    rw [Around.under_plainId plain_eq_loop _]
    exact gt_loop p0 p1 l b n n2 _ 0 rfl (Nat.zero_le _) (Nat.zero_le _) prog w A R _ ⟨hl, hb, h⟩)⟩
theorem rc_gt {l b : Addr} {Q : Value → Shared → Prop} (p0 : Pcs m vs0 (r0.map some)) (p1 : Pcs m vs1 (r1.map some)) (hl : (Fact.lst vs0).at h l) (hb : (Fact.lst vs1).at h b) (hu : A.units < cLine) (hQ : Q (.bool (gtF r0 r1)) ⟨h, g, d, t, o⟩) :
    wpAny (model prog w) A (richCompare .Gt (.ref l) (.ref b)) Q X ⟨h, g, d, t, o⟩ := by
  obtain ⟨n, e0⟩ := hl.plain
  obtain ⟨n2, e1⟩ := hb.plain
  exact richCompare_meets_room (op := .Gt) ⟨_, e0, rfl⟩ ⟨_, e1, rfl⟩ F.slot_list_gt F.entry_list_gt (F.args_list_gt_2 _ _) (list_gt p0 p1 l b n n2)
    ⟨e0, e1, show Value.bool (gtF r0 r1) ≠ Value.notImplemented ∧ Q (.bool (gtF r0 r1)) _ from ⟨(fun x => nomatch x), hQ⟩⟩ hu
theorem r_max_lists {L a0 a1 : Addr} {Q : Value → Shared → Prop} (hh : A.handled = none) (hu : A.units + 50 < cLine) (D : St mg mb h₀ N h) (hl : (L, Fact.lst [.ref a0, .ref a1]) ∈ N) (f0 : (a0, Fact.lst vs0) ∈ N) (f1 : (a1, Fact.lst vs1) ∈ N)
    (p0 : Pcs m vs0 (r0.map some)) (p1 : Pcs m vs1 (r1.map some)) (hQ : ∀ h' t', St mg mb h₀ N h' → Q (.ref (bif gtF r1 r0 then a1 else a0)) ⟨h', g, d, t', o⟩) :
    wpAny (model prog w) A (call (.builtin "max") [.ref L]) Q X ⟨h, g, d, t, o⟩ := by
  have hname : (toString "max" ++ toString ".loop" : String) = "max.loop" := by decide
  refine call_function_tree F.kind_max F.plain_max F.entry_max (F.args_max1 _) ?_
  show wpAny _ A.in1 (Builtin.Builtins.bindParams "max" ["key", "default"] 0 ⟨[], []⟩ >>= _) _ _ _
  refine wpAny_bind (wpAny_of_eq (show Builtin.Builtins.bindParams "max" ["key", "default"] 0 ⟨[], []⟩ = pure [none, none] from rfl) ?_)
  refine wpAny_bind (wpAny_pure ?_)
  refine wpAny_bind (pi_list D (D.get hl) fun I h' D => ?_)
  refine wpAny_bind (r_newList (vs := []) D fun S h' D => ?_)
  rw [hname]
  refine wpAny_pure ⟨plainId_quiet F.plain_max_loop _, codeAny_builtin F.entry_max_loop ?_⟩
  rw [Around.under_plainId F.plain_max_loop _]
  obtain ⟨nS, eS⟩ := (D.get (.head _)).plain
  show wpAny _ A.in1 (seqItems? (.ref S) >>= _) _ _ _
  refine wpAny_bind (wpAny_seqItems eS rfl ?_)
  show wpAny _ A.in1 (tryCatch (pyNext (.ref I)) _ >>= _) _ _ _
  refine wpAny_bind (wpAny_tryCatch (pn_list (v := .ref a0) D (.tail .head) (D.get (.tail _ (.tail _ hl))) rfl fun h' D => ?_))
  show wpAny _ A.in1 (updateSeq S (fun _ => [Value.ref a0, Value.ref a0].toArray) >>= _) _ _ _
  refine wpAny_bind (r_update D .head (by simp) (by simp) fun h' D => ?_)
  rw [hname]
  refine wpAny_pure ⟨plainId_quiet F.plain_max_loop _, codeAny_builtin F.entry_max_loop ?_⟩
  rw [Around.under_plainId F.plain_max_loop _]
  obtain ⟨nS, eS⟩ := (D.get (.head _)).plain
  show wpAny _ A.in1 (seqItems? (.ref S) >>= _) _ _ _
  refine wpAny_bind (wpAny_seqItems eS rfl ?_)
  show wpAny _ A.in1 (tryCatch (pyNext (.ref I)) _ >>= _) _ _ _
  refine wpAny_bind (wpAny_tryCatch (pn_list (v := .ref a1) D (.tail .head) (D.get (.tail _ (.tail _ hl))) rfl fun h' D => ?_))
  show wpAny _ A.in1 (tryCatch (holding [.ref a1, .ref a1] (richCompare .Gt (.ref a1) (.ref a0) >>= _)) _ >>= _) _ _ _
  refine wpAny_bind (wpAny_tryCatch (wpAny_holding (wpAny_bind (rc_gt p1 p0 (D.get (.tail _ (.tail _ f1))) (D.get (.tail _ (.tail _ f0))) (by show A.units + 1 < cLine; omega) ?_))))
  refine wpAny_bind (wpAny_holding (wpAny_truthy_bool ?_))
  refine wpAny_bind (wpAny_letGo (wpAny_pure ?_))
  cases hb : gtF r1 r0 with
  | true =>
    rw [hb] at hQ
    simp only [if_true]
    show wpAny _ _ (updateSeq S (fun _ => [Value.ref a1, Value.ref a1].toArray) >>= _) _ _ _
    refine wpAny_bind (r_update D .head (by simp) (by simp) fun h' D => ?_)
    refine wpAny_bind (wpAny_letGo ?_)
    rw [hname]
    refine wpAny_pure ⟨plainId_quiet F.plain_max_loop _, codeAny_builtin F.entry_max_loop ?_⟩
    rw [Around.under_plainId F.plain_max_loop _]
    obtain ⟨nS, eS⟩ := (D.get (.head _)).plain
    show wpAny _ A.in1 (seqItems? (.ref S) >>= _) _ _ _
    refine wpAny_bind (wpAny_seqItems eS rfl ?_)
    show wpAny _ A.in1 (tryCatch (pyNext (.ref I)) _ >>= _) _ _ _
    refine wpAny_bind (wpAny_tryCatch (pn_list_end hh D (.tail _ (.head _)) (D.get (.tail _ (.tail _ hl))) (Nat.le_refl 2) (.tail .head) fun h' D => ?_))
    show wpAny _ A.in1 (updateSeq S (fun _ => ([] : List Value).toArray) >>= _) _ _ _
    refine wpAny_bind (r_update D .head (by simp) (by simp) fun h' D => ?_)
    refine wpAny_bind (wpAny_letGo (wpAny_pure ?_))
    exact hQ _ _ D.tl
  | false =>
    rw [hb] at hQ
    simp only [Bool.false_eq_true, if_false]
    refine wpAny_bind (wpAny_letGo ?_)
    rw [hname]
    refine wpAny_pure ⟨plainId_quiet F.plain_max_loop _, codeAny_builtin F.entry_max_loop ?_⟩
    rw [Around.under_plainId F.plain_max_loop _]
    obtain ⟨nS, eS⟩ := (D.get (.head _)).plain
    show wpAny _ A.in1 (seqItems? (.ref S) >>= _) _ _ _
    refine wpAny_bind (wpAny_seqItems eS rfl ?_)
    show wpAny _ A.in1 (tryCatch (pyNext (.ref I)) _ >>= _) _ _ _
    refine wpAny_bind (wpAny_tryCatch (pn_list_end hh D (.tail _ (.head _)) (D.get (.tail _ (.tail _ hl))) (Nat.le_refl 2) (.tail .head) fun h' D => ?_))
    show wpAny _ A.in1 (updateSeq S (fun _ => ([] : List Value).toArray) >>= _) _ _ _
    refine wpAny_bind (r_update D .head (by simp) (by simp) fun h' D => ?_)
    refine wpAny_bind (wpAny_letGo (wpAny_pure ?_))
    exact hQ _ _ D.tl
end
end Mine

end
section
open PySem PySem.Calls PySem.W PyProof.Rows
set_option maxRecDepth 100000
set_option maxHeartbeats 1000000
namespace Mine
section
variable {mg mb : Str → Option Value} {h₀ h h' : Heap} {N N' N'' : List (Addr × Fact)} {a : Addr} {f f' : Fact}
theorem St.add2 {b : Addr} {f₂ : Fact} (D : St mg mb h₀ N h) (k : Ext h h') (hf : f.at h' a) (hf₂ : f₂.at h' b) (ha : h.objs.size ≤ a) (hb : h.objs.size ≤ b) (hne : a ≠ b) : St mg mb h₀ ((a, f) :: (b, f₂) :: N) h' := by
  have D1 : St mg mb h₀ ((b, f₂) :: N) h' := D.add k hf₂ hb
  refine ⟨D1.wd, D1.keep, ?_, ?_, ?_⟩
  · intro p hp
    rcases List.mem_cons.mp hp with rfl | hp
    · exact hf
    · exact D1.here p hp
  · intro p hp
    rcases List.mem_cons.mp hp with rfl | hp
    · exact (D.add k hf ha).own _ (.head _)
    · exact D1.own p hp
  · rw [List.map_cons, List.nodup_cons]
    refine ⟨fun hm => ?_, D1.nd⟩
    rw [List.map_cons] at hm
    rcases List.mem_cons.mp hm with e | hm
    · exact hne e
    · exact ((List.nodup_cons.mp (D.add k hf ha).nd).1) hm
theorem St.upd2 {b : Addr} {f₂ f₂' : Fact} (D : St mg mb h₀ N h) (u : Upd a f' f N N') (u₂ : Upd b f₂' f₂ N' N'') (k : ∀ c o, c ≠ a → c ≠ b → h.get? c = some o → h'.get? c = some o) (hf : f'.at h' a) (hf₂ : f₂'.at h' b) (hne : a ≠ b) : St mg mb h₀ N'' h' := by
  have ha := D.own _ u.mem
  have nd' : (N'.map (·.1)).Nodup := by rw [u.keys]; exact D.nd
  have own' : ∀ p ∈ N', h₀.get? p.1 = none := fun p hp => by
    rcases u.split D.nd p hp with rfl | ⟨hp, _⟩
    · exact ha
    · exact D.own p hp
  have hb := own' _ u₂.mem
  refine ⟨D.wd, fun c o e => k c o (fun z => by subst z; rw [ha] at e; cases e) (fun z => by subst z; rw [hb] at e; cases e) (D.keep c o e), ?_, ?_, ?_⟩
  · intro p hp
    rcases u₂.split nd' p hp with rfl | ⟨hp, hne2⟩
    · exact hf₂
    · rcases u.split D.nd p hp with rfl | ⟨hp, hne1⟩
      · exact hf
      · exact (D.here p hp).keep fun o => k _ o hne1 hne2
  · intro p hp
    rcases u₂.split nd' p hp with rfl | ⟨hp, _⟩
    · exact hb
    · exact own' p hp
  · rw [u₂.keys]; exact nd'
end
abbrev enumO (it : Addr) (i : Int) (old : Value) : Obj := { cls := .type "enumerate", dict := none, data := .fields #[.none, .bool false, .ref it, rawInt i, .none, old], slots := #[] }
abbrev enumU (it : Addr) (i : Int) (old : Value) (a : Addr) : Obj := { cls := .type "enumerate", dict := none, data := .fields #[rawInt a, .bool false, .ref it, rawInt i, .none, old], slots := #[] }
section
variable {prog : Program} {w : World} {A : Around} {X : Value → Shared → Prop} {g : Array GenState} {d : Drawn} {t : Nat} {o : OsState} {h h₀ : Heap} {mg mb : Str → Option Value} {N N' N'' : List (Addr × Fact)} {m f : Bool} {tx ty : Nat} {r : List Bool} {env : Env}
theorem r_enum {l : Addr} {xs : List Value} {Q : Value → Shared → Prop} (D : St mg mb h₀ N h) (hl : (Fact.lst xs).at h l) (hQ : ∀ e it h', St mg mb h₀ ((e, .obj (enumO it 0 .none)) :: (it, .li l 0) :: N) h' → Q (.ref e) ⟨h', g, d, t, o⟩) :
    wpAny (model prog w) A (call (.type "enumerate") [.ref l]) Q X ⟨h, g, d, t, o⟩ :=
  call_enumerate_list (s := ⟨h, g, d, t, o⟩) hl.isList fun h' he hit _ k => hQ _ _ h' (D.add2 k ⟨_, he, rfl⟩ hit (Nat.le_succ _) (Nat.le_refl _) (Nat.succ_ne_self _))
theorem pi_enum {e it : Addr} {i : Int} {old : Value} {Q : Value → Shared → Prop} (D : St mg mb h₀ N h) (hm : (e, Fact.obj (enumO it i old)) ∈ N) (hQ : Q (.ref e) ⟨h, g, d, t, o⟩) :
    wpAny (model prog w) A (pyIter (.ref e)) Q X ⟨h, g, d, t, o⟩ := by
  obtain ⟨ob, he, rfl⟩ := D.get hm
  exact wpAny_pyIter_enum (s := ⟨h, g, d, t, o⟩) he hQ
theorem pn_enum {e it l : Addr} {i : Nat} {xs : List Value} {x old : Value} {Q : Option Value → Shared → Prop} (D : St mg mb h₀ N h) (hl : (Fact.lst xs).at h l) (hx : xs[i]? = some x)
    (hi : (it, Fact.li l i) ∈ N) (hne : e ≠ it) (u : Upd e (.obj (enumO it ((i : Int) + 1) x)) (.obj (enumO it i old)) N N') (u₂ : Upd it (.li l (i + 1)) (.li l i) N' N'')
    (hQ : ∀ h' T tk t', h'.get? e = some (enumU it ((i : Int) + 1) x T) → (∀ h'', Heap.SameBut e h' h'' → h''.get? e = some (enumO it ((i : Int) + 1) x) → St mg mb h₀ ((T, .tup [.int i tk, x]) :: N'') h'') → Q (some (.ref T)) ⟨h', g, d, t', o⟩) :
    wpAny (model prog w) A (pyNext (.ref e)) Q X ⟨h, g, d, t, o⟩ := by
  obtain ⟨ob, he, rfl⟩ := D.get u.mem
  refine wpAny_pyNext_enum_item (s := ⟨h, g, d, t, o⟩) he (D.get hi).isLi hl.isList (by rw [List.getElem?_toArray]; exact hx) hne fun h' he' hit' ht' hz' k => ?_
  refine hQ h' h.objs.size t _ he' fun h'' hs hg => ?_
  have hee : e < h.objs.size := Heap.lt_size he
  have D2 : St mg mb h₀ N'' h'' := D.upd2 u u₂ (fun c ob h1 h2 e => hs.extBut c ob h1 (k c ob h1 h2 e)) ⟨_, hg, rfl⟩ (hit'.extBut hs.extBut (Ne.symm hne)) hne
  refine ⟨D2.wd, D2.keep, ?_, ?_, ?_⟩
  · intro p hp
    rcases List.mem_cons.mp hp with rfl | hp
    · exact ⟨_, hs.extBut _ _ (Nat.ne_of_gt hee) ht', rfl, rfl, rfl, 0, rfl⟩
    · exact D2.here p hp
  · intro p hp
    rcases List.mem_cons.mp hp with rfl | hp
    · exact D.fresh.1
    · exact D2.own p hp
  · rw [List.map_cons, List.nodup_cons]
    refine ⟨fun hm => ?_, D2.nd⟩
    rw [u₂.keys, u.keys] at hm
    obtain ⟨p, hp, e⟩ := List.mem_map.mp hm
    exact D.fresh.2 p hp e
theorem lo_enum {e it T : Addr} {i : Int} {x : Value} {xi xv : Expr} {k : Nat} {pos : Pos} {Q : Unit → Shared → Prop} (he : h.get? e = some (enumU it i x T)) (D : ∀ h'', Heap.SameBut e h h'' → h''.get? e = some (enumO it i x) → St mg mb h₀ N h'') (hQ : ∀ h', St mg mb h₀ N h' → Q () ⟨h', g, d, t, o⟩) :
    wpAny (model prog w) A (letOwnedTupleGo (.Tuple [xi, xv] k pos) (.ref e) (.ref T)) Q X ⟨h, g, d, t, o⟩ :=
  wpAny_letOwnedTupleGo_enum (s := ⟨h, g, d, t, o⟩) he fun h₂ he₂ hs₂ => hQ h₂ (D h₂ hs₂ he₂)
theorem pn_enum_end {e it l : Addr} {i : Nat} {xs : List Value} {old : Value} {Q : Option Value → Shared → Prop} (hh : A.handled = none) (D : St mg mb h₀ N h) (hl : (Fact.lst xs).at h l) (hx : xs.length ≤ i)
    (hm : (e, Fact.obj (enumO it i old)) ∈ N) (hi : (it, Fact.li l i) ∈ N) (u : Del it N N') (hQ : ∀ h', St mg mb h₀ N' h' → Q none ⟨h', g, d, t, o⟩) : wpAny (model prog w) A (pyNext (.ref e)) Q X ⟨h, g, d, t, o⟩ := by
  obtain ⟨ob, he, rfl⟩ := D.get hm
  exact wpAny_pyNext_enum_end (s := ⟨h, g, d, t, o⟩) hh he (D.get hi).isLi hl.isList (by rw [List.getElem?_toArray]; exact List.getElem?_eq_none hx) fun h' k => hQ h' (D.del u k)
/-- two names from a tuple -/
theorem as_pair {a : Addr} {x y : Value} {xi xv : Str} {pi pv pt : Pos} {k : Nat} {Q : Unit → Shared → Prop} (hh : A.handled = none) (D : St mg mb h₀ N h) (ht : (Fact.tup [x, y]).at h a)
    (hQ : ∀ h', St mg mb h₀ N h' → wpAny (model prog w) A (storeName env xi x) (fun _ s₁ => wpAny (model prog w) A (storeName env xv y) (fun _ s₂ => Q () s₂) X s₁) X ⟨h', g, d, t, o⟩) :
    wpAny (model prog w) A (assign (.Tuple [.Name xi pi, .Name xv pv] k pt) env (.ref a)) Q X ⟨h, g, d, t, o⟩ := by
  refine wpAny_assign_Tuple (s := ⟨h, g, d, t, o⟩) hh ht.isTuple rfl rfl fun h₃ hx₃ => ?_
  have D' : St mg mb h₀ N h₃ := D.ext fun b ob e => hx₃ b ob (Nat.ne_of_lt (Heap.lt_size e)) e
  show wpAny _ A (do holding [y] (assign (.Name xi pi) env x); do holding [] (assign (.Name xv pv) env y); pure ()) _ _ _
  refine wpAny_bind (wpAny_holding (wpAny_assign_Name (wpAny_mono (hQ h₃ D') (fun _ s₁ h₁ => ?_) fun _ _ e => e)))
  exact wpAny_bind (wpAny_holding (wpAny_assign_Name (wpAny_mono h₁ (fun _ s₂ h₂ => wpAny_pure h₂) fun _ _ e => e)))
theorem r_truthy_tup {a : Addr} {xs : List Value} {Q : Bool → Shared → Prop} (ht : (Fact.tup xs).at h a) (hz : xs.length ≤ 1000) (hQ : ∀ t', Q (!xs.isEmpty) ⟨h, g, d, t', o⟩) : wpAny (model prog w) A (truthy (.ref a)) Q X ⟨h, g, d, t, o⟩ := by
  refine PyProof.Rows.truthy_tuple (s := ⟨h, g, d, t, o⟩) ht.isTuple (by rw [List.size_toArray]; omega) ?_
  rw [List.isEmpty_toArray]; exact hQ _
theorem t_tup_item {value slice : Expr} {a : Addr} {xs : List Value} {k : Nat} {tk : Nat} {v : Value} {Q : Value → Shared → Prop} (ht : (Fact.tup xs).at h a) (hk : k < 1000000) (hx : xs[k]? = some v) (hQ : Q v ⟨h, g, d, t, o⟩)
    (hs : subscripted slice false (.ref a) (.int k tk) = operate [.ref a, .int k tk] (getItem (.ref a) (.int k tk)) := by with_unfolding_all rfl) :
    wpAny (model prog w) A (subscriptTail value slice (.ref a) (.int k tk)) Q X ⟨h, g, d, t, o⟩ := by
  have hlt : k < xs.length := (List.getElem?_eq_some_iff.mp hx).1
  refine tail_any (s := ⟨h, g, d, t, o⟩) ht.isTuple.typeIs F.slot_tuple_getitem.lookup (PyProof.Rows.getItem_tuple (s := ⟨h, g, d, t, o⟩) (j := k) ht.isTuple (by omega) (by omega) ?_ (by rw [List.getElem?_toArray]; exact hx) hQ) hs
  rw [List.size_toArray]
  unfold seqIndex?
  simp only [show ¬ ((k : Int) < 0) by omega, if_false]
  rw [if_pos (by simp; omega)]
  rfl
theorem t_list_upto {value slice : Expr} {a sl : Addr} {xs : List Value} {j u : Nat} {Q : Value → Shared → Prop} (D : St mg mb h₀ N h) (hl : (Fact.lst xs).at h a) (hm : (sl, Fact.obj (sliceObj .none (.int j u))) ∈ N) (hj : j ≤ xs.length) (hz : xs.length ≤ 1000)
    (hQ : ∀ b h', St mg mb h₀ ((b, .lst (xs.take j)) :: N) h' → Q (.ref b) ⟨h', g, d, t, o⟩)
    (hs : subscripted slice false (.ref a) (.ref sl) = operate [.ref sl, .ref a] (getItem (.ref a) (.ref sl)) := by with_unfolding_all rfl) :
    wpAny (model prog w) A (subscriptTail value slice (.ref a) (.ref sl)) Q X ⟨h, g, d, t, o⟩ := by
  obtain ⟨ob, ho, rfl⟩ := D.get hm
  have e : slicePick xs.toArray none (some (j : Int)) none = (xs.take j).toArray := by
    have e0 : slicePick xs.toArray none (some (j : Int)) none = slicePick xs.toArray (some ((0 : Nat) : Int)) (some (j : Int)) none := by
      unfold slicePick
      have : sliceBounds none (some (j : Int)) none xs.toArray.size = sliceBounds (some ((0 : Nat) : Int)) (some (j : Int)) none xs.toArray.size := by
        simp [sliceBounds]
        omega
      rw [this]
    rw [e0, slicePick_run xs.toArray 0 j (by rw [List.size_toArray]; exact hj) (Nat.zero_le _)]
    rfl
  refine tail_any (s := ⟨h, g, d, t, o⟩) hl.isList.typeIs slot_list_getitem.lookup ?_ hs
  refine wpAny_getItem_list_slice (s := ⟨h, g, d, t, o⟩) hl.isList ⟨_, ho, rfl, rfl⟩ .none (.int _ _) .none (by simp) ?_ (by rw [List.size_toArray, sizeLine_eq]; omega)
  rw [e]
  exact hQ _ _ (D.push ⟨rfl, rfl, rfl, 0, rfl⟩ rfl)
end
end Mine

end
section
open PySem PySem.Calls PySem.W PyProof.Rows
set_option maxRecDepth 100000
set_option maxHeartbeats 1000000
namespace Mine
def bodyV (m : Bool) (r : List Bool) (t : Nat) : Value := match m with | true => .bytes (bytesN (bodyN r)) t | false => .str ⟨(bodyN r).toArray⟩ t
def emptyV (m : Bool) (t : Nat) : Value := match m with | true => .bytes #[] t | false => .str ⟨#[]⟩ t
theorem joinS_path : ∀ r ∈ rows3, (Txt.join ⟨#[47]⟩ ((r.map some).map pieceS)).cps.toList = bodyN r := by decide +kernel
theorem joinB_path : ∀ r ∈ rows3, (Builtin.Bytes.joined #[47] ((r.map some).map pieceB)).toList = (bytesN (bodyN r)).toList := by decide +kernel
theorem joinS_room : ∀ r ∈ rows3, (((r.map some).map pieceS).map (·.length)).sum + ((r.map some).map pieceS).length ≤ 10 := by decide +kernel
theorem joinB_room : ∀ r ∈ rows3, (((r.map some).map pieceB).toArray.foldl (fun x1 x2 => x1 + x2.size) (1 * (((r.map some).map pieceB).toArray.size - 1))) ≤ 1000 := by decide +kernel
theorem joinB_size : ∀ r ∈ rows3, (Builtin.Bytes.joined #[47] ((r.map some).map pieceB)).size ≤ 1000 := by decide +kernel
theorem addB_path : ∀ f : Bool, ∀ r ∈ rows3, ((if f then #[47] else #[]) ++ bytesN (bodyN r)).toList = (pathB f r).toList := by decide +kernel
theorem Pcs.strs {vs ps} (s : Pcs false vs ps) : StrsAre vs (ps.map pieceS) := by
  induction s with
  | nil => exact .nil
  | cons _ ih => exact .cons _ _ ih
theorem Pcs.byts {vs ps} (s : Pcs true vs ps) : Byts vs (ps.map pieceB) := by
  induction s with
  | nil => exact .nil
  | cons _ ih => exact .cons ih
section
variable {prog : Program} {w : World} {A : Around} {X : Value → Shared → Prop} {g : Array GenState} {d : Drawn} {t : Nat} {o : OsState} {h h₀ : Heap} {mg mb : Str → Option Value} {N N' N'' : List (Addr × Fact)} {m f : Bool} {tx ty : Nat} {r : List Bool} {env : Env}
theorem compGoS_of {cl : List (Str × Addr)} {scope : Scope} {elt : Expr} {gs : List Comprehension} {tg it0 : Expr} {ifs : List Expr} {pos : Pos} {use : Option (Value → Sem Unit)} {Q : Value → Shared → Prop} {I : Addr} {f : Fact}
    (D : St mg mb h₀ N h) (hm : (I, f) ∈ N) (hi : f.iter)
    (hq : ∀ C Dl h' t', St mg mb h₀ ((C, .ns []) :: (Dl, .obj (set0 (!byTx w))) :: N) h' → codeAny (model prog w) A (.compLoop (.SetComp elt (⟨tg, it0, ifs, 0⟩ :: gs) scope pos) 0 (.ref I) (.ref Dl) (compEnvC scope cl C env)) (compPost (model prog w) A X use Q (.ref Dl) C) ⟨h', g, d, t', o⟩)
    (hcell : ∀ y ∈ scope.names, y.2 ≠ .cell := by decide) (hkind : scope.kind = .function := by rfl) :
    CompGoS prog w A X env cl scope (.SetComp elt (⟨tg, it0, ifs, 0⟩ :: gs) scope pos) use Q (.ref I) ⟨h, g, d, t, o⟩ := by
  unfold CompGoS newSet
  refine wpAny_bind (wpAny_bind (wpAny_askSetting (wpAny_pure ?_)))
  have e : (Setting.params ⟨(model prog w).prog, (model prog w).w.params⟩).followText "set-order" = byTx w := rfl
  rw [e]
  refine wpAny_newObj_type ?_
  have D₁ : St mg mb h₀ ((h.objs.size, .obj (set0 (!byTx w))) :: N) (h.push (set0 (!byTx w))) := D.push rfl rfl
  refine wpAny_newFunctionEnv hcell (by intro y hy; simp at hy) (fun h₂ hns₂ hsb₂ => ?_) hkind
  have k : Ext (h.push (set0 (!byTx w))) h₂ := fun b ob e => hsb₂.extBut b ob (Nat.ne_of_lt (Heap.lt_size e)) (Heap.get?_push_of_some _ e)
  have D₂ : St mg mb h₀ (((h.push (set0 (!byTx w))).objs.size, .ns []) :: (h.objs.size, .obj (set0 (!byTx w))) :: N) h₂ := D₁.add k (ns_at hns₂ fun _ _ e => nomatch e) (Nat.le_refl _)
  exact cstartS (D₂.get (.tail _ (.tail _ hm))) hi (hq _ _ _ _ D₂)
/-- one name from a set of one truth value -/
theorem as_set {a : Addr} {b : Bool} {n : Nat} {xi : Str} {pi pt : Pos} {k : Nat} {Q : Unit → Shared → Prop} (hh : A.handled = none) (D : St mg mb h₀ N h) (hm : (a, Fact.obj (set1 b (!byTx w) n)) ∈ N)
    (hQ : ∀ h', St mg mb h₀ N h' → wpAny (model prog w) A (storeName env xi (.bool b)) (fun _ s₁ => Q () s₁) X ⟨h', g, d, t, o⟩) :
    wpAny (model prog w) A (assign (.Tuple [.Name xi pi] k pt) env (.ref a)) Q X ⟨h, g, d, t, o⟩ := by
  rw [arm_assign_Tuple]
  refine wpAny_bind (wpAny_standAt ?_)
  unfold unpack
  show wpAny _ _ (holding [.ref a] (unpackItems (.ref a) 1 none) >>= fun items => assignInOrder [assign (.Name xi pi) env] items) _ _ _
  refine wpAny_bind (wpAny_holding ?_)
  unfold unpackItems notIterableAtAll
  obtain ⟨ob, ho, rfl⟩ := D.get hm
  refine wpAny_bind (wpAny_bind (wpAny_specialOf (T := "set") (s := ⟨h, g, d, t, o⟩) ⟨_, ho, rfl⟩ F.slot_set_iter.lookup ?_))
  refine wpAny_pure ?_
  simp only [Bool.false_eq_true, if_false]
  refine wpAny_bind (wpAny_holding (pi_set D hm fun I h' D => ?_))
  refine wpAny_bind (wpAny_holding ?_)
  unfold draw
  refine wpAny_bind (pn_set D (.tail _ hm) .head fun h' D => ?_)
  refine wpAny_bind (wpAny_holding ?_)
  unfold draw
  refine wpAny_pure (wpAny_pure ?_)
  rw [if_neg (by simp)]
  refine wpAny_bind (wpAny_holding (pn_set_end hh D (.tail _ hm) (.head _) .head fun h' D => ?_))
  rw [if_neg (by decide)]
  refine wpAny_pure ?_
  show wpAny _ _ (do holding [] (assign (.Name xi pi) env (.bool b)); pure ()) _ _ _
  exact wpAny_bind (wpAny_holding (wpAny_assign_Name (wpAny_mono (hQ h' D) (fun _ s₁ h₁ => wpAny_pure h₁) fun _ _ e => e)))
theorem gm_join {pl : Sem Bool} {s : Shared} {Q : Value × List Value → Shared → Prop} (hQ : Q (.builtin (bif m then "bytes.join" else "str.join"), [sepV m tx]) s) : wpAny (model prog w) A (getMethod (sepV m tx) "join" pl) Q X s := by
  cases m with
  | true =>
    have hQ : Q (.builtin "bytes.join", [.bytes #[47] tx]) s := hQ
    show wpAny _ _ (getMethod (.bytes #[47] tx) _ _) _ _ _
    exact getMethod_builtin (T := "bytes") (name := "join") (id := "bytes.join") (typeIs_bytes _ _ _) FB.plainAttrs_bytes slot_b_join type_b_join (fun _ e => nomatch e) hQ
  | false =>
    have hQ : Q (.builtin "str.join", [.str ⟨#[47]⟩ tx]) s := hQ
    show wpAny _ _ (getMethod (.str ⟨#[47]⟩ tx) _ _) _ _ _
    with_reducible exact GM.join hQ
theorem r_b_join1 {a : Addr} {b : Array UInt8} {u : Nat} {Q : Value → Shared → Prop} (hl : (Fact.lst [.bytes b u]).at h a) (hQ : Q (.bytes b u) ⟨h, g, d, t, o⟩) : wpAny (model prog w) A (call (.builtin "bytes.join") [.bytes #[47] tx, .ref a]) Q X ⟨h, g, d, t, o⟩ := by
  refine wpAny_call_entry slot_b_join (typeIs_bytes _ _ _) entry_b_join ?_ (args_b_join _ _)
  obtain ⟨⟨c, di, dt, sl⟩, ho, hc, hdi, hsl, n, hd⟩ := hl
  dsimp only at hc hdi hsl hd
  subst hc hdi hsl hd
  repeat wp_step
  exact ⟨_, rfl, hQ⟩
theorem r_join {a : Addr} {vs : List Value} {Q : Value → Shared → Prop} (hl : (Fact.lst vs).at h a) (hv : Pcs m vs (r.map some)) (hr : r.length ≤ 3) (hQ : ∀ t t', Q (bodyV m r t) ⟨h, g, d, t', o⟩) :
    wpAny (model prog w) A (call (.builtin (bif m then "bytes.join" else "str.join")) [sepV m tx, .ref a]) Q X ⟨h, g, d, t, o⟩ := by
  have hm := mem_rows3 hr
  cases m with
  | true =>
    by_cases h1 : r.length = 1
    · obtain ⟨c, rfl⟩ := List.length_eq_one_iff.mp h1
      cases hv with
      | cons hv' =>
        cases hv'
        refine r_b_join1 hl ?_
        cases c <;> exact hQ _ _
    · show wpAny _ _ (call (.builtin "bytes.join") [.bytes #[47] tx, .ref a]) _ _ _
      have e : Builtin.Bytes.joined #[47] ((r.map some).map pieceB) = bytesN (bodyN r) := bytes_eq_iff.mp (joinB_path r hm)
      refine r_b_join hl hv.byts (by rw [List.length_map, List.length_map]; exact h1) (joinB_room r hm) (joinB_size r hm) fun t t' => ?_
      rw [e]; exact hQ t t'
  | false =>
    show wpAny _ _ (call (.builtin "str.join") [.str ⟨#[47]⟩ tx, .ref a]) _ _ _
    refine join_listW (s := ⟨h, g, d, t, o⟩) hl.isList hv.strs (by decide) (Nat.le_trans (joinS_room r hm) (by decide)) fun t t' => ?_
    have e : Txt.join ⟨#[47]⟩ ((r.map some).map pieceS) = ⟨(bodyN r).toArray⟩ := str_of_list (joinS_path r hm)
    rw [e]; exact hQ t t'
theorem t_sep0 {value slice : Expr} {u : Nat} {a : Addr} {Q : Value → Shared → Prop} (D : St mg mb h₀ N h) (hm : (a, Fact.obj (sliceObj .none (.int 0 u))) ∈ N) (hQ : ∀ t t', Q (emptyV m t) ⟨h, g, d, t', o⟩)
    (hs : ∀ v : Value, subscripted slice false v (.ref a) = operate [.ref a, v] (getItem v (.ref a)) := by intro _; with_unfolding_all rfl) :
    wpAny (model prog w) A (subscriptTail value slice (sepV m tx) (.ref a)) Q X ⟨h, g, d, t, o⟩ := by
  cases m with
  | true =>
    refine t_b_slice D hm (fun t t' => ?_) (by rw [sizeLine_eq]; show 1 ≤ 16777216; decide) (hs _)
    have e : KBy.picked #[47] none (some 0) = #[] := bytes_eq_iff.mp (by decide +kernel)
    rw [e]; exact hQ t t'
  | false =>
    refine t_str_slice D hm (fun t t' => ?_) (by rw [sizeLine_eq]; show 1 ≤ 16777216; decide) (hs _)
    have e : Txt.slice ⟨#[47]⟩ none (some 0) = ⟨#[]⟩ := str_of_list (l := []) (by decide +kernel)
    rw [e]; exact hQ t t'
theorem r_add_str {x y : Str} {Q : Value → Shared → Prop} (hz : (x ++ y).length ≤ 1000) (hQ : ∀ t t', Q (.str (x ++ y) t) ⟨h, g, d, t', o⟩) : wpAny (model prog w) A (binaryOp .Add (.str x tx) (.str y ty)) Q X ⟨h, g, d, t, o⟩ := by
  refine P.add_str ?_
  by_cases h0 : x.length = 0
  · rw [if_pos (beq_iff_eq.mpr h0)]
    have e : x ++ y = y := by
      obtain ⟨⟨l⟩⟩ := x; obtain ⟨⟨l'⟩⟩ := y
      have : l = [] := List.length_eq_zero_iff.mp h0
      subst this; show (⟨#[] ++ l'.toArray⟩ : Str) = _; rw [Array.empty_append]
    have := hQ ty t; rw [e] at this; exact this
  · rw [if_neg (by simpa using h0)]
    by_cases h1 : y.length = 0
    · rw [if_pos (beq_iff_eq.mpr h1)]
      have e : x ++ y = x := by
        obtain ⟨⟨l⟩⟩ := x; obtain ⟨⟨l'⟩⟩ := y
        have : l' = [] := List.length_eq_zero_iff.mp h1
        subst this; show (⟨l.toArray ++ #[]⟩ : Str) = _; rw [Array.append_empty]
      have := hQ tx t; rw [e] at this; exact this
    · rw [if_neg (by simpa using h1)]
      exact ⟨by rw [sizeLine_eq]; omega, hQ _ _⟩
theorem r_add_node {Q : Value → Shared → Prop} (hr : r.length ≤ 3) (hQ : ∀ t t', Q (node m f r t) ⟨h, g, d, t', o⟩) : wpAny (model prog w) A (binaryOp .Add (bif f then sepV m tx else emptyV m tx) (bodyV m r ty)) Q X ⟨h, g, d, t, o⟩ := by
  have hm := mem_rows3 hr
  have hl := path_len f r hm
  cases m with
  | true =>
    have e := bytes_eq_iff.mp (addB_path f r hm)
    cases f with
    | true =>
      refine KBy.add_bytes (b := #[47]) (c := bytesN (bodyN r)) ?_ fun t t' => ?_
      · unfold pathN at hl; unfold bytesN; simp at hl ⊢; omega
      · have : (#[47] : Array UInt8) ++ bytesN (bodyN r) = pathB true r := e
        rw [this]; exact hQ t t'
    | false =>
      refine KBy.add_bytes (b := #[]) (c := bytesN (bodyN r)) ?_ fun t t' => ?_
      · unfold pathN at hl; unfold bytesN; simp at hl ⊢; omega
      · have : (#[] : Array UInt8) ++ bytesN (bodyN r) = pathB false r := e
        rw [this]; exact hQ t t'
  | false =>
    cases f with
    | true =>
      have e : (⟨#[47]⟩ : Str) ++ ⟨(bodyN r).toArray⟩ = pathS true r := by
        show (⟨#[47] ++ (bodyN r).toArray⟩ : Str) = ⟨([47] ++ bodyN r).toArray⟩
        rw [List.append_toArray]
      refine r_add_str (x := ⟨#[47]⟩) (y := ⟨(bodyN r).toArray⟩) ?_ fun t t' => ?_
      · rw [e]; have := pathS_len (f := true) hr; omega
      · rw [e]; exact hQ t t'
    | false =>
      have e : (⟨#[]⟩ : Str) ++ ⟨(bodyN r).toArray⟩ = pathS false r := by
        show (⟨#[] ++ (bodyN r).toArray⟩ : Str) = ⟨([] ++ bodyN r).toArray⟩
        rw [Array.empty_append]; rfl
      refine r_add_str (x := ⟨#[]⟩) (y := ⟨(bodyN r).toArray⟩) ?_ fun t t' => ?_
      · rw [e]; have := pathS_len (f := false) hr; omega
      · rw [e]; exact hQ t t'
end
end Mine

end
section
open PySem PySem.Calls PySem.W PyProof.Rows
set_option maxRecDepth 100000
set_option maxHeartbeats 1000000
namespace Mine
section
variable {prog : Program} {w : World} {A : Around} {X : Value → Shared → Prop} {g : Array GenState} {d : Drawn} {o : OsState} {h₀ : Heap} {mg mb : Str → Option Value} {m f : Bool}
theorem compT_filter {E : Value → Shared → Prop} {cenv : Env} {x : Str} {px px' : Pos} {test : Expr} {C Dl I b : Addr} {N : List (Addr × Fact)} {vs : List Value} {ps : List (Option Bool)} {Q : Shared → Prop} (hh : A.handled = none)
    (hL : cenv.locals = C) (hk : cenv.scope.kind = .function) (hl : cenv.kindOf x = some .local) (hd : (x == ("__debug__" : Str)) = false) (hb : (b, Fact.lst vs) ∈ N) (pv : Pcs m vs ps) (hz : vs.length ≤ 100)
    (htest : ∀ (p : Option Bool) (tk : Nat) (h' : Heap) (t' : Nat) (E' : List (Str × Value)) (acc : List Value) (k : Nat) (Q' : Bool → Shared → Prop), St mg mb h₀ ((C, .ns ((x, pc m p tk) :: E')) :: (Dl, .lst acc) :: (I, .li b k) :: N) h' → (∀ t'', Q' (decide (p ≠ none)) ⟨h', g, d, t'', o⟩) →
      wpAny (model prog w) A (isTrue test cenv (eval test cenv)) Q' E ⟨h', g, d, t', o⟩) :
    ∀ (n k : Nat) (E' : List (Str × Value)) (acc : List Value) (accp : List (Option Bool)) (h : Heap) (t : Nat), St mg mb h₀ ((C, .ns E') :: (Dl, .lst acc) :: (I, .li b k) :: N) h → Pcs m acc accp → acc.length ≤ k → vs.length = k + n →
    (∀ h' t' E' acc', St mg mb h₀ ((C, .ns E') :: (Dl, .lst acc') :: N) h' → Pcs m acc' (accp ++ (ps.drop k).filter (fun p => decide (p ≠ none))) → Q ⟨h', g, d, t', o⟩) →
    CompT prog w A E cenv (.Name x px) [test] (.ref I) (emitL (.Name x px') (.ref Dl) cenv) Q n ⟨h, g, d, t, o⟩ := by
  intro n
  induction n with
  | zero =>
    intro k E' acc accp h t D pa hle hlen hQ
    refine pn_list_end hh D (.tail _ (.tail _ (.head _))) (D.get (.tail _ (.tail _ (.tail _ hb)))) (by omega) (.tail (.tail .head)) fun h' D => ?_
    refine hQ _ _ _ _ D ?_
    rw [List.drop_eq_nil_of_le (by rw [← pv.len]; omega), List.filter_nil, List.append_nil]
    exact pa
  | succ n ih =>
    intro k E' acc accp h t D pa hle hlen hQ
    have hk1 : k < ps.length := by rw [← pv.len]; omega
    obtain ⟨tk, ek⟩ := pv.get k _ (List.getElem?_eq_getElem hk1)
    refine pn_list D (.tail (.tail .head)) (D.get (.tail _ (.tail _ (.tail _ hb)))) ek fun h' D => ?_
    show wpAny _ _ (letOwnedTupleGo _ _ _) _ _ _
    refine wpAny_pure (wpAny_assign_Name (r_st D .head (fun h' t' D => ?_) hL hk hl))
    refine wpAny_tests_one (htest ps[k] tk h' t' E' acc (k + 1) _ D fun t'' => ?_)
    have e : ps.drop k = ps[k] :: ps.drop (k + 1) := List.drop_eq_getElem_cons hk1
    rw [e, List.filter_cons] at hQ
    cases hp : decide (ps[k] ≠ none) with
    | true =>
      rw [hp, if_pos rfl] at hQ
      rw [if_pos rfl]
      refine wp_emitL (r_local D (.head _) (by rw [List.lookup_cons, beq_self_eq_true]) ?_ hL hk hl hd)
      refine r_append D (.tail .head) (fun h' D => ?_) (by rw [sizeLine_eq]; omega)
      refine ih (k + 1) _ _ (accp ++ [ps[k]]) _ _ D pa.snoc (by rw [List.length_append, List.length_singleton]; omega) (by omega) fun h' t' E' acc' D' pa' => hQ h' t' E' acc' D' ?_
      rw [List.append_assoc] at pa'
      exact pa'
    | false =>
      rw [hp, if_neg Bool.false_ne_true] at hQ
      rw [if_neg Bool.false_ne_true]
      exact ih (k + 1) _ _ accp _ _ D pa (by omega) (by omega) hQ
theorem filter_pieces : ∀ f : Bool, ∀ r ∈ rows3, (piecesF f r).filter (fun p => decide (p ≠ none)) = r.map some := by decide +kernel
end
end Mine
namespace Mine
theorem minmax_rows : ∀ r0 ∈ rows3, ∀ r1 ∈ rows3, cpF (bif ltF r1 r0 then r1 else r0) (bif gtF r1 r0 then r1 else r0) = cpF r0 r1 ∧
    (cpF r0 r1 = (bif ltF r1 r0 then r1 else r0) ∨ ((cpF r0 r1).length < (bif gtF r1 r0 then r1 else r0).length)) := by decide +kernel
theorem cpF_nil (r : List Bool) : cpF r [] = [] := by cases r <;> rfl
theorem cpF_nil' (r : List Bool) : cpF [] r = [] := rfl
end Mine

end
section
open PySem PySem.Calls PySem.W PyProof.Rows
set_option maxRecDepth 100000
set_option maxHeartbeats 4000000
namespace Mine
local macro_rules | `(tactic| walk_at "mem") => `(tactic| first | exact List.Mem.head _ | (refine List.Mem.tail _ ?_; walk_at "mem"))
local macro_rules | `(tactic| walk_at "upd") => `(tactic| first | exact Upd.head | (apply Upd.tail; walk_at "upd"))
local macro_rules | `(tactic| walk_at "del") => `(tactic| first | exact Del.head | (apply Del.tail; walk_at "del"))
local macro_rules | `(tactic| walk_at "sees") => `(tactic| first | exact Sees.nil | (refine Sees.cons (by rfl) ?_; walk_at "sees"))
local macro_rules | `(tactic| walk_at "subl") => `(tactic| first | exact List.Sublist.slnil | (refine List.Sublist.cons_cons _ ?_; walk_at "subl") | (refine List.Sublist.cons _ ?_; walk_at "subl"))
local macro_rules | `(tactic| walk_at "fact") => `(tactic| first | exact St.get (by assumption) (by walk_at "mem") | exact St.oldf (by assumption) (by assumption) | assumption)
local macro_rules | `(tactic| walk_at "xname") => `(tactic| first
  | refine r_local (by assumption) (by walk_at "mem") (by rfl) ?_
  | refine r_blt (by assumption) (by rfl) ?_
  | refine r_cell (by assumption) (by rfl) (by walk_at "mem") ?_
  | refine r_glob (by assumption) (by first | assumption | exact FnAt.g (by assumption)) ?_)
local macro_rules | `(tactic| walk_at "xconst") => `(tactic| first
  | refine r_int fun _ _ => ?_
  | refine r_str fun _ _ => ?_
  | refine r_bytes fun _ _ => ?_
  | refine wpAny_Constant_bool ?_
  | refine wpAny_Constant_none ?_)
local macro_rules | `(tactic| walk_at "xeval") => `(tactic| first
  | ((with_reducible show wpAny _ _ (eval (Expr.Name _ _) _) _ _ _); walk_at "xname")
  | ((with_reducible show wpAny _ _ (eval (Expr.Constant _ _ _) _) _ _ _); walk_at "xconst")
  | ((with_reducible show wpAny _ _ (eval (Expr.Call (Expr.Attribute _ _ _) _ _ _) _) _ _ _); refine MethodCall_ ?_)
  | ((with_reducible show wpAny _ _ (eval (Expr.Call _ _ _ _) _) _ _ _); refine Call_ ?_)
  | with_reducible refine wpAny_BinOp ?_
  | ((with_reducible show wpAny _ _ (eval (Expr.Compare _ [_] [_] _) _) _ _ _); refine wpAny_Compare1 ?_)
  | ((with_reducible show wpAny _ _ (eval (Expr.Subscript _ _ _) _) _ _ _); refine Subscript_ ?_)
  | ((with_reducible show wpAny _ _ (eval (Expr.Slice none (some _) none _) _) _ _ _); refine e_slice_nu ?_)
  | ((with_reducible show wpAny _ _ (eval (Expr.IfExp _ _ _ _) _) _ _ _); refine wpAny_IfExp ?_)
  | ((with_reducible show wpAny _ _ (eval (Expr.Tuple _ _ _) _) _ _ _); refine Tuple_ ?_)
  | ((with_reducible show wpAny _ _ (eval (Expr.List _ _) _) _ _ _); refine List_ ?_)
  | ((with_reducible show wpAny _ _ (eval (Expr.UnaryOp _ _ _) _) _ _ _); refine wpAny_UnaryOp ?_))
local macro_rules | `(tactic| walk_at "xexec") => `(tactic| first
  | ((with_reducible show wpAny _ _ (exec (Stmt.Assign [Expr.Name _ _] _ _) _) _ _ _); refine wpAny_Assign_Name ?_)
  | ((with_reducible show wpAny _ _ (exec (Stmt.If _ _ _ _) _) _ _ _); refine wpAny_If ?_)
  | ((with_reducible show wpAny _ _ (exec (Stmt.Return (some _) _) _) _ _ _); refine wpAny_Return_some ?_)
  | ((with_reducible show wpAny _ _ (exec (Stmt.Break _) _) _ _ _); refine wpAny_Break ?_)
  | ((with_reducible show wpAny _ _ (exec (Stmt.Expr _ _) _) _ _ _); refine wpAny_Expr ?_)
  | ((with_reducible show wpAny _ _ (exec (Stmt.For _ _ _ _ _) _) _ _ _); refine r_For ?_)
  | ((with_reducible show wpAny _ _ (exec (Stmt.While _ _ _ _) _) _ _ _); refine r_While ?_)
  | ((with_reducible show wpAny _ _ (exec (Stmt.AugAssign (Expr.Name _ _) _ _ _) _) _ _ _); refine wpAny_AugAssign_Name ?_))
local macro_rules | `(tactic| walk_at "xtrue") => `(tactic| first
  | ((with_reducible show wpAny _ _ (isTrue (Expr.Compare _ [_] [_] _) _ _) _ _ _); refine wpAny_isTrue_Compare1 ?_)
  | ((with_reducible show wpAny _ _ (isTrue (Expr.BoolOp _ _ _) _ _) _ _ _); refine wpAny_isTrue_BoolOp ?_)
  | ((with_reducible show wpAny _ _ (isTrue (Expr.UnaryOp UnaryOp.Not _ _) _ _) _ _ _); refine wpAny_isTrue_Not ?_)
  | ((with_reducible show wpAny _ _ (isTrue (Expr.Call _ _ _ _) _ _) _ _ _); refine wpAny_isTrue_value ?_)
  | ((with_reducible show wpAny _ _ (isTrue (Expr.Name _ _) _ _) _ _ _); refine wpAny_isTrue_value ?_))
local macro_rules | `(tactic| walk_at "xcall") => `(tactic| first
  | ((with_reducible show wpAny _ _ (call (Value.type "range") [Value.int _ _]) _ _ _); refine r_range (by assumption) ?_; intro _ _ _ _ _ _)
  | ((with_reducible show wpAny _ _ (call (Value.builtin "list.append") [_, _]) _ _ _); refine r_append (by assumption) (by walk_at "upd") ?_; intro _ _)
  | ((with_reducible show wpAny _ _ (call (Value.builtin "len") [Value.ref _]) _ _ _); refine r_len_list (by walk_at "fact") (by first | assumption | decide | omega) ?_; intro _ _)
  | ((with_reducible show wpAny _ _ (call (Value.type "type") [Value.str _ _]) _ _ _); refine call_type_of (Tx := "str") rfl (by decide) ?_)
  | ((with_reducible show wpAny _ _ (call (Value.type "type") [Value.bytes _ _]) _ _ _); refine call_type_of (Tx := "bytes") rfl (by decide) ?_)
  | ((with_reducible show wpAny _ _ (call (Value.builtin "issubclass") [Value.type "str", _]) _ _ _); refine r_issub_str (by assumption) (by walk_at "mem") ?_)
  | ((with_reducible show wpAny _ _ (call (Value.builtin "issubclass") [Value.type "bytes", _]) _ _ _); refine r_issub_bytes (by assumption) (by walk_at "mem") ?_)
  | ((with_reducible show wpAny _ _ (call (Value.builtin "isinstance") [Value.str _ _, Value.type "bytes"]) _ _ _); refine IsiPair.str_bytes ?_)
  | ((with_reducible show wpAny _ _ (call (Value.builtin "isinstance") [Value.bytes _ _, Value.type "bytes"]) _ _ _); refine call_isinstance_yes (typeIs_bytes _ _ _) F.isi_meta_bytes F.isi_self_bytes ?_))
local macro_rules | `(tactic| walk_at "xop") => `(tactic| first
  | ((with_reducible show wpAny _ _ (binaryOp Operator.Add (Value.int _ _) (Value.int _ _)) _ _ _); refine r_add ?_; intro _ _)
  | ((with_reducible show wpAny _ _ (binaryOp Operator.Sub (Value.int _ _) (Value.int _ _)) _ _ _); refine r_sub ?_; intro _ _)
  | ((with_reducible show wpAny _ _ (binaryOp Operator.Mod (Value.int _ _) (Value.int _ _)) _ _ _); refine r_mod (by decide) ?_; intro _ _)
  | ((with_reducible show wpAny _ _ (binaryOp Operator.Mult (Value.int _ _) (Value.int _ _)) _ _ _); refine r_mul ?_; intro _ _)
  | ((with_reducible show wpAny _ _ (binaryOp Operator.FloorDiv (Value.int _ _) (Value.int _ _)) _ _ _); refine r_fdiv (by decide) (PyProof.noPylong_small (by decide)) ?_; intro _ _)
  | ((with_reducible show wpAny _ _ (binaryOp Operator.BitAnd (Value.int _ _) (Value.int _ _)) _ _ _); refine r_and ?_; intro _ _))
local macro_rules | `(tactic| walk_at "xcmp") => `(tactic| first
  | ((with_reducible show wpAny _ _ (compareOp CmpOp.Eq (Value.int _ _) (Value.int _ _)) _ _ _); refine r_eq ?_)
  | ((with_reducible show wpAny _ _ (compareOp CmpOp.NotEq (Value.int _ _) (Value.int _ _)) _ _ _); refine r_ne ?_)
  | ((with_reducible show wpAny _ _ (compareOp CmpOp.Lt (Value.int _ _) (Value.int _ _)) _ _ _); refine r_lt ?_))
local macro_rules | `(tactic| walk_at "x1") => `(tactic| first
  | ((with_reducible show wpAny _ _ (eval _ _) _ _ _); walk_at "xeval")
  | ((with_reducible show wpAny _ _ (spliced _) _ _ _); first
    | ((with_reducible show wpAny _ _ (spliced (backTo _ (starEach [] _))) _ _ _); refine args_nil ?_; (try simp only [List.nil_append, List.cons_append]))
    | ((with_reducible show wpAny _ _ (spliced (backTo _ (starEach (_ :: _) _))) _ _ _); refine args_cons ?_))
  | ((with_reducible show wpAny _ _ (callWith _ _ _ _ _) _ _ _); first
    | ((with_reducible show wpAny _ _ (callWith _ (Value.builtin _) _ _ _) _ _ _); refine cw_blt ?_)
    | ((with_reducible show wpAny _ _ (callWith _ (Value.ref _) _ _ _) _ _ _); refine cw_fn ?_)
    | ((with_reducible show wpAny _ _ (callWith _ (Value.type _) _ _ _) _ _ _); refine cw_type ?_))
  | ((with_reducible show wpAny _ _ (execs _ _) _ _ _); first
    | ((with_reducible show wpAny _ _ (execs (_ :: _) _) _ _ _); refine wpAny_execs_cons ?_)
    | ((with_reducible show wpAny _ _ (execs [] _) _ _ _); refine wpAny_execs_nil ?_))
  | ((with_reducible show wpAny _ _ (exec _ _) _ _ _); walk_at "xexec")
  | ((with_reducible show wpAny _ _ (storeName _ _ _) _ _ _); first | (refine r_st (by assumption) (by walk_at "upd") ?_; intro _ _ _) | (refine r_stc (by assumption) (by rfl) (by walk_at "upd") ?_; intro _ _ _))
  | ((with_reducible show wpAny _ _ (isTrue _ _ _) _ _ _); walk_at "xtrue")
  | ((with_reducible show wpAny _ _ (truthy (Value.bool _)) _ _ _); refine wpAny_truthy_bool ?_)
  | ((with_reducible show wpAny _ _ (call _ _ _) _ _ _); walk_at "xcall")
  | ((with_reducible show wpAny _ _ (binaryOp _ _ _) _ _ _); walk_at "xop")
  | ((with_reducible show wpAny _ _ (compareOp _ _ _) _ _ _); walk_at "xcmp")
  | ((with_reducible show wpAny _ _ (subscriptTail _ _ (Value.ref _) (Value.int _ _)) _ _ _); refine t_list_item (by walk_at "fact") (by decide) (by decide) (by rfl) ?_)
  | ((with_reducible show wpAny _ _ (inplaceOp Operator.Add (Value.int _ _) (Value.int _ _)) _ _ _); refine r_iadd ?_; intro _ _)
  | ((with_reducible show wpAny _ _ (loadName _ _) _ _ _); first
    | refine r_localN (by assumption) (by walk_at "mem") (by rfl) ?_
    | refine r_cellN (by assumption) (by rfl) (by walk_at "mem") ?_)
  | ((with_reducible show wpAny _ _ (forIn [] _ _) _ _ _); refine wpAny_tests_nil ?_)
  | ((with_reducible show wpAny _ _ (forIn [_] _ _) _ _ _); refine wpAny_tests_one ?_)
  | ((with_reducible show wpAny _ _ (emitL _ _ _) _ _ _); refine wp_emitL ?_)
  | ((with_reducible show wpAny _ _ (emitS _ _ _) _ _ _); refine wp_emitS ?_)
  | ((with_reducible show wpAny _ _ (assign (Expr.Name _ _) _ _) _ _ _); refine wpAny_assign_Name ?_)
  | ((with_reducible show wpAny _ _ (getMethod (Value.ref _) _ _) _ _ _); (with_reducible refine gm_append ?_ ?_); (· exact ⟨_, by walk_at "fact"⟩))
  | ((with_reducible show wpAny _ _ (letOwnedTupleGo (Expr.Name _ _) _ _) _ _ _); refine wpAny_pure ?_)
  | ((with_reducible show wpAny _ _ (newTuple _) _ _ _); refine r_newTuple (by assumption) ?_; intro _ _ _)
  | ((with_reducible show wpAny _ _ (newList _) _ _ _); refine r_newList (by assumption) ?_; intro _ _ _)
  | ((with_reducible show wpAny _ _ (newFields "slice" [_, _, Value.none]) _ _ _); refine r_newSlice (by assumption) ?_; intro _ _ _)
  | ((with_reducible show wpAny _ _ (allTrue _ _ _) _ _ _); first
    | ((with_reducible show wpAny _ _ (allTrue BoolOp.And (_ :: _) _) _ _ _); refine wpAny_allTrue_And_cons ?_)
    | ((with_reducible show wpAny _ _ (allTrue BoolOp.Or (_ :: _) _) _ _ _); refine wpAny_allTrue_Or_cons ?_)
    | refine wpAny_allTrue_And_nil ?_ | refine wpAny_allTrue_Or_nil ?_)
  | ((with_reducible show ite _ _ _); (first | rw [if_pos rfl] | rw [if_neg Bool.false_ne_true])))
section
variable {prog : Program} {w : World} {A : Around} {X : Value → Shared → Prop} {g : Array GenState} {d : Drawn} {t : Nat} {o : OsState} {h h₀ : Heap} {mg mb : Str → Option Value} {N N' N'' : List (Addr × Fact)} {m f : Bool} {env : Env}
theorem node_tx {r : List Bool} {t : Nat} : IsTx (node m f r t) := by cases m <;> constructor
theorem commonpath_node {a pa fa : Addr} {r0 r1 : List Bool} {t0 t1 : Nat} {Q : Value → Shared → Prop} (hh : A.handled = none) (hu : A.units + 200 < cLine) (W : Wd mg mb h) (Fc : Fn mg h "commonpath" 15 a) (F1 : Fn mg h "fspath" 9 fa) (hR : A.depth + 2 < recursionLimit)
    (hl : (Fact.lst [node m f r0 t0, node m f r1 t1]).at h pa) (h0 : r0.length ≤ 3) (h1 : r1.length ≤ 3) (hQ : ∀ h' t' tk, Ext h h' → Q (node m f (cpF r0 r1) tk) ⟨h', g, d, t', o⟩) : wpAny (model prog w) A (call (.ref a) [.ref pa]) Q X ⟨h, g, d, t, o⟩ := by
  refine fcallC (p := "paths") (v := .ref pa) (fun L => [("curdir", L + 1 + 1), ("sep", L + 1)]) W Fc (by omega) (fun _ _ _ => by rfl) (by rfl) (fun _ => by rfl) (fun L => by simp; decide) (fun L cd h₁ t₁ D => ?_) rfl rfl rfl
  replace D : St mg mb h [(L + 1 + 1, .cell none), (L + 1, .cell none), (L, .ns [("paths", .ref pa)])] h₁ := D
  generalize L + 1 + 1 = c2 at *
  generalize L + 1 = c1 at *
  refine wpAny_execs_cons ?_
  repeat walk_at "x1"
  refine r_map (vs := [node m f r0 t0, node m f r1 t1]) (by assumption) (by walk_at "fact") fun Mp T I h' D => ?_
  repeat walk_at "x1"
  refine r_tuple_map (vs := [node m f r0 t0, node m f r1 t1]) hh (by show A.depth + 1 < recursionLimit; omega) D F1 hl (fun v hv => by simp at hv; rcases hv with rfl | rfl <;> exact node_tx) (by simp) (.head _) (.tail _ (.head _)) (.tail _ (.tail _ (.head _))) (by walk_at "del")
    (by have := (D.sub (N' := [(Mp, _), (T, _), (I, _)]) (by walk_at "subl")).nd; simpa using this) fun pt h' t' D => ?_
  repeat walk_at "x1"
  refine r_truthy_tup (xs := [node m f r0 t0, node m f r1 t1]) (by walk_at "fact") (by simp) fun _ => ?_
  rw [if_neg (by simp)]
  repeat ((fail_if_success (with_reducible show wpAny _ _ (exec (Stmt.If (Expr.Call _ _ _ _) _ _ _) _) _ _ _)); walk_at "x1")
  refine wpAny_mono (Q := fun f' s' => f' = .next ∧ ∃ h' t' a b, s' = ⟨h', g, d, t', o⟩ ∧ St mg mb h [(pt, .tup [node m f r0 t0, node m f r1 t1]), (c2, .cell (some (curV m a))), (c1, .cell (some (sepV m b))), (L, .ns [("paths", .ref pt)])] h') ?_ ?_ (fun _ _ e => e)
  · repeat walk_at "x1"
    refine t_tup_item (k := 0) (xs := [node m f r0 t0, node m f r1 t1]) (by walk_at "fact") (by decide) rfl ?_
    repeat walk_at "x1"
    refine r_isi_node fun _ => ?_
    repeat walk_at "x1"
    cases m with
    | true =>
      rw [if_pos rfl]
      repeat walk_at "x1"
      have D := ‹St mg mb h _ _›
      exact ⟨rfl, _, _, _, _, rfl, (D.sub (N' := [(pt, .tup [node true f r0 t0, node true f r1 t1]), (c2, .cell (some (.bytes #[46] _))), (c1, .cell (some (.bytes #[47] _))), (L, .ns _)]) (by walk_at "subl")).see (by walk_at "upd") (by walk_at "sees")⟩
    | false =>
      rw [if_neg Bool.false_ne_true]
      repeat walk_at "x1"
      have D := ‹St mg mb h _ _›
      exact ⟨rfl, _, _, _, _, rfl, (D.sub (N' := [(pt, .tup [node false f r0 t0, node false f r1 t1]), (c2, .cell (some (.str ⟨#[46]⟩ _))), (c1, .cell (some (.str ⟨#[47]⟩ _))), (L, .ns _)]) (by walk_at "subl")).see (by walk_at "upd") (by walk_at "sees")⟩
  · rintro f' s' ⟨rfl, h', t', ta, tb, rfl, D⟩
    show wpAny _ _ (execs _ _) _ _ _
    repeat walk_at "x1"
    refine wpAny_Try_except ?_
    refine wpAny_execs_cons ?_
    refine r_AssignComp (cl := [("sep", c1)]) (by rfl) ?_
    repeat walk_at "x1"
    refine pi_tup D (by walk_at "fact") fun I h' D => ?_
    refine compGo_of D (.head _) trivial fun C Dl h' t' D => ?_
    refine comp1 ⟨2, fun E => ?_⟩
    refine pn_tup D (by walk_at "upd") (by walk_at "fact") rfl fun h' D => ?_
    show wpAny _ _ (letOwnedTupleGo _ _ _) _ _ _
    repeat walk_at "x1"
    with_reducible refine gm_split ?_
    repeat walk_at "x1"
    refine r_split (by assumption) h0 fun b0 vs0 h' t' P0 D => ?_
    repeat walk_at "x1"
    have D := ‹St mg mb h _ _›
    refine pn_tup D (by walk_at "upd") (by walk_at "fact") rfl fun h' D => ?_
    show wpAny _ _ (letOwnedTupleGo _ _ _) _ _ _
    repeat walk_at "x1"
    with_reducible refine gm_split ?_
    repeat walk_at "x1"
    refine r_split (by assumption) h1 fun b1 vs1 h' t' P1 D => ?_
    repeat walk_at "x1"
    have D := ‹St mg mb h _ _›
    refine pn_tup_end hh D (by walk_at "mem") (by walk_at "fact") (Nat.le_refl 2) (by walk_at "del") fun h' D => ?_
    refine cp_some (L := L) (C := C) D (by walk_at "upd") (by walk_at "mem") (by walk_at "del") fun h' t' D => ?_
    have D := (D.sub (N' := [(b1, .lst vs1), (b0, .lst vs0), (Dl, .lst [.ref b0, .ref b1]), (pt, .tup [node m f r0 t0, node m f r1 t1]), (c2, .cell (some (curV m ta))), (c1, .cell (some (sepV m tb))), (L, .ns _)]) (by walk_at "subl"))
    show wpAny _ _ (execs _ _) _ _ _
    repeat walk_at "x1"
    refine wpAny_Try_except ?_
    refine wpAny_execs_cons ?_
    refine PyProof.Rows.Assign_Tuple ?_
    refine r_SetComp (cl := [("sep", c1)]) (by rfl) ?_
    repeat walk_at "x1"
    refine pi_tup D (by walk_at "fact") fun I h' D => ?_
    refine compGoS_of D (.head _) trivial fun C Sl h' t' D => ?_
    refine compS ⟨2, fun E => ?_⟩
    refine pn_tup D (by walk_at "upd") (by walk_at "fact") rfl fun h' D => ?_
    show wpAny _ _ (letOwnedTupleGo _ _ _) _ _ _
    repeat walk_at "x1"
    with_reducible refine gm_startswith ?_
    repeat walk_at "x1"
    refine r_startswith h0 ?_
    repeat walk_at "x1"
    have D := ‹St mg mb h _ _›
    refine set_add1 D (by walk_at "upd") fun h' t' D => ?_
    refine pn_tup D (by walk_at "upd") (by walk_at "fact") rfl fun h' D => ?_
    show wpAny _ _ (letOwnedTupleGo _ _ _) _ _ _
    repeat walk_at "x1"
    with_reducible refine gm_startswith ?_
    repeat walk_at "x1"
    refine r_startswith h1 ?_
    repeat walk_at "x1"
    have D := ‹St mg mb h _ _›
    refine set_add2 D (by walk_at "mem") fun t' => ?_
    refine pn_tup_end hh D (by walk_at "mem") (by walk_at "fact") (Nat.le_refl 2) (by walk_at "del") fun h' D => ?_
    refine cp_none (C := C) D (by walk_at "mem") (by walk_at "del") fun h' D => ?_
    show wpAny _ _ (assign _ _ _) _ _ _
    refine as_set hh D (by walk_at "mem") fun h' D => ?_
    repeat walk_at "x1"
    refine r_AssignComp (cl := [("curdir", c2)]) (by rfl) ?_
    repeat walk_at "x1"
    refine pi_list (xs := [.ref b0, .ref b1]) (by assumption) (by walk_at "fact") fun I h' D => ?_
    refine compGo_of D (.head _) trivial fun C El h' t' D => ?_
    refine comp1 ⟨2, fun E => ?_⟩
    refine pn_list D (by walk_at "upd") (by walk_at "fact") rfl fun h' D => ?_
    show wpAny _ _ (letOwnedTupleGo _ _ _) _ _ _
    repeat walk_at "x1"
    refine r_ListComp (cl := [("curdir", c2)]) (by rfl) ?_
    repeat walk_at "x1"
    refine pi_list (xs := vs0) (by assumption) (by walk_at "fact") fun I2 h' D => ?_
    refine compGo_of D (.head _) trivial fun C2 Dl2 h' t' D => ?_
    refine comp1 ⟨vs0.length, fun E => ?_⟩
    refine compT_filter ?hh ?hL ?hk ?hl ?hd ?hb P0 ?hz ?htest vs0.length 0 [] [] [] _ _ D .nil (Nat.le_refl _) (Nat.zero_add _).symm ?hQ
    case hh => exact hh
    case hL => rfl
    case hk => rfl
    case hl => rfl
    case hd => decide
    case hb => walk_at "mem"
    case hz => rw [P0.len]; exact Nat.le_trans (pieces_len f r0 (mem_rows3 h0)) (by decide)
    case htest =>
      intro p tk h' t' E' acc k Q' D hq
      repeat walk_at "x1"
      refine r_truthy_pc fun _ => ?_
      refine ite_dec (fun hp => ?_) (fun hp => ?_)
      · repeat walk_at "x1"
        refine r_ne_cur ?_
        repeat walk_at "x1"
        have := hq; rw [decide_eq_true hp] at this; exact this _
      · repeat walk_at "x1"
        have := hq; rw [decide_eq_false hp] at this; exact this _
    intro h' t' E' ws0 D W0
    rw [List.nil_append, List.drop_zero, filter_pieces f r0 (mem_rows3 h0)] at W0
    refine cp_none (C := C2) D (by walk_at "mem") (by walk_at "del") fun h' D => ?_
    repeat walk_at "x1"
    have D := ‹St mg mb h _ _›
    refine pn_list D (by walk_at "upd") (by walk_at "fact") rfl fun h' D => ?_
    show wpAny _ _ (letOwnedTupleGo _ _ _) _ _ _
    repeat walk_at "x1"
    refine r_ListComp (cl := [("curdir", c2)]) (by rfl) ?_
    repeat walk_at "x1"
    refine pi_list (xs := vs1) (by assumption) (by walk_at "fact") fun I3 h' D => ?_
    refine compGo_of D (.head _) trivial fun C3 Dl3 h' t' D => ?_
    refine comp1 ⟨vs1.length, fun E => ?_⟩
    refine compT_filter ?hh2 ?hL2 ?hk2 ?hl2 ?hd2 ?hb2 P1 ?hz2 ?htest2 vs1.length 0 [] [] [] _ _ D .nil (Nat.le_refl _) (Nat.zero_add _).symm ?hQ2
    case hh2 => exact hh
    case hL2 => rfl
    case hk2 => rfl
    case hl2 => rfl
    case hd2 => decide
    case hb2 => walk_at "mem"
    case hz2 => rw [P1.len]; exact Nat.le_trans (pieces_len f r1 (mem_rows3 h1)) (by decide)
    case htest2 =>
      intro p tk h' t' E' acc k Q' D hq
      repeat walk_at "x1"
      refine r_truthy_pc fun _ => ?_
      refine ite_dec (fun hp => ?_) (fun hp => ?_)
      · repeat walk_at "x1"
        refine r_ne_cur ?_
        repeat walk_at "x1"
        have := hq; rw [decide_eq_true hp] at this; exact this _
      · repeat walk_at "x1"
        have := hq; rw [decide_eq_false hp] at this; exact this _
    intro h' t' E' ws1 D W1
    rw [List.nil_append, List.drop_zero, filter_pieces f r1 (mem_rows3 h1)] at W1
    refine cp_none (C := C3) D (by walk_at "mem") (by walk_at "del") fun h' D => ?_
    repeat walk_at "x1"
    have D := ‹St mg mb h _ _›
    refine pn_list_end hh D (by walk_at "mem") (by walk_at "fact") (Nat.le_refl 2) (by walk_at "del") fun h' D => ?_
    refine cp_some (L := L) (C := C) D (by walk_at "upd") (by walk_at "mem") (by walk_at "del") fun h' t' D => ?_
    have D := (D.sub (N' := [(Dl3, .lst ws1), (Dl2, .lst ws0), (El, .lst [.ref Dl2, .ref Dl3]), (c2, .cell (some (curV m ta))), (c1, .cell (some (sepV m tb))), (L, .ns _)]) (by walk_at "subl")).see (E' := [("split_paths", .ref El), ("isabs", .bool f)]) (by walk_at "upd") (by walk_at "sees")
    show wpAny _ _ (execs _ _) _ _ _
    repeat walk_at "x1"
    refine r_min_lists hh (by show (A.deeper _).units + 50 < cLine; unfold Around.deeper; dsimp only; omega) D (by walk_at "mem") (by walk_at "mem") (by walk_at "mem") W0 W1 fun h' t' D => ?_
    repeat walk_at "x1"
    refine r_max_lists hh (by show (A.deeper _).units + 50 < cLine; unfold Around.deeper; dsimp only; omega) (by assumption) (by walk_at "mem") (by walk_at "mem") (by walk_at "mem") W0 W1 fun h' t' D => ?_
    repeat ((fail_if_success (with_reducible show wpAny _ _ (exec (Stmt.For _ _ _ _ _) _) _ _ _)); walk_at "x1")
    have D := ‹St mg mb h _ _›
    obtain ⟨hcp, hcp2⟩ := minmax_rows r0 (mem_rows3 h0) r1 (mem_rows3 h1)
    have sel : ∀ (c : Bool) {N : List (Addr × Fact)} {h' : Heap}, St mg mb h N h' → (Dl3, Fact.lst ws1) ∈ N → (Dl2, Fact.lst ws0) ∈ N → (Fact.lst (bif c then ws1 else ws0)).at h' (bif c then Dl3 else Dl2) := by
      intro c N h' D m1 m0; cases c
      · exact D.get m0
      · exact D.get m1
    have selP : ∀ c : Bool, Pcs m (bif c then ws1 else ws0) ((bif c then r1 else r0).map some) := by
      intro c; cases c
      · exact W0
      · exact W1
    generalize hla : ltF r1 r0 = ca at *
    generalize hgb : gtF r1 r0 = cb at *
    refine wpAny_mono (Q := fun f' s' => f' = .next ∧ ∃ h' t' cm wc, s' = ⟨h', g, d, t', o⟩ ∧ St mg mb h [(cm, .lst wc), (c2, .cell (some (curV m ta))), (c1, .cell (some (sepV m tb))), (L, .ns [("isabs", .bool f), ("common", .ref cm)])] h' ∧ Pcs m wc ((cpF r0 r1).map some)) ?_ ?_ (fun _ _ e => e)
    · refine r_For ?_
      repeat walk_at "x1"
      refine r_enum D (sel ca D (by walk_at "mem") (by walk_at "mem")) fun e it h' D => ?_
      refine pi_enum D (.head _) ?_
      refine ⟨(bif ca then r1 else r0).length, fun E => ?_⟩
      have D := D.see (E' := [("common", .ref (bif ca then Dl3 else Dl2)), ("s1", .ref (bif ca then Dl3 else Dl2)), ("s2", .ref (bif cb then Dl3 else Dl2)), ("isabs", .bool f)]) (by walk_at "upd") (by walk_at "sees")
      have la : (bif ca then r1 else r0).length ≤ 3 := by cases ca <;> assumption
      have zA : (bif ca then ws1 else ws0).length = (bif ca then r1 else r0).length := (selP ca).len.trans (List.length_map _)
      have zB : (bif cb then ws1 else ws0).length = (bif cb then r1 else r0).length := (selP cb).len.trans (List.length_map _)
      refine (fun (key : ∀ (n k : Nat) (old : Value) (h' : Heap) (t' : Nat), St mg mb h [(e, .obj (enumO it ((k : Nat) : Int) old)), (it, .li (bif ca then Dl3 else Dl2) k), (Dl3, .lst ws1), (Dl2, .lst ws0), (c2, .cell (some (curV m ta))), (c1, .cell (some (sepV m tb))), (L, .ns [("common", .ref (bif ca then Dl3 else Dl2)), ("s1", .ref (bif ca then Dl3 else Dl2)), ("s2", .ref (bif cb then Dl3 else Dl2)), ("isabs", .bool f)])] h' →
        (bif ca then r1 else r0).length = k + n → cpF (bif ca then r1 else r0) (bif cb then r1 else r0) = (bif ca then r1 else r0).take k ++ cpF ((bif ca then r1 else r0).drop k) ((bif cb then r1 else r0).drop k) → ForT prog w _ E _ _ _ _ _ _ n ⟨h', g, d, t', o⟩) => key (bif ca then r1 else r0).length 0 .none _ _ (D.sub (by walk_at "subl")) (Nat.zero_add _).symm rfl) ?_
      intro n
      induction n with
      | zero =>
        intro k old h' t' D hk hc
        refine pn_enum_end (e := e) (it := it) (i := k) (old := old) hh D (sel ca D (by walk_at "mem") (by walk_at "mem")) (by rw [zA]; omega) (by walk_at "mem") (by walk_at "mem") (by walk_at "del") fun h' D => ?_
        show wpAny _ _ (execs [] _) _ _ _
        refine wpAny_execs_nil ?_
        rw [List.drop_eq_nil_of_le (by omega : (bif ca then r1 else r0).length ≤ k), cpF_nil', List.append_nil, List.take_of_length_le (by omega), hcp] at hc
        have D' : St mg mb h [((bif ca then Dl3 else Dl2), .lst (bif ca then ws1 else ws0)), (c2, .cell (some (curV m ta))), (c1, .cell (some (sepV m tb))), (L, .ns [("common", .ref (bif ca then Dl3 else Dl2)), ("s1", .ref (bif ca then Dl3 else Dl2)), ("s2", .ref (bif cb then Dl3 else Dl2)), ("isabs", .bool f)])] h' := by
          cases ca
          · exact D.sub (by walk_at "subl")
          · exact D.sub (by walk_at "subl")
        have D' := D'.see (E' := [("isabs", .bool f), ("common", .ref (bif ca then Dl3 else Dl2))]) (by walk_at "upd") (by walk_at "sees")
        refine ⟨rfl, _, _, _, _, rfl, D', ?_⟩
        rw [hc]; exact selP ca
      | succ n ih =>
        intro k old h' t' D hk hc
        have hka : k < (bif ca then r1 else r0).length := by omega
        have hkb : k < (bif cb then r1 else r0).length := by
          rcases Nat.lt_or_ge k (bif cb then r1 else r0).length with q | q
          · exact q
          · exfalso
            rw [List.drop_eq_nil_of_le q, cpF_nil, List.append_nil, hcp] at hc
            have e1 := congrArg List.length hc
            rw [List.length_take] at e1
            rcases hcp2 with z | z
            · rw [z] at e1; omega
            · omega
        obtain ⟨ua, ga⟩ := (selP ca).get k (some (bif ca then r1 else r0)[k]) (by rw [List.getElem?_map, List.getElem?_eq_getElem hka]; rfl)
        obtain ⟨ub, gb⟩ := (selP cb).get k (some (bif cb then r1 else r0)[k]) (by rw [List.getElem?_map, List.getElem?_eq_getElem hkb]; rfl)
        refine pn_enum D (sel ca D (by walk_at "mem") (by walk_at "mem")) ga (by walk_at "mem") (D.ne (.head _)) (by walk_at "upd") (by walk_at "upd") fun h' T tk' t' heU Dst => ?_
        show wpAny _ _ (letOwnedTupleGo _ _ _) _ _ _
        refine lo_enum heU Dst fun h' D => ?_
        refine as_pair hh D (D.get (.head _)) fun h' D => ?_
        repeat walk_at "x1"
        refine t_list_item (sel cb (by assumption) (by walk_at "mem") (by walk_at "mem")) (by omega) (by omega) (by rw [Int.toNat_natCast]; exact gb) ?_
        repeat walk_at "x1"
        refine r_ne_pc ?_
        repeat walk_at "x1"
        rw [List.drop_eq_getElem_cons hka, List.drop_eq_getElem_cons hkb, cpF] at hc
        refine ite_dec (fun hne => ?_) (fun hne => ?_)
        · repeat walk_at "x1"
          have D := ‹St mg mb h _ _›
          refine t_list_upto D (sel ca D (by walk_at "mem") (by walk_at "mem")) (by walk_at "mem") (by rw [zA]; omega) (by rw [zA]; omega) fun b h' D => ?_
          repeat walk_at "x1"
          have D := ‹St mg mb h _ _›
          rw [if_neg (fun z => hne (congrArg some z)), List.append_nil, hcp] at hc
          have D := (D.sub (N' := [(b, .lst _), (c2, .cell (some (curV m ta))), (c1, .cell (some (sepV m tb))), (L, .ns _)]) (by walk_at "subl")).see (E' := [("isabs", .bool f), ("common", .ref b)]) (by walk_at "upd") (by walk_at "sees")
          refine ⟨rfl, _, _, _, _, rfl, D, ?_⟩
          rw [hc, List.map_take]; exact (selP ca).take k
        · repeat walk_at "x1"
          have D := ‹St mg mb h _ _›
          have heq : (bif ca then r1 else r0)[k] = (bif cb then r1 else r0)[k] := Option.some.inj (Classical.not_not.mp hne)
          rw [if_pos heq] at hc
          have D := (D.sub (N' := [(e, .obj (enumO it (((k + 1 : Nat) : Int)) _)), (it, .li (bif ca then Dl3 else Dl2) (k + 1)), (Dl3, .lst ws1), (Dl2, .lst ws0), (c2, .cell (some (curV m ta))), (c1, .cell (some (sepV m tb))), (L, .ns _)]) (by walk_at "subl")).see (E' := [("common", .ref (bif ca then Dl3 else Dl2)), ("s1", .ref (bif ca then Dl3 else Dl2)), ("s2", .ref (bif cb then Dl3 else Dl2)), ("isabs", .bool f)]) (by walk_at "upd") (by walk_at "sees")
          refine ih (k + 1) _ _ _ D (by omega) ?_
          rw [hc, ← List.take_append_getElem hka, List.append_assoc]; rfl
    · rintro f' s' ⟨rfl, h', t', cm, wc, rfl, D, pc⟩
      have lc : (cpF r0 r1).length ≤ 3 := Nat.le_trans (cpF_le r0 r1) h0
      show wpAny _ _ (execs _ _) _ _ _
      repeat walk_at "x1"
      cases f with
      | true =>
        rw [if_pos rfl]
        repeat walk_at "x1"
        with_reducible refine gm_join ?_
        repeat walk_at "x1"
        refine r_join (by walk_at "fact") pc lc fun _ _ => ?_
        repeat walk_at "x1"
        refine r_add_node (f := true) lc fun _ _ => ?_
        repeat walk_at "x1"
        exact hQ _ _ _ (St.keep (by assumption))
      | false =>
        rw [if_neg Bool.false_ne_true]
        repeat walk_at "x1"
        refine t_sep0 (by assumption) (by walk_at "mem") fun _ _ => ?_
        repeat walk_at "x1"
        with_reducible refine gm_join ?_
        repeat walk_at "x1"
        refine r_join (by walk_at "fact") pc lc fun _ _ => ?_
        repeat walk_at "x1"
        refine r_add_node (f := false) lc fun _ _ => ?_
        repeat walk_at "x1"
        exact hQ _ _ _ (St.keep (by assumption))
end
end Mine

end
section
/-! the plain law: no program in sight -/
namespace Mine
section
variable (mk p d : Nat → Nat) (n : Nat)
/-- what the ways are: each holds its top; where two meet, the deeper top lies in both -/
structure Geo : Prop where
  top : ∀ k, k < n → (mk k).testBit (p k) = true
  meet : ∀ k l, k < n → l < n → mk k &&& mk l ≠ 0 → d l ≤ d k → (mk l).testBit (p k) = true
def greedy : List Nat → List Nat → Nat → List Nat × Nat
  | [], T, M => (T, M)
  | k :: r, T, M => if mk k &&& M = 0 then greedy r (T ++ [k]) (M + 2 ^ p k) else greedy r T M
variable {mk p d n}
theorem land_ne {a b : Nat} (i : Nat) (ha : a.testBit i = true) (hb : b.testBit i = true) : a &&& b ≠ 0 := by
  intro e
  have := Nat.testBit_and a b i
  rw [e, ha, hb, Nat.zero_testBit] at this
  cases this
theorem land_ex {a b : Nat} (h : a &&& b ≠ 0) : ∃ i, a.testBit i = true ∧ b.testBit i = true := by
  obtain ⟨i, hi⟩ := Nat.exists_testBit_of_ne_zero h
  rw [Nat.testBit_and, Bool.and_eq_true] at hi
  exact ⟨i, hi⟩
theorem land_no {a b : Nat} (h : a &&& b = 0) (i : Nat) (ha : a.testBit i = true) : b.testBit i = false := by
  cases hb : b.testBit i with
  | false => rfl
  | true => exact absurd h (land_ne i ha hb)
theorem add_bit : ∀ {q M : Nat}, M.testBit q = false → ∀ i : Nat, (M + 2 ^ q).testBit i = (M.testBit i || decide (i = q))
  | 0, M, h, i => by
    rw [Nat.testBit_zero, decide_eq_false_iff_not] at h
    cases i with
    | zero =>
      rw [Nat.testBit_zero, Nat.testBit_zero, Nat.pow_zero, decide_eq_true (by omega : (M + 1) % 2 = 1)]
      simp
    | succ i =>
      rw [Nat.testBit_succ, Nat.testBit_succ, Nat.pow_zero, show (M + 1) / 2 = M / 2 by omega]
      simp
  | q + 1, M, h, i => by
    rw [Nat.testBit_succ] at h
    cases i with
    | zero =>
      rw [Nat.testBit_zero, Nat.testBit_zero, show (M + 2 ^ (q + 1)) % 2 = M % 2 by rw [Nat.pow_succ]; omega]
      simp
    | succ i =>
      rw [Nat.testBit_succ, Nat.testBit_succ, show (M + 2 ^ (q + 1)) / 2 = M / 2 + 2 ^ q by rw [Nat.pow_succ]; omega, add_bit h i]
      simp
/-- the state of the greedy walk -/
structure Inv (mk p : Nat → Nat) (n : Nat) (T : List Nat) (M : Nat) : Prop where
  inn : ∀ t ∈ T, t < n
  bits : ∀ i, M.testBit i = true ↔ ∃ t ∈ T, p t = i
  apart : T.Pairwise fun a b => mk a &&& mk b = 0
  nd : (T.map p).Nodup
theorem greedy_spec (G : Geo mk p d n) : ∀ (o T : List Nat) (M : Nat), (∀ k ∈ o, k < n) → o.Pairwise (fun a b => d b ≤ d a) → (∀ t ∈ T, ∀ k ∈ o, d k ≤ d t) → Inv mk p n T M →
    Inv mk p n (greedy mk p o T M).1 (greedy mk p o T M).2 ∧ (∀ i, M.testBit i = true → (greedy mk p o T M).2.testBit i = true) ∧ (∀ k ∈ o, mk k &&& (greedy mk p o T M).2 ≠ 0)
  | [], T, M, _, _, _, I => ⟨I, fun _ h => h, fun _ h => nomatch h⟩
  | k :: r, T, M, ho, hs, hd, I => by
    have hk := ho k (.head _)
    have ho' : ∀ k ∈ r, k < n := fun j hj => ho j (.tail _ hj)
    have hs' := List.pairwise_cons.mp hs
    rw [greedy]
    by_cases c : mk k &&& M = 0
    · rw [if_pos c]
      have hq : M.testBit (p k) = false := land_no c _ (G.top k hk)
      have I' : Inv mk p n (T ++ [k]) (M + 2 ^ p k) := by
        refine ⟨?_, ?_, ?_, ?_⟩
        · intro t ht
          rcases List.mem_append.mp ht with ht | ht
          · exact I.inn t ht
          · rw [List.mem_singleton.mp ht]; exact hk
        · intro i
          rw [add_bit hq, Bool.or_eq_true, decide_eq_true_iff, I.bits]
          constructor
          · rintro (⟨t, ht, e⟩ | e)
            · exact ⟨t, List.mem_append_left _ ht, e⟩
            · exact ⟨k, List.mem_append_right _ (List.mem_singleton.mpr rfl), e.symm⟩
          · rintro ⟨t, ht, e⟩
            rcases List.mem_append.mp ht with ht | ht
            · exact .inl ⟨t, ht, e⟩
            · rw [List.mem_singleton.mp ht] at e; exact .inr e.symm
        · rw [List.pairwise_append]
          refine ⟨I.apart, List.pairwise_singleton _ _, fun t ht b hb => ?_⟩
          rw [List.mem_singleton.mp hb]
          apply Classical.byContradiction
          intro hne
          have h1 := G.meet t k (I.inn t ht) hk hne (hd t ht k (.head _))
          have h2 : M.testBit (p t) = true := (I.bits _).mpr ⟨t, ht, rfl⟩
          exact land_ne _ h1 h2 c
        · rw [List.map_append, List.map_singleton]
          refine List.nodup_append.mpr ⟨I.nd, by simp, fun a ha b hb e => ?_⟩
          rw [List.mem_singleton.mp hb] at e
          obtain ⟨t, ht, et⟩ := List.mem_map.mp ha
          have : M.testBit (p k) = true := (I.bits _).mpr ⟨t, ht, et.trans e⟩
          rw [hq] at this; cases this
      obtain ⟨r1, r2, r3⟩ := greedy_spec G r (T ++ [k]) (M + 2 ^ p k) ho' hs'.2 (fun t ht j hj => by
        rcases List.mem_append.mp ht with ht | ht
        · exact hd t ht j (.tail _ hj)
        · rw [List.mem_singleton.mp ht]; exact hs'.1 j hj) I'
      refine ⟨r1, fun i hi => r2 i (by rw [add_bit hq, hi]; rfl), fun j hj => ?_⟩
      rcases List.mem_cons.mp hj with rfl | hj
      · exact land_ne (p j) (G.top j hk) (r2 _ (by rw [add_bit hq, decide_eq_true rfl, Bool.or_true]))
      · exact r3 j hj
    · rw [if_neg c]
      obtain ⟨r1, r2, r3⟩ := greedy_spec G r T M ho' hs'.2 (fun t ht j hj => hd t ht j (.tail _ hj)) I
      refine ⟨r1, r2, fun j hj => ?_⟩
      rcases List.mem_cons.mp hj with rfl | hj
      · obtain ⟨i, h1, h2⟩ := land_ex c
        exact land_ne i h1 (r2 i h2)
      · exact r3 j hj
/-- a family apart is no bigger than a set of tops that hits each of it -/
theorem apart_le {T F : List Nat} {M : Nat} (I : Inv mk p n T M) (hit : ∀ k ∈ F, mk k &&& M ≠ 0) (ap : F.Pairwise fun a b => mk a &&& mk b = 0) : F.length ≤ T.length := by
  have key : ∀ F : List Nat, (∀ k ∈ F, mk k &&& M ≠ 0) → F.Pairwise (fun a b => mk a &&& mk b = 0) → ∃ L : List Nat, L.length = F.length ∧ L.Nodup ∧ (∀ i ∈ L, i ∈ T.map p) ∧ ∀ i ∈ L, ∃ k ∈ F, (mk k).testBit i = true := by
    intro F
    induction F with
    | nil => intro _ _; exact ⟨[], rfl, List.nodup_nil, fun _ h => absurd h List.not_mem_nil, fun _ h => absurd h List.not_mem_nil⟩
    | cons k r ih =>
      intro hit ap
      have ap' := List.pairwise_cons.mp ap
      obtain ⟨L, l1, l2, l3, l4⟩ := ih (fun j hj => hit j (.tail _ hj)) ap'.2
      obtain ⟨i, h1, h2⟩ := land_ex (hit k (.head _))
      refine ⟨i :: L, by rw [List.length_cons, List.length_cons, l1], List.nodup_cons.mpr ⟨fun hi => ?_, l2⟩, ?_, ?_⟩
      · obtain ⟨j, hj, hb⟩ := l4 i hi
        exact land_ne i h1 hb (ap'.1 j hj)
      · intro j hj
        rcases List.mem_cons.mp hj with rfl | hj
        · obtain ⟨t, ht, e⟩ := (I.bits _).mp h2
          exact e ▸ List.mem_map_of_mem ht
        · exact l3 j hj
      · intro j hj
        rcases List.mem_cons.mp hj with rfl | hj
        · exact ⟨k, .head _, h1⟩
        · obtain ⟨q, hq, hb⟩ := l4 j hj
          exact ⟨q, .tail _ hq, hb⟩
  obtain ⟨L, l1, l2, l3, _⟩ := key F hit ap
  have := List.Nodup.length_le_of_subset l2 (fun i hi => l3 i hi)
  rw [List.length_map, l1] at this
  exact this
/-- Helly for the ways -/
theorem helly (G : Geo mk p d n) : ∀ (F : List Nat), F ≠ [] → (∀ k ∈ F, k < n) → (∀ a ∈ F, ∀ b ∈ F, mk a &&& mk b ≠ 0) → ∃ i, ∀ k ∈ F, (mk k).testBit i = true := by
  intro F hne hF hm
  have : ∃ k ∈ F, ∀ j ∈ F, d j ≤ d k := by
    clear hm hF
    induction F with
    | nil => exact absurd rfl hne
    | cons a r ih =>
      by_cases hr : r = []
      · subst hr
        exact ⟨a, .head _, fun j hj => by rcases List.mem_cons.mp hj with rfl | hj; exact Nat.le_refl _; cases hj⟩
      · obtain ⟨k, hk, h⟩ := ih hr
        by_cases c : d a ≤ d k
        · exact ⟨k, .tail _ hk, fun j hj => by rcases List.mem_cons.mp hj with rfl | hj; exact c; exact h j hj⟩
        · exact ⟨a, .head _, fun j hj => by rcases List.mem_cons.mp hj with rfl | hj; exact Nat.le_refl _; exact Nat.le_trans (h j hj) (by omega)⟩
  obtain ⟨k, hk, h⟩ := this
  exact ⟨p k, fun j hj => G.meet k j (hF k hk) (hF j hj) (hm k hk j hj) (h j hj)⟩
end
end Mine

end
section
open PySem
set_option maxRecDepth 100000
set_option maxHeartbeats 1000000
namespace Mine
abbrev Row := List Bool
def topF (q : Row × Row) : Row := cpF q.1 q.2
def depF (q : Row × Row) : Nat := (topF q).length
/-- the way between the two: down the one, up the other -/
def wayF (q : Row × Row) : List Row := ((climbF (topF q) 5 q.1).getD []) ++ ((climbF (topF q) 5 q.2).getD [])
def push1 (l : List Row) (x : Row) : List Row := if x ∈ l then l else l ++ [x]
def heldF (q : Row × Row) : List Row := (wayF q).foldl push1 []
def foldersF (ps : List (Row × Row)) : List Row := ps.foldl (fun F q => (wayF q).foldl push1 F) []
def maskF (F : List Row) (q : Row × Row) : Nat := ((heldF q).map fun x => 2 ^ F.idxOf x).sum
theorem climb_some : ∀ r0 ∈ rows3, ∀ r1 ∈ rows3, (climbF (cpF r0 r1) 5 r0).isSome = true ∧ (climbF (cpF r0 r1) 5 r1).isSome = true := by decide +kernel
theorem held_len : ∀ r0 ∈ rows3, ∀ r1 ∈ rows3, (heldF (r0, r1)).length + 2 * (cpF r0 r1).length = r0.length + r1.length + 1 := by decide +kernel
theorem held_iff : ∀ r0 ∈ rows3, ∀ r1 ∈ rows3, ∀ x ∈ rows3, decide (x ∈ heldF (r0, r1)) = ((x.isPrefixOf r0 || x.isPrefixOf r1) && decide ((cpF r0 r1).length ≤ x.length)) := by decide +kernel
theorem top_take : ∀ r0 ∈ rows3, ∀ r1 ∈ rows3, r0.take (cpF r0 r1).length = cpF r0 r1 ∧ r1.take (cpF r0 r1).length = cpF r0 r1 := by decide +kernel
theorem way_rows : ∀ r0 ∈ rows3, ∀ r1 ∈ rows3, ∀ x ∈ wayF (r0, r1), x ∈ rows3 := by decide +kernel
theorem top_rows : ∀ r0 ∈ rows3, ∀ r1 ∈ rows3, cpF r0 r1 ∈ rows3 := by decide +kernel
theorem rows3_len : ∀ r ∈ rows3, r.length ≤ 3 := by decide
/-! push1 -/
theorem mem_push1 {l : List Row} {x y : Row} : y ∈ push1 l x ↔ y ∈ l ∨ y = x := by
  unfold push1
  by_cases h : x ∈ l
  · rw [if_pos h]; exact ⟨.inl, fun e => e.elim id fun e => e ▸ h⟩
  · rw [if_neg h, List.mem_append, List.mem_singleton]
theorem nd_push1 {l : List Row} {x : Row} (h : l.Nodup) : (push1 l x).Nodup := by
  unfold push1
  by_cases c : x ∈ l
  · rw [if_pos c]; exact h
  · rw [if_neg c]; exact List.nodup_append.mpr ⟨h, by simp, fun a ha b hb e => c (by rw [← List.mem_singleton.mp hb, ← e]; exact ha)⟩
theorem pre_push1 {l : List Row} {x : Row} : ∃ t, push1 l x = l ++ t := by
  unfold push1
  by_cases c : x ∈ l
  · rw [if_pos c]; exact ⟨[], by simp⟩
  · rw [if_neg c]; exact ⟨[x], rfl⟩
theorem fold_push : ∀ (xs l : List Row), (∀ y, y ∈ xs.foldl push1 l ↔ y ∈ l ∨ y ∈ xs) ∧ (l.Nodup → (xs.foldl push1 l).Nodup) ∧ ∃ t, xs.foldl push1 l = l ++ t
  | [], l => ⟨fun y => by simp, fun h => h, [], by simp⟩
  | x :: xs, l => by
    obtain ⟨h1, h2, t, h3⟩ := fold_push xs (push1 l x)
    obtain ⟨u, hu⟩ := pre_push1 (l := l) (x := x)
    refine ⟨fun y => ?_, fun h => h2 (nd_push1 h), u ++ t, ?_⟩
    · rw [List.foldl_cons, h1, mem_push1, List.mem_cons, or_assoc]
    · rw [List.foldl_cons, h3, hu, List.append_assoc]
theorem held_mem {q : Row × Row} {x : Row} : x ∈ heldF q ↔ x ∈ wayF q := by
  unfold heldF; rw [(fold_push _ _).1]; simp
theorem held_nd (q : Row × Row) : (heldF q).Nodup := (fold_push _ _).2.1 List.nodup_nil
theorem folders_snoc (ps : List (Row × Row)) (q : Row × Row) : foldersF (ps ++ [q]) = (wayF q).foldl push1 (foldersF ps) := by
  unfold foldersF; rw [List.foldl_append]; rfl
theorem folders_nd (ps : List (Row × Row)) : (foldersF ps).Nodup := by
  unfold foldersF
  have : ∀ (ps : List (Row × Row)) (F : List Row), F.Nodup → (ps.foldl (fun F q => (wayF q).foldl push1 F) F).Nodup := by
    intro ps
    induction ps with
    | nil => intro F h; exact h
    | cons q r ih => intro F h; exact ih _ ((fold_push _ _).2.1 h)
  exact this ps [] List.nodup_nil
theorem folders_app (ps rs : List (Row × Row)) : ∃ t, foldersF (ps ++ rs) = foldersF ps ++ t := by
  unfold foldersF
  rw [List.foldl_append]
  generalize ps.foldl (fun F q => (wayF q).foldl push1 F) [] = F
  induction rs generalizing F with
  | nil => exact ⟨[], by simp⟩
  | cons q r ih =>
    obtain ⟨t, ht⟩ := ih ((wayF q).foldl push1 F)
    obtain ⟨u, hu⟩ := (fold_push (wayF q) F).2.2
    exact ⟨u ++ t, by rw [List.foldl_cons, ht, hu, List.append_assoc]⟩
theorem held_folders (ps : List (Row × Row)) (q : Row × Row) {x : Row} (h : x ∈ heldF q) : x ∈ foldersF (ps ++ [q]) := by
  rw [folders_snoc, (fold_push _ _).1]; exact .inr (held_mem.mp h)
theorem idx_app {F t : List Row} {x : Row} (h : x ∈ F) : (F ++ t).idxOf x = F.idxOf x := by
  rw [List.idxOf_append, if_pos h]
theorem mask_app {F t : List Row} {q : Row × Row} (h : ∀ x ∈ heldF q, x ∈ F) : maskF (F ++ t) q = maskF F q := by
  unfold maskF
  congr 1
  exact List.map_congr_left fun x hx => by rw [idx_app (h x hx)]
theorem idx_inj {F : List Row} {x y : Row} (hx : x ∈ F) (e : F.idxOf x = F.idxOf y) : x = y := by
  have hl := List.idxOf_lt_length_of_mem hx
  have h1 := List.getElem_idxOf hl
  have hl' : F.idxOf y < F.length := e ▸ hl
  have h2 := List.getElem_idxOf hl'
  rw [← h1, ← h2]
  congr 1
theorem sum_bits (F : List Row) : ∀ (l : List Row), l.Nodup → (∀ x ∈ l, x ∈ F) → ∀ i, ((l.map fun x => 2 ^ F.idxOf x).sum).testBit i = true ↔ ∃ x ∈ l, F.idxOf x = i
  | [], _, _, i => by simp
  | x :: r, nd, hF, i => by
    rw [List.nodup_cons] at nd
    have ih := sum_bits F r nd.2 fun y hy => hF y (.tail _ hy)
    have hno : ((r.map fun x => 2 ^ F.idxOf x).sum).testBit (F.idxOf x) = false := by
      cases hb : ((r.map fun x => 2 ^ F.idxOf x).sum).testBit (F.idxOf x) with
      | false => rfl
      | true =>
        obtain ⟨y, hy, e⟩ := (ih _).mp hb
        exact absurd (idx_inj (hF y (.tail _ hy)) e ▸ hy) nd.1
    rw [List.map_cons, List.sum_cons, Nat.add_comm, add_bit hno, Bool.or_eq_true, decide_eq_true_iff, ih]
    constructor
    · rintro (⟨y, hy, e⟩ | e)
      · exact ⟨y, .tail _ hy, e⟩
      · exact ⟨x, .head _, e.symm⟩
    · rintro ⟨y, hy, e⟩
      rcases List.mem_cons.mp hy with rfl | hy
      · exact .inr e.symm
      · exact .inl ⟨y, hy, e⟩
/-! the ways are as the plain law asks -/
theorem geo_ways (ps : List (Row × Row)) (hr : ∀ q ∈ ps, q.1.length ≤ 3 ∧ q.2.length ≤ 3) :
    Geo (fun k => maskF (foldersF ps) (ps.getD k ([], []))) (fun k => (foldersF ps).idxOf (topF (ps.getD k ([], [])))) (fun k => depF (ps.getD k ([], []))) ps.length := by
  have hq : ∀ k, k < ps.length → ps.getD k ([], []) ∈ ps := fun k hk => by
    rw [List.getD_eq_getElem?_getD, List.getElem?_eq_getElem hk]; exact List.getElem_mem hk
  have hF : ∀ q ∈ ps, ∀ x ∈ heldF q, x ∈ foldersF ps := by
    intro q hq x hx
    obtain ⟨a, b, rfl⟩ := List.append_of_mem hq
    have e : a ++ q :: b = (a ++ [q]) ++ b := by simp
    obtain ⟨t, ht⟩ := folders_app (a ++ [q]) b
    rw [e, ht]; exact List.mem_append_left _ (held_folders a q hx)
  have bits : ∀ q ∈ ps, ∀ i, (maskF (foldersF ps) q).testBit i = true ↔ ∃ x ∈ heldF q, (foldersF ps).idxOf x = i := fun q hq i => sum_bits _ _ (held_nd q) (hF q hq) i
  have hin : ∀ q ∈ ps, ∀ x, x ∈ rows3 → (x ∈ heldF q ↔ (x <+: q.1 ∨ x <+: q.2) ∧ depF q ≤ x.length) := by
    intro q hq x hx
    have := held_iff q.1 (mem_rows3 (hr q hq).1) q.2 (mem_rows3 (hr q hq).2) x hx
    have h2 : x ∈ heldF q ↔ decide (x ∈ heldF (q.1, q.2)) = true := by simp
    rw [h2, this, Bool.and_eq_true, Bool.or_eq_true, decide_eq_true_iff, List.isPrefixOf_iff_prefix, List.isPrefixOf_iff_prefix]
    rfl
  have hrow : ∀ q ∈ ps, ∀ x ∈ heldF q, x ∈ rows3 := fun q hq x hx => way_rows q.1 (mem_rows3 (hr q hq).1) q.2 (mem_rows3 (hr q hq).2) x (held_mem.mp hx)
  have htop : ∀ q ∈ ps, topF q ∈ rows3 := fun q hq => top_rows q.1 (mem_rows3 (hr q hq).1) q.2 (mem_rows3 (hr q hq).2)
  have htk : ∀ q ∈ ps, q.1.take (depF q) = topF q ∧ q.2.take (depF q) = topF q := fun q hq => top_take q.1 (mem_rows3 (hr q hq).1) q.2 (mem_rows3 (hr q hq).2)
  refine ⟨fun k hk => ?_, fun k l hk hl hne hd => ?_⟩
  · have h1 := hq k hk
    refine (bits _ h1 _).mpr ⟨_, ?_, rfl⟩
    refine (hin _ h1 _ (htop _ h1)).mpr ⟨.inl ?_, Nat.le_refl _⟩
    rw [← (htk _ h1).1]; exact List.take_prefix _ _
  · have h1 := hq k hk
    have h2 := hq l hl
    obtain ⟨i, b1, b2⟩ := land_ex hne
    obtain ⟨x, hx, ex⟩ := (bits _ h1 i).mp b1
    obtain ⟨y, hy, ey⟩ := (bits _ h2 i).mp b2
    have hxy : x = y := idx_inj (hF _ h1 x hx) (ex.trans ey.symm)
    subst hxy
    obtain ⟨p1, l1⟩ := (hin _ h1 _ (hrow _ h1 x hx)).mp hx
    obtain ⟨p2, _⟩ := (hin _ h2 _ (hrow _ h2 x hy)).mp hy
    have ht : topF (ps.getD k ([], [])) <+: x := by
      rcases p1 with p1 | p1
      · rw [← (htk _ h1).1]
        obtain ⟨u, hu⟩ := p1
        rw [← hu, List.take_append_of_le_length l1]; exact List.take_prefix _ _
      · rw [← (htk _ h1).2]
        obtain ⟨u, hu⟩ := p1
        rw [← hu, List.take_append_of_le_length l1]; exact List.take_prefix _ _
    refine (bits _ h2 _).mpr ⟨_, ?_, rfl⟩
    refine (hin _ h2 _ (htop _ h1)).mpr ⟨p2.imp ht.trans ht.trans, hd⟩
end Mine

end
section
open PySem PySem.Calls PySem.W PyProof.Rows
set_option maxRecDepth 100000
set_option maxHeartbeats 4000000
namespace Mine
theorem enc_road {self : Value} : ∀ (f : Bool) (r : List Bool), r.length ≤ 3 → Builtin._codecs.encodeRoad "str.encode" self (pathS f r) "latin-1" none = mkBytes (pathB f r)
  | f, [], _ => by cases f <;> kernel_rfl
  | f, [a], _ => by cases f <;> cases a <;> kernel_rfl
  | f, [a, b], _ => by cases f <;> cases a <;> cases b <;> kernel_rfl
  | f, [a, b, c], _ => by cases f <;> cases a <;> cases b <;> cases c <;> kernel_rfl
  | _, _ :: _ :: _ :: _ :: _, h => by simp at h
section
variable {prog : Program} {w : World} {A : Around} {X : Value → Shared → Prop} {g : Array GenState} {d : Drawn} {t : Nat} {o : OsState} {h h₀ : Heap} {mg mb : Str → Option Value} {N N' : List (Addr × Fact)} {tx ty : Nat} {m f : Bool} {r : List Bool}
theorem r_encode {Q : Value → Shared → Prop} (hr : r.length ≤ 3) (hQ : ∀ t t', Q (node true f r t) ⟨h, g, d, t', o⟩) : wpAny (model prog w) A (call (.builtin "str.encode") [node false f r tx, .str "latin-1" ty]) Q X ⟨h, g, d, t, o⟩ := by
  show wpAny _ _ (call (.builtin "str.encode") [.str (pathS f r) tx, .str "latin-1" ty]) _ _ _
  refine wpAny_call_entry (T := "str") (name := "encode") F.slot_str_encode (typeIs_str _ _ _) F.entry_str_encode ?_ (F.args_str_encode_2 _ _)
  repeat ((fail_if_success (with_reducible show wpAny _ _ (Builtin._codecs.encodeRoad _ _ _ _ _) _ _ _)); wp_step)
  rw [if_neg (by decide +kernel)]
  repeat ((fail_if_success (with_reducible show wpAny _ _ (Builtin._codecs.encodeRoad _ _ _ _ _) _ _ _)); (first | wp_step | rw [if_neg (by decide +kernel)]))
  try dsimp only
  refine wpAny_mono (Q := fun v s' => ∃ t t', v = .bytes (pathB f r) t ∧ s' = ⟨h, g, d, t', o⟩) ?_ (fun v s' hv => ?_) (fun _ _ e => e)
  · show wpAny _ _ (Builtin._codecs.encodeRoad "str.encode" _ (pathS f r) "latin-1" none) _ _ _
    rw [enc_road f r hr]
    refine wpAny_mkBytes ⟨_, _, rfl, rfl⟩ ?_
    have := pathB_len (f := f) hr
    rw [sizeLine_eq]; omega
  · obtain ⟨t1, t2, rfl, rfl⟩ := hv
    exact wpAny_pure ⟨_, rfl, hQ _ _⟩
theorem gm_encode {x : Str} {pl : Sem Bool} {s : Shared} {Q : Value × List Value → Shared → Prop} (hQ : Q (.builtin "str.encode", [.str x tx]) s) : wpAny (model prog w) A (getMethod (.str x tx) "encode" pl) Q X s :=
  getMethod_builtin (T := "str") (name := "encode") (id := "str.encode") (typeIs_str _ _ _) F.plainAttrs_str F.slot_str_encode F.type_str_encode (fun _ e => nomatch e) hQ
theorem Segs.strs {vs r} (s : Segs vs r) : StrsAre vs ((r.map some).map pieceS) := by
  induction s with
  | nil => exact .nil
  | @cons t c vs cs _ ih => cases c <;> exact .cons _ _ ih
/-- '/'.join(row) -/
theorem r_join_row {a : Addr} {vs : List Value} {r : List Bool} {Q : Value → Shared → Prop} (hl : (Fact.lst vs).at h a) (hv : Segs vs r) (hr : r.length ≤ 3) (hQ : ∀ t t', Q (bodyV false r t) ⟨h, g, d, t', o⟩) :
    wpAny (model prog w) A (call (.builtin "str.join") [.str "/" tx, .ref a]) Q X ⟨h, g, d, t, o⟩ := by
  have hm := mem_rows3 hr
  show wpAny _ _ (call (.builtin "str.join") [.str ⟨#[47]⟩ tx, .ref a]) _ _ _
  refine join_listW (s := ⟨h, g, d, t, o⟩) hl.isList hv.strs (by decide) (Nat.le_trans (joinS_room r hm) (by decide)) fun t t' => ?_
  have e : Txt.join ⟨#[47]⟩ ((r.map some).map pieceS) = ⟨(bodyN r).toArray⟩ := str_of_list (joinS_path r hm)
  rw [e]; exact hQ t t'
end
end Mine

end
section
open PySem PySem.Calls PySem.W PyProof.Rows
open MeetsSeq MeetsSeq2 MeetsSeq3 SeqRoads2
set_option maxRecDepth 100000
set_option maxHeartbeats 1000000
namespace Mine
def eNode (m f : Bool) (r : List Bool) (y : Value) : Bool :=
  match m, y with
  | true, .bytes b _ => b.toList == (pathB f r).toList
  | false, .str s _ => s.cps.toList == (pathS f r).cps.toList
  | _, _ => false
theorem eNode_node {m f : Bool} {r r' : List Bool} {t : Nat} (hr : r.length ≤ 3) (hr' : r'.length ≤ 3) : eNode m f r (node m f r' t) = decide (r' = r) := by
  cases m with
  | true =>
    show ((pathB f r').toList == (pathB f r).toList) = _
    rw [Bool.eq_iff_iff, beq_iff_eq, decide_eq_true_iff, bytes_eq_iff, pathB_eq hr' hr]
  | false =>
    show ((pathS f r').cps.toList == (pathS f r).cps.toList) = _
    rw [Bool.eq_iff_iff, beq_iff_eq, decide_eq_true_iff, str_eq_iff, pathS_inj hr' hr]
theorem Nodes.mem {m f vs rs} (s : Nodes m f vs rs) : ∀ {y : Value}, y ∈ vs → ∃ r ∈ rs, ∃ t, y = node m f r t := by
  induction s with
  | nil => intro y hy; cases hy
  | @cons t r vs rs _ ih =>
    intro y hy
    rcases List.mem_cons.mp hy with rfl | hy
    · exact ⟨r, .head _, t, rfl⟩
    · obtain ⟨r', h1, t', e⟩ := ih hy
      exact ⟨r', .tail _ h1, t', e⟩
theorem Nodes.any {m f vs rs r} (s : Nodes m f vs rs) (hr : r.length ≤ 3) (h3 : ∀ x ∈ rs, x.length ≤ 3) : vs.any (eNode m f r) = decide (r ∈ rs) := by
  induction s with
  | nil => rfl
  | @cons t r' vs rs _ ih =>
    rw [List.any_cons, ih (fun x hx => h3 x (.tail _ hx)), eNode_node hr (h3 r' (.head _))]
    rw [Bool.eq_iff_iff, Bool.or_eq_true, decide_eq_true_iff, decide_eq_true_iff, decide_eq_true_iff, List.mem_cons]
    exact ⟨fun h => h.imp Eq.symm id, fun h => h.imp Eq.symm id⟩
section
variable {prog : Program} {w : World} {A : Around} {X : Value → Shared → Prop} {g : Array GenState} {d : Drawn} {t : Nat} {o : OsState} {h h₀ : Heap} {mg mb : Str → Option Value} {N N' : List (Addr × Fact)} {tx ty : Nat} {m f : Bool} {r : List Bool} {rs : List (List Bool)} {vs : List Value}
theorem he_nodes {s : Shared} (nv : Nodes m f vs rs) (hr : r.length ≤ 3) (h3 : ∀ x ∈ rs, x.length ≤ 3) : ∀ y, y ∈ vs.toArray → SeqAt.EqAt A.in1 s y (node m f r tx) (eNode m f r y) := by
  intro y hy
  obtain ⟨r', h1, t', rfl⟩ := nv.mem (by simpa using hy)
  rw [eNode_node hr (h3 r' h1)]
  exact (eg_node (h3 r' h1) hr).at _ _
theorem r_notin {a : Addr} {Q : Value → Shared → Prop} (hl : (Fact.lst vs).at h a) (nv : Nodes m f vs rs) (hr : r.length ≤ 3) (h3 : ∀ x ∈ rs, x.length ≤ 3) (hQ : Q (.bool (!decide (r ∈ rs))) ⟨h, g, d, t, o⟩) :
    wpAny (model prog w) A (compareOp .NotIn (node m f r tx) (.ref a)) Q X ⟨h, g, d, t, o⟩ := by
  refine SeqAt.notIn_listAt (eNode m f r) hl.isList (he_nodes nv hr h3) ?_
  rw [List.any_toArray, nv.any hr h3]; exact hQ
theorem gm_index {a : Addr} {pl : Sem Bool} {Q : Value × List Value → Shared → Prop} (hl : ∃ xs, (Fact.lst xs).at h a) (hQ : Q (.builtin "list.index", [.ref a]) ⟨h, g, d, t, o⟩) :
    wpAny (model prog w) A (getMethod (.ref a) "index" pl) Q X ⟨h, g, d, t, o⟩ := by
  obtain ⟨_, ob, e, c, di, _⟩ := hl
  exact getMethod_builtin (T := "list") (name := "index") (id := "list.index") (s := ⟨h, g, d, t, o⟩) ⟨ob, e, c⟩ F.plainAttrs_list F.slot_list_index F.type_list_index (fun b hb => by cases hb; exact ⟨ob, e, di⟩) hQ
theorem r_index {a : Addr} {Q : Value → Shared → Prop} (hl : (Fact.lst vs).at h a) (nv : Nodes m f vs rs) (hr : r.length ≤ 3) (h3 : ∀ x ∈ rs, x.length ≤ 3) (hm : r ∈ rs) (hz : rs.length ≤ 1000) (hQ : ∀ t t', Q (.int ((rs.idxOf r : Nat) : Int) t) ⟨h, g, d, t', o⟩) :
    wpAny (model prog w) A (call (.builtin "list.index") [.ref a, node m f r tx]) Q X ⟨h, g, d, t, o⟩ := by
  obtain ⟨n, ho⟩ := hl.plain
  have hj := List.idxOf_lt_length_of_mem hm
  have hlen := nv.len
  have at_ : ∀ k (hk : k < vs.toArray.size), eNode m f r vs.toArray[k] = decide (rs[k]'(by rw [List.size_toArray] at hk; omega) = r) := by
    intro k hk
    have hk' : k < rs.length := by rw [List.size_toArray] at hk; omega
    obtain ⟨t', e⟩ := nv.get k _ (List.getElem?_eq_getElem hk')
    have e2 : vs.toArray[k] = node m f rs[k] t' := by
      rw [List.getElem_toArray]
      have hk2 : k < vs.length := by omega
      rw [List.getElem?_eq_getElem hk2] at e
      exact Option.some.inj e
    rw [e2, eNode_node hr (h3 _ (List.getElem_mem hk'))]
  refine call_meets (T := "list") (name := "index") F.slot_list_index ⟨_, ho, rfl⟩ F.entry_list_index (F.args_list_index_2 _ _) (SeqAt.list_indexAt a vs.toArray n none #[] (node m f r tx) (eNode m f r) (rs.idxOf r) (by rw [List.size_toArray]; omega) (by omega) ?_ ?_) ⟨ho, he_nodes nv hr h3, hQ _ _⟩
  · rw [at_ _ (by rw [List.size_toArray]; omega)]
    exact decide_eq_true (List.getElem_idxOf hj)
  · intro k hk hlt
    rw [at_ _ hk]
    refine decide_eq_false fun e => ?_
    have h1 := List.not_of_lt_findIdx (p := fun x => x == r) (xs := rs) hlt
    simp [e] at h1
theorem r_add_list {a b : Addr} {xs ys : List Value} {Q : Value → Shared → Prop} (D : St mg mb h₀ N h) (hl : (Fact.lst xs).at h a) (hb : (Fact.lst ys).at h b) (hz : xs.length + ys.length ≤ 1000) (hQ : ∀ c h', St mg mb h₀ ((c, .lst (xs ++ ys)) :: N) h' → Q (.ref c) ⟨h', g, d, t, o⟩) :
    wpAny (model prog w) A (binaryOp .Add (.ref a) (.ref b)) Q X ⟨h, g, d, t, o⟩ := by
  obtain ⟨n, e0⟩ := hl.plain
  obtain ⟨n2, e1⟩ := hb.plain
  refine P.add_list (s := ⟨h, g, d, t, o⟩) e0 e1 ?_ (by rw [List.size_toArray, List.size_toArray, sizeLine_eq]; omega)
  rw [List.append_toArray]
  exact hQ _ _ (D.push ⟨rfl, rfl, rfl, 0, rfl⟩ rfl)
theorem intsAre_items : ∀ {vs : List Value} {ns : List Int}, IntsAre vs ns → ∃ xs : Array (Int × Tok), vs.toArray = intItems xs ∧ preSum (numAt xs) xs.size = ns.sum := by
  intro vs ns hi
  obtain ⟨xs, e⟩ := hi.allInts.items
  refine ⟨xs, e, ?_⟩
  rw [preSum_eq, List.take_of_length_le (by simp)]
  have := hi.numsOf
  rw [show vs = vs.toArray.toList from rfl, e, nums_intItems] at this
  rw [this]
theorem r_sum {a : Addr} {xs : List Value} {ns : List Int} {Q : Value → Shared → Prop} (hh : A.handled = none) (D : St mg mb h₀ N h) (hl : (Fact.lst xs).at h a) (hi : IntsAre xs ns) (hQ : ∀ h' t' tk, St mg mb h₀ N h' → Q (.int ns.sum tk) ⟨h', g, d, t', o⟩) :
    wpAny (model prog w) A (call (.builtin "sum") [.ref a]) Q X ⟨h, g, d, t, o⟩ := by
  obtain ⟨ys, e1, e2⟩ := intsAre_items hi
  refine sum_intListG (s := ⟨h, g, d, t, o⟩) (xs := ys) hh (e1 ▸ hl.isList) fun h' tk t' k => ?_
  rw [e2]; exact hQ _ _ _ (D.ext k)
theorem r_list_copy {a : Addr} {xs : List Value} {Q : Value → Shared → Prop} (D : St mg mb h₀ N h) (hl : (Fact.lst xs).at h a) (hz : xs.length ≤ 1000) (hQ : ∀ c h', St mg mb h₀ ((c, .lst xs) :: N) h' → Q (.ref c) ⟨h', g, d, t, o⟩) :
    wpAny (model prog w) A (call (.type "list") [.ref a]) Q X ⟨h, g, d, t, o⟩ := by
  obtain ⟨n, e0⟩ := hl.plain
  exact call_list_seq (s := ⟨h, g, d, t, o⟩) (hsz := by rw [List.size_toArray, sizeLine_eq]; omega) a (.inl rfl) e0 rfl rfl fun h' c' k hD => hQ _ h' (D.put k ⟨_, hD, rfl, rfl, rfl, c', rfl⟩ (none_of_ge (Nat.le_refl _)))
theorem r_eq_nil {a b : Addr} {xs : List Value} {Q : Value → Shared → Prop} (hl : (Fact.lst xs).at h a) (hb : (Fact.lst []).at h b) (hu : A.units < cLine) (hQ : Q (.bool xs.isEmpty) ⟨h, g, d, t, o⟩) :
    wpAny (model prog w) A (compareOp .Eq (.ref a) (.ref b)) Q X ⟨h, g, d, t, o⟩ := by
  cases xs with
  | nil => exact SeqAt.eq_listAt (s := ⟨h, g, d, t, o⟩) (e := fun _ => true) hl.isList hb.isList rfl hu (fun j h1 _ => absurd h1 (by simp)) hQ
  | cons x r => exact SeqAt.eq_list_lengthsAt (s := ⟨h, g, d, t, o⟩) hl.isList hb.isList (by simp) hu hQ
theorem r_ne_nil {a b : Addr} {xs : List Value} {Q : Value → Shared → Prop} (hl : (Fact.lst xs).at h a) (hb : (Fact.lst []).at h b) (hu : A.units < cLine) (hQ : Q (.bool (!xs.isEmpty)) ⟨h, g, d, t, o⟩) :
    wpAny (model prog w) A (compareOp .NotEq (.ref a) (.ref b)) Q X ⟨h, g, d, t, o⟩ := by
  obtain ⟨n, e0⟩ := hl.plain
  obtain ⟨n2, e1⟩ := hb.plain
  cases xs with
  | nil =>
    exact richCompare_meets_room (op := .NotEq) (s := ⟨h, g, d, t, o⟩) ⟨_, e0, rfl⟩ ⟨_, e1, rfl⟩ F.slot_list_ne F.entry_list_ne (F.args_list_ne_2 _ _) (SeqAt.list_neAt a b _ _ n n2 none none #[] #[] rfl fun _ => true)
      ⟨e0, e1, fun j h1 _ => absurd h1 (by simp), show Value.bool false ≠ Value.notImplemented ∧ Q (.bool false) _ from ⟨(fun x => nomatch x), hQ⟩⟩ hu
  | cons x r =>
    exact richCompare_meets_room (op := .NotEq) (s := ⟨h, g, d, t, o⟩) ⟨_, e0, rfl⟩ ⟨_, e1, rfl⟩ F.slot_list_ne F.entry_list_ne (F.args_list_ne_2 _ _) (SeqAt.list_ne_lengthsAt a b _ _ n n2 none none #[] #[] (by simp))
      ⟨e0, e1, show Value.bool true ≠ Value.notImplemented ∧ Q (.bool true) _ from ⟨(fun x => nomatch x), hQ⟩⟩ hu
end
end Mine

end
section
open PySem PySem.Calls PySem.W PyProof.Rows
set_option maxRecDepth 100000
set_option maxHeartbeats 1000000
namespace Mine
local macro_rules | `(tactic| walk_at "mem") => `(tactic| first | exact List.Mem.head _ | (refine List.Mem.tail _ ?_; walk_at "mem"))
local macro_rules | `(tactic| walk_at "upd") => `(tactic| first | exact Upd.head | (apply Upd.tail; walk_at "upd"))
local macro_rules | `(tactic| walk_at "del") => `(tactic| first | exact Del.head | (apply Del.tail; walk_at "del"))
local macro_rules | `(tactic| walk_at "sees") => `(tactic| first | exact Sees.nil | (refine Sees.cons (by rfl) ?_; walk_at "sees"))
local macro_rules | `(tactic| walk_at "subl") => `(tactic| first | exact List.Sublist.slnil | (refine List.Sublist.cons_cons _ ?_; walk_at "subl") | (refine List.Sublist.cons _ ?_; walk_at "subl"))
local macro_rules | `(tactic| walk_at "fact") => `(tactic| first | exact St.get (by assumption) (by walk_at "mem") | exact St.oldf (by assumption) (by assumption) | assumption)
local macro_rules | `(tactic| walk_at "xname") => `(tactic| first
  | refine r_local (by assumption) (by walk_at "mem") (by rfl) ?_
  | refine r_blt (by assumption) (by rfl) ?_
  | refine r_cell (by assumption) (by rfl) (by walk_at "mem") ?_
  | refine r_glob (by assumption) (by first | assumption | exact FnAt.g (by assumption)) ?_)
local macro_rules | `(tactic| walk_at "xconst") => `(tactic| first
  | refine r_int fun _ _ => ?_
  | refine r_str fun _ _ => ?_
  | refine r_bytes fun _ _ => ?_
  | refine wpAny_Constant_bool ?_
  | refine wpAny_Constant_none ?_)
local macro_rules | `(tactic| walk_at "xeval") => `(tactic| first
  | ((with_reducible show wpAny _ _ (eval (Expr.Name _ _) _) _ _ _); walk_at "xname")
  | ((with_reducible show wpAny _ _ (eval (Expr.Constant _ _ _) _) _ _ _); walk_at "xconst")
  | ((with_reducible show wpAny _ _ (eval (Expr.Call (Expr.Attribute _ _ _) _ _ _) _) _ _ _); refine MethodCall_ ?_)
  | ((with_reducible show wpAny _ _ (eval (Expr.Call _ _ _ _) _) _ _ _); refine Call_ ?_)
  | with_reducible refine wpAny_BinOp ?_
  | ((with_reducible show wpAny _ _ (eval (Expr.Compare _ [_] [_] _) _) _ _ _); refine wpAny_Compare1 ?_)
  | ((with_reducible show wpAny _ _ (eval (Expr.Subscript _ _ _) _) _ _ _); refine Subscript_ ?_)
  | ((with_reducible show wpAny _ _ (eval (Expr.Slice none (some _) none _) _) _ _ _); refine e_slice_nu ?_)
  | ((with_reducible show wpAny _ _ (eval (Expr.IfExp _ _ _ _) _) _ _ _); refine wpAny_IfExp ?_)
  | ((with_reducible show wpAny _ _ (eval (Expr.Tuple _ _ _) _) _ _ _); refine Tuple_ ?_)
  | ((with_reducible show wpAny _ _ (eval (Expr.List _ _) _) _ _ _); refine List_ ?_)
  | ((with_reducible show wpAny _ _ (eval (Expr.UnaryOp _ _ _) _) _ _ _); refine wpAny_UnaryOp ?_))
local macro_rules | `(tactic| walk_at "xexec") => `(tactic| first
  | ((with_reducible show wpAny _ _ (exec (Stmt.Assign [Expr.Name _ _] _ _) _) _ _ _); refine wpAny_Assign_Name ?_)
  | ((with_reducible show wpAny _ _ (exec (Stmt.If _ _ _ _) _) _ _ _); refine wpAny_If ?_)
  | ((with_reducible show wpAny _ _ (exec (Stmt.Return (some _) _) _) _ _ _); refine wpAny_Return_some ?_)
  | ((with_reducible show wpAny _ _ (exec (Stmt.Break _) _) _ _ _); refine wpAny_Break ?_)
  | ((with_reducible show wpAny _ _ (exec (Stmt.Expr _ _) _) _ _ _); refine wpAny_Expr ?_)
  | ((with_reducible show wpAny _ _ (exec (Stmt.For _ _ _ _ _) _) _ _ _); refine r_For ?_)
  | ((with_reducible show wpAny _ _ (exec (Stmt.While _ _ _ _) _) _ _ _); refine r_While ?_)
  | ((with_reducible show wpAny _ _ (exec (Stmt.AugAssign (Expr.Name _ _) _ _ _) _) _ _ _); refine wpAny_AugAssign_Name ?_))
local macro_rules | `(tactic| walk_at "xtrue") => `(tactic| first
  | ((with_reducible show wpAny _ _ (isTrue (Expr.Compare _ [_] [_] _) _ _) _ _ _); refine wpAny_isTrue_Compare1 ?_)
  | ((with_reducible show wpAny _ _ (isTrue (Expr.BoolOp _ _ _) _ _) _ _ _); refine wpAny_isTrue_BoolOp ?_)
  | ((with_reducible show wpAny _ _ (isTrue (Expr.UnaryOp UnaryOp.Not _ _) _ _) _ _ _); refine wpAny_isTrue_Not ?_)
  | ((with_reducible show wpAny _ _ (isTrue (Expr.Call _ _ _ _) _ _) _ _ _); refine wpAny_isTrue_value ?_)
  | ((with_reducible show wpAny _ _ (isTrue (Expr.Name _ _) _ _) _ _ _); refine wpAny_isTrue_value ?_))
local macro_rules | `(tactic| walk_at "xcall") => `(tactic| first
  | ((with_reducible show wpAny _ _ (call (Value.type "range") [Value.int _ _]) _ _ _); refine r_range (by assumption) ?_; intro _ _ _ _ _ _)
  | ((with_reducible show wpAny _ _ (call (Value.builtin "list.append") [_, _]) _ _ _); refine r_append (by assumption) (by walk_at "upd") ?_; intro _ _)
  | ((with_reducible show wpAny _ _ (call (Value.builtin "len") [Value.ref _]) _ _ _); refine r_len_list (by walk_at "fact") (by first | assumption | decide | omega) ?_; intro _ _)
  | ((with_reducible show wpAny _ _ (call (Value.type "type") [Value.str _ _]) _ _ _); refine call_type_of (Tx := "str") rfl (by decide) ?_)
  | ((with_reducible show wpAny _ _ (call (Value.type "type") [Value.bytes _ _]) _ _ _); refine call_type_of (Tx := "bytes") rfl (by decide) ?_)
  | ((with_reducible show wpAny _ _ (call (Value.builtin "issubclass") [Value.type "str", _]) _ _ _); refine r_issub_str (by assumption) (by walk_at "mem") ?_)
  | ((with_reducible show wpAny _ _ (call (Value.builtin "issubclass") [Value.type "bytes", _]) _ _ _); refine r_issub_bytes (by assumption) (by walk_at "mem") ?_)
  | ((with_reducible show wpAny _ _ (call (Value.builtin "isinstance") [Value.str _ _, Value.type "bytes"]) _ _ _); refine IsiPair.str_bytes ?_)
  | ((with_reducible show wpAny _ _ (call (Value.builtin "isinstance") [Value.bytes _ _, Value.type "bytes"]) _ _ _); refine call_isinstance_yes (typeIs_bytes _ _ _) F.isi_meta_bytes F.isi_self_bytes ?_))
local macro_rules | `(tactic| walk_at "xop") => `(tactic| first
  | ((with_reducible show wpAny _ _ (binaryOp Operator.Add (Value.int _ _) (Value.int _ _)) _ _ _); refine r_add ?_; intro _ _)
  | ((with_reducible show wpAny _ _ (binaryOp Operator.Sub (Value.int _ _) (Value.int _ _)) _ _ _); refine r_sub ?_; intro _ _)
  | ((with_reducible show wpAny _ _ (binaryOp Operator.Mod (Value.int _ _) (Value.int _ _)) _ _ _); refine r_mod (by decide) ?_; intro _ _)
  | ((with_reducible show wpAny _ _ (binaryOp Operator.Mult (Value.int _ _) (Value.int _ _)) _ _ _); refine r_mul ?_; intro _ _)
  | ((with_reducible show wpAny _ _ (binaryOp Operator.FloorDiv (Value.int _ _) (Value.int _ _)) _ _ _); refine r_fdiv (by decide) (PyProof.noPylong_small (by decide)) ?_; intro _ _)
  | ((with_reducible show wpAny _ _ (binaryOp Operator.BitAnd (Value.int _ _) (Value.int _ _)) _ _ _); refine r_and ?_; intro _ _))
local macro_rules | `(tactic| walk_at "xcmp") => `(tactic| first
  | ((with_reducible show wpAny _ _ (compareOp CmpOp.Eq (Value.int _ _) (Value.int _ _)) _ _ _); refine r_eq ?_)
  | ((with_reducible show wpAny _ _ (compareOp CmpOp.NotEq (Value.int _ _) (Value.int _ _)) _ _ _); refine r_ne ?_)
  | ((with_reducible show wpAny _ _ (compareOp CmpOp.Lt (Value.int _ _) (Value.int _ _)) _ _ _); refine r_lt ?_))
local macro_rules | `(tactic| walk_at "x1") => `(tactic| first
  | ((with_reducible show wpAny _ _ (eval _ _) _ _ _); walk_at "xeval")
  | ((with_reducible show wpAny _ _ (spliced _) _ _ _); first
    | ((with_reducible show wpAny _ _ (spliced (backTo _ (starEach [] _))) _ _ _); refine args_nil ?_; (try simp only [List.nil_append, List.cons_append]))
    | ((with_reducible show wpAny _ _ (spliced (backTo _ (starEach (_ :: _) _))) _ _ _); refine args_cons ?_))
  | ((with_reducible show wpAny _ _ (callWith _ _ _ _ _) _ _ _); first
    | ((with_reducible show wpAny _ _ (callWith _ (Value.builtin _) _ _ _) _ _ _); refine cw_blt ?_)
    | ((with_reducible show wpAny _ _ (callWith _ (Value.ref _) _ _ _) _ _ _); refine cw_fn ?_)
    | ((with_reducible show wpAny _ _ (callWith _ (Value.type _) _ _ _) _ _ _); refine cw_type ?_))
  | ((with_reducible show wpAny _ _ (execs _ _) _ _ _); first
    | ((with_reducible show wpAny _ _ (execs (_ :: _) _) _ _ _); refine wpAny_execs_cons ?_)
    | ((with_reducible show wpAny _ _ (execs [] _) _ _ _); refine wpAny_execs_nil ?_))
  | ((with_reducible show wpAny _ _ (exec _ _) _ _ _); walk_at "xexec")
  | ((with_reducible show wpAny _ _ (storeName _ _ _) _ _ _); first | (refine r_st (by assumption) (by walk_at "upd") ?_; intro _ _ _) | (refine r_stc (by assumption) (by rfl) (by walk_at "upd") ?_; intro _ _ _))
  | ((with_reducible show wpAny _ _ (isTrue _ _ _) _ _ _); walk_at "xtrue")
  | ((with_reducible show wpAny _ _ (truthy (Value.bool _)) _ _ _); refine wpAny_truthy_bool ?_)
  | ((with_reducible show wpAny _ _ (call _ _ _) _ _ _); walk_at "xcall")
  | ((with_reducible show wpAny _ _ (binaryOp _ _ _) _ _ _); walk_at "xop")
  | ((with_reducible show wpAny _ _ (compareOp _ _ _) _ _ _); walk_at "xcmp")
  | ((with_reducible show wpAny _ _ (subscriptTail _ _ (Value.ref _) (Value.int _ _)) _ _ _); refine t_list_item (by walk_at "fact") (by decide) (by decide) (by rfl) ?_)
  | ((with_reducible show wpAny _ _ (inplaceOp Operator.Add (Value.int _ _) (Value.int _ _)) _ _ _); refine r_iadd ?_; intro _ _)
  | ((with_reducible show wpAny _ _ (loadName _ _) _ _ _); first
    | refine r_localN (by assumption) (by walk_at "mem") (by rfl) ?_
    | refine r_cellN (by assumption) (by rfl) (by walk_at "mem") ?_)
  | ((with_reducible show wpAny _ _ (forIn [] _ _) _ _ _); refine wpAny_tests_nil ?_)
  | ((with_reducible show wpAny _ _ (forIn [_] _ _) _ _ _); refine wpAny_tests_one ?_)
  | ((with_reducible show wpAny _ _ (emitL _ _ _) _ _ _); refine wp_emitL ?_)
  | ((with_reducible show wpAny _ _ (emitS _ _ _) _ _ _); refine wp_emitS ?_)
  | ((with_reducible show wpAny _ _ (assign (Expr.Name _ _) _ _) _ _ _); refine wpAny_assign_Name ?_)
  | ((with_reducible show wpAny _ _ (getMethod (Value.ref _) _ _) _ _ _); (with_reducible refine gm_append ?_ ?_); (· exact ⟨_, by walk_at "fact"⟩))
  | ((with_reducible show wpAny _ _ (letOwnedTupleGo (Expr.Name _ _) _ _) _ _ _); refine wpAny_pure ?_)
  | ((with_reducible show wpAny _ _ (newTuple _) _ _ _); refine r_newTuple (by assumption) ?_; intro _ _ _)
  | ((with_reducible show wpAny _ _ (newList _) _ _ _); refine r_newList (by assumption) ?_; intro _ _ _)
  | ((with_reducible show wpAny _ _ (newFields "slice" [_, _, Value.none]) _ _ _); refine r_newSlice (by assumption) ?_; intro _ _ _)
  | ((with_reducible show wpAny _ _ (allTrue _ _ _) _ _ _); first
    | ((with_reducible show wpAny _ _ (allTrue BoolOp.And (_ :: _) _) _ _ _); refine wpAny_allTrue_And_cons ?_)
    | ((with_reducible show wpAny _ _ (allTrue BoolOp.Or (_ :: _) _) _ _ _); refine wpAny_allTrue_Or_cons ?_)
    | refine wpAny_allTrue_And_nil ?_ | refine wpAny_allTrue_Or_nil ?_)
  | ((with_reducible show ite _ _ _); (first | rw [if_pos rfl] | rw [if_neg Bool.false_ne_true])))
/-! numbers -/
theorem band_nat (x y : Nat) : Builtin.bitAnd ((x : Nat) : Int) ((y : Nat) : Int) = ((x &&& y : Nat) : Int) := by
  unfold Builtin.bitAnd
  rw [decide_eq_true (Int.natCast_nonneg x), decide_eq_true (Int.natCast_nonneg y)]
  simp
theorem band_zero (x y : Nat) : decide (Builtin.bitAnd ((x : Nat) : Int) ((y : Nat) : Int) = 0) = decide (x &&& y = 0) := by
  rw [band_nat]; exact decide_eq_decide.mpr (by omega)
theorem band_nz (x y : Nat) : decide (Builtin.bitAnd ((x : Nat) : Int) ((y : Nat) : Int) ≠ 0) = decide (x &&& y ≠ 0) := by
  rw [band_nat]; exact decide_eq_decide.mpr (by omega)
theorem sel_bit (c k : Nat) : decide (Builtin.bitAnd (((c : Nat) : Int).fdiv (2 ^ ((k : Nat) : Int).toNat)) 1 = 1) = c.testBit k := by
  have e : (2 : Int) ^ ((k : Nat) : Int).toNat = ((2 ^ k : Nat) : Int) := by rw [Int.toNat_natCast, Int.natCast_pow]; rfl
  rw [e, nat_fdiv, show (1 : Int) = ((1 : Nat) : Int) from rfl, band_nat, Nat.and_one_is_mod, Nat.testBit_eq_decide_div_mod_eq]
  exact decide_eq_decide.mpr (by omega)
section
variable {prog : Program} {w : World} {A : Around} {X : Value → Shared → Prop} {g : Array GenState} {d : Drawn} {t : Nat} {o : OsState} {mg mb : Str → Option Value} {h₀ h : Heap} {N N' : List (Addr × Fact)} {env : Env}
/-! ranges from a start -/
abbrev rng2Obj (m n : Int) (a b c : Nat) : Obj := { cls := .type "range", dict := none, data := .fields #[.int m a, .int n b, .int 1 c], slots := #[] }
theorem r_range2 {m n : Int} {tk tk' : Nat} {Q : Value → Shared → Prop} (D : St mg mb h₀ N h) (hQ : ∀ a y h' t', St mg mb h₀ ((a, .obj (rng2Obj m n tk tk' y)) :: N) h' → Q (.ref a) ⟨h', g, d, t', o⟩) :
    wpAny (model prog w) A (call (.type "range") [.int m tk, .int n tk']) Q X ⟨h, g, d, t, o⟩ := call_range_2 (hQ _ _ _ _ (D.push rfl rfl))
theorem pi_range2 {m n : Nat} {r : Addr} {a b c : Nat} {Q : Value → Shared → Prop} (D : St mg mb h₀ N h) (hm : (r, Fact.obj (rng2Obj m n a b c)) ∈ N) (hl : m ≤ n) (hn : n ≤ 1000000)
    (hQ : ∀ I h', St mg mb h₀ ((I, .obj (rgObj ((m : Nat) : Int) ((n - m : Nat) : Int))) :: N) h' → Q (.ref I) ⟨h', g, d, t, o⟩) :
    wpAny (model prog w) A (pyIter (.ref r)) Q X ⟨h, g, d, t, o⟩ := by
  obtain ⟨ob, ho, rfl⟩ := D.get hm
  have e : Builtin.Range.rangeSize (m : Int) (n : Int) 1 = ((n - m : Nat) : Int) := by rw [rangeSize_one]; split <;> omega
  refine wpAny_pyIter_range (s := ⟨h, g, d, t, o⟩) ho (small_one (by omega) (by omega) (by omega) (by omega)) ?_
  rw [e]
  exact hQ _ _ (D.push rfl rfl)
/-! three names from a tuple -/
theorem lo_tuple {I l T : Addr} {k : Nat} {xs : List Expr} {x1 : Nat} {pos : Pos} {Q : Unit → Shared → Prop} {s : Shared} (hi : (Fact.li l k).at s.heap I) (hQ : Q () s) :
    wpAny (model prog w) A (letOwnedTupleGo (.Tuple xs x1 pos) (.ref I) (.ref T)) Q X s := wpAny_letOwnedTupleGo_listiter hi.isLi hQ
theorem as_triple {a : Addr} {x y z : Value} {xi xv xw : Str} {pi pv pw pt : Pos} {k : Nat} {Q : Unit → Shared → Prop} (hh : A.handled = none) (D : St mg mb h₀ N h) (ht : (Fact.tup [x, y, z]).at h a)
    (hQ : ∀ h', St mg mb h₀ N h' → wpAny (model prog w) A (storeName env xi x) (fun _ s₁ => wpAny (model prog w) A (storeName env xv y) (fun _ s₂ => wpAny (model prog w) A (storeName env xw z) (fun _ s₃ => Q () s₃) X s₂) X s₁) X ⟨h', g, d, t, o⟩) :
    wpAny (model prog w) A (assign (.Tuple [.Name xi pi, .Name xv pv, .Name xw pw] k pt) env (.ref a)) Q X ⟨h, g, d, t, o⟩ := by
  refine wpAny_assign_Tuple (s := ⟨h, g, d, t, o⟩) hh ht.isTuple rfl rfl fun h₃ hx₃ => ?_
  have D' : St mg mb h₀ N h₃ := D.ext fun b ob e => hx₃ b ob (Nat.ne_of_lt (Heap.lt_size e)) e
  show wpAny _ A (do holding [y, z] (assign (.Name xi pi) env x); do holding [z] (assign (.Name xv pv) env y); do holding [] (assign (.Name xw pw) env z); pure ()) _ _ _
  refine wpAny_bind (wpAny_holding (wpAny_assign_Name (wpAny_mono (hQ h₃ D') (fun _ s₁ h₁ => ?_) fun _ _ e => e)))
  refine wpAny_bind (wpAny_holding (wpAny_assign_Name (wpAny_mono h₁ (fun _ s₂ h₂ => ?_) fun _ _ e => e)))
  exact wpAny_bind (wpAny_holding (wpAny_assign_Name (wpAny_mono h₂ (fun _ s₃ h₃ => wpAny_pure h₃) fun _ _ e => e)))
/-! comprehensions of two clauses -/
theorem wp_innerL {elt iter : Expr} {gens : List Comprehension} {scope : Scope} {pos : Pos} {acc : Value} {Q : Unit → Shared → Prop} {s : Shared}
    (h : wpAny (model prog w) A (eval iter env) (fun x s₁ => wpAny (model prog w) A (pyIter x) (fun it s₂ => ∀ R : Result → Shared → Prop, (∀ s', Q () s' → R (.ok .next) s') → codeAny (model prog w) A (.compStart (.ListComp elt gens scope pos) 1 it acc env) R s₂) X s₁) X s)
    (hs : ∀ x, foldedSetIterable iter env x = pure x := by intro _; rfl) :
    wpAny (model prog w) A (innerL elt gens iter scope pos acc env) Q X s := by
  unfold innerL
  refine wpAny_bind (wpAny_mono h (fun x s₁ h₁ => ?_) fun _ _ e => e)
  refine wpAny_bind (wpAny_standAt ?_)
  rw [hs]
  refine wpAny_bind (wpAny_pure ?_)
  refine wpAny_bind (wpAny_holding (wpAny_mono h₁ (fun it s₂ h₂ => ?_) fun _ _ e => e))
  refine wpAny_bind (wpAny_runOwn (h₂ _ fun s' hq => ?_))
  exact wpAny_pure hq
end
end Mine

end
section
open PySem PySem.Calls PySem.W PyProof.Rows
set_option maxRecDepth 100000
set_option maxHeartbeats 4000000
namespace Mine
/-! the sort's tree of questions, over any strict order of the places -/
theorem kasWp_ask {α : Type} {i j : Nat} {k : Bool → KasT α} {cmp : Nat → Nat → (Bool → Shared → Prop) → Shared → Prop} {Q : α → Shared → Prop} {s : Shared}
    (h : cmp i j (fun b s' => (k b).kasWp cmp Q s') s) : (KasT.ask i j k).kasWp cmp Q s := h
def has (k : Nat) : List Nat → Bool
  | [] => false
  | a :: r => Nat.beq a k || has k r
def hasAll (l : List Nat) : Nat → Bool
  | 0 => true
  | n + 1 => has n l && hasAll l n
def below (n : Nat) : List Nat → Bool
  | [] => true
  | a :: r => Nat.blt a n && below n r
def hasP (i j : Nat) : List (Nat × Nat) → Bool
  | [] => false
  | a :: r => (Nat.beq a.1 i && Nat.beq a.2 j) || hasP i j r
def chainIn (ans : List (Nat × Nat)) : List Nat → Bool
  | [] => true
  | [_] => true
  | a :: b :: r => hasP a b ans && chainIn ans (b :: r)
def okP (n : Nat) (l : List Nat) (ans : List (Nat × Nat)) : Bool := below n l && hasAll l n && Nat.beq l.length n && chainIn ans l
def preds (i : Nat) : List (Nat × Nat) → List Nat
  | [] => []
  | a :: r => if Nat.beq a.2 i = true then a.1 :: preds i r else preds i r
def succs (j : Nat) : List (Nat × Nat) → List Nat
  | [] => []
  | a :: r => if Nat.beq a.1 j = true then a.2 :: succs j r else succs j r
def row1 (a : Nat) (ans : List (Nat × Nat)) : List Nat → List (Nat × Nat)
  | [] => ans
  | b :: r => if hasP a b ans = true then row1 a ans r else (a, b) :: row1 a ans r
def rows2 (ans : List (Nat × Nat)) (bs : List Nat) : List Nat → List (Nat × Nat)
  | [] => ans
  | a :: r => row1 a (rows2 ans bs r) bs
def addP (i j : Nat) (ans : List (Nat × Nat)) : List (Nat × Nat) := if hasP i j ans = true then ans else rows2 ans (j :: succs j ans) (i :: preds i ans)
def force (i : Nat) (f : Nat → Bool) : Bool := bif Nat.beq i 0 then f 0 else bif Nat.beq i 1 then f 1 else bif Nat.beq i 2 then f 2 else bif Nat.beq i 3 then f 3 else bif Nat.beq i 4 then f 4 else bif Nat.beq i 5 then f 5 else false
def walkT (n : Nat) : KasT (Array Nat) → List (Nat × Nat) → Bool
  | .ret p, ans => okP n p.toList ans
  | .ask i j k, ans => force i fun i => force j fun j => Nat.blt i n && Nat.blt j n && !Nat.beq i j && (hasP j i ans || walkT n (k true) (addP i j ans)) && (hasP i j ans || walkT n (k false) (addP j i ans))
/-- the same, along the answers given first -/
def walkP (n : Nat) : List Bool → KasT (Array Nat) → List (Nat × Nat) → Bool
  | [], t, ans => walkT n t ans
  | _ :: _, .ret p, ans => okP n p.toList ans
  | true :: r, .ask i j k, ans => force i fun i => force j fun j => Nat.blt i n && Nat.blt j n && !Nat.beq i j && (hasP j i ans || walkP n r (k true) (addP i j ans))
  | false :: r, .ask i j k, ans => force i fun i => force j fun j => Nat.blt i n && Nat.blt j n && !Nat.beq i j && (hasP i j ans || walkP n r (k false) (addP j i ans))
theorem force_to {f : Nat → Bool} : ∀ {i : Nat}, force i f = true → f i = true
  | 0, h => h
  | 1, h => h
  | 2, h => h
  | 3, h => h
  | 4, h => h
  | 5, h => h
  | _ + 6, h => by cases h
theorem force_of {f : Nat → Bool} : ∀ {i : Nat}, i < 6 → f i = true → force i f = true
  | 0, _, h => h
  | 1, _, h => h
  | 2, _, h => h
  | 3, _, h => h
  | 4, _, h => h
  | 5, _, h => h
  | _ + 6, q, _ => absurd q (by omega)
theorem force_lt {f : Nat → Bool} : ∀ {i : Nat}, force i f = true → i < 6
  | 0, _ => by decide
  | 1, _ => by decide
  | 2, _ => by decide
  | 3, _ => by decide
  | 4, _ => by decide
  | 5, _ => by decide
  | _ + 6, h => by cases h
theorem walk_split {n : Nat} : ∀ (d : Nat) (t : KasT (Array Nat)) (ans : List (Nat × Nat)), (∀ l : List Bool, l.length = d → walkP n l t ans = true) → walkT n t ans = true
  | 0, t, ans, h => h [] rfl
  | d + 1, .ret p, ans, h => by
    have := h (List.replicate (d + 1) true) (List.length_replicate ..)
    rw [List.replicate_succ, walkP] at this
    rw [walkT]; exact this
  | d + 1, .ask i j k, ans, h => by
    have h1 : ∀ l : List Bool, l.length = d → walkP n (true :: l) (.ask i j k) ans = true := fun l hl => h _ (by rw [List.length_cons, hl])
    have h2 : ∀ l : List Bool, l.length = d → walkP n (false :: l) (.ask i j k) ans = true := fun l hl => h _ (by rw [List.length_cons, hl])
    have e := h1 _ (List.length_replicate (n := d) (a := true))
    rw [walkP] at e
    have hi := force_lt e
    have e := force_to e
    have hj := force_lt e
    have e := force_to e
    rw [Bool.and_eq_true] at e
    rw [walkT]
    refine force_of hi (force_of hj ?_)
    rw [Bool.and_eq_true, Bool.and_eq_true]
    refine ⟨⟨e.1, ?_⟩, ?_⟩
    · cases c : hasP j i ans with
      | true => rfl
      | false =>
        rw [Bool.false_or]
        refine walk_split d (k true) _ fun l hl => ?_
        have q := h1 l hl
        rw [walkP] at q
        have q := force_to (force_to q)
        rw [Bool.and_eq_true, c, Bool.false_or] at q
        exact q.2
    · cases c : hasP i j ans with
      | true => rfl
      | false =>
        rw [Bool.false_or]
        refine walk_split d (k false) _ fun l hl => ?_
        have q := h2 l hl
        rw [walkP] at q
        have q := force_to (force_to q)
        rw [Bool.and_eq_true, c, Bool.false_or] at q
        exact q.2
theorem run2 : walkT 2 (kas_sort 2) [] = true := by decide +kernel
theorem run3 : walkT 3 (kas_sort 3) [] = true := by decide +kernel
theorem run4 : walkT 4 (kas_sort 4) [] = true := by decide +kernel
theorem run5 : walkT 5 (kas_sort 5) [] = true := by decide +kernel
theorem run6a : walkP 6 [true, true, true] (kas_sort 6) [] = true := by decide +kernel
theorem run6b : walkP 6 [true, true, false] (kas_sort 6) [] = true := by decide +kernel
theorem run6c : walkP 6 [true, false, true] (kas_sort 6) [] = true := by decide +kernel
theorem run6d : walkP 6 [true, false, false] (kas_sort 6) [] = true := by decide +kernel
theorem run6e : walkP 6 [false, true, true] (kas_sort 6) [] = true := by decide +kernel
theorem run6f : walkP 6 [false, true, false] (kas_sort 6) [] = true := by decide +kernel
theorem run6g : walkP 6 [false, false, true] (kas_sort 6) [] = true := by decide +kernel
theorem run6h : walkP 6 [false, false, false] (kas_sort 6) [] = true := by decide +kernel
theorem run6 : walkT 6 (kas_sort 6) [] = true := walk_split 3 _ _ fun l hl => by
  match l, hl with
  | [true, true, true], _ => exact run6a
  | [true, true, false], _ => exact run6b
  | [true, false, true], _ => exact run6c
  | [true, false, false], _ => exact run6d
  | [false, true, true], _ => exact run6e
  | [false, true, false], _ => exact run6f
  | [false, false, true], _ => exact run6g
  | [false, false, false], _ => exact run6h
theorem has_mem {k : Nat} : ∀ {l : List Nat}, has k l = true → k ∈ l
  | [], h => by cases h
  | a :: r, h => by
    rw [has, Bool.or_eq_true, Nat.beq_eq] at h
    rcases h with h | h
    · rw [h]; exact .head _
    · exact .tail _ (has_mem h)
theorem hasAll_mem {l : List Nat} : ∀ {n : Nat}, hasAll l n = true → ∀ k, k < n → k ∈ l
  | 0, _, k, hk => absurd hk (Nat.not_lt_zero _)
  | n + 1, h, k, hk => by
    rw [hasAll, Bool.and_eq_true] at h
    rcases Nat.lt_or_ge k n with q | q
    · exact hasAll_mem h.2 k q
    · rw [show k = n by omega]; exact has_mem h.1
theorem below_lt {n : Nat} : ∀ {l : List Nat}, below n l = true → ∀ k ∈ l, k < n
  | [], _, _, hk => nomatch hk
  | a :: r, h, k, hk => by
    rw [below, Bool.and_eq_true, Nat.blt_eq] at h
    rcases List.mem_cons.mp hk with rfl | hk
    · exact h.1
    · exact below_lt h.2 k hk
section
variable {lt : Nat → Nat → Bool}
def Good (lt : Nat → Nat → Bool) (ans : List (Nat × Nat)) : Prop := ∀ p ∈ ans, lt p.1 p.2 = true
theorem hasP_mem {i j : Nat} : ∀ {ans : List (Nat × Nat)}, hasP i j ans = true → (i, j) ∈ ans
  | [], h => by cases h
  | (a, b) :: r, h => by
    rw [hasP, Bool.or_eq_true, Bool.and_eq_true, Nat.beq_eq, Nat.beq_eq] at h
    rcases h with ⟨h1, h2⟩ | h
    · dsimp only at h1 h2; rw [h1, h2]; exact .head _
    · exact .tail _ (hasP_mem h)
theorem preds_mem {i a : Nat} : ∀ {ans : List (Nat × Nat)}, a ∈ preds i ans → (a, i) ∈ ans
  | [], h => nomatch h
  | (x, y) :: r, h => by
    rw [preds] at h
    by_cases c : Nat.beq y i = true
    · rw [if_pos c] at h
      rcases List.mem_cons.mp h with rfl | h
      · rw [Nat.beq_eq] at c; rw [c]; exact .head _
      · exact .tail _ (preds_mem h)
    · rw [if_neg c] at h; exact .tail _ (preds_mem h)
theorem succs_mem {j a : Nat} : ∀ {ans : List (Nat × Nat)}, a ∈ succs j ans → (j, a) ∈ ans
  | [], h => nomatch h
  | (x, y) :: r, h => by
    rw [succs] at h
    by_cases c : Nat.beq x j = true
    · rw [if_pos c] at h
      rcases List.mem_cons.mp h with rfl | h
      · rw [Nat.beq_eq] at c; rw [c]; exact .head _
      · exact .tail _ (succs_mem h)
    · rw [if_neg c] at h; exact .tail _ (succs_mem h)
theorem row1_mem {a : Nat} {ans : List (Nat × Nat)} {p : Nat × Nat} : ∀ {bs : List Nat}, p ∈ row1 a ans bs → p ∈ ans ∨ (p.1 = a ∧ p.2 ∈ bs)
  | [], h => .inl h
  | b :: r, h => by
    rw [row1] at h
    split at h
    · exact (row1_mem h).imp id fun q => ⟨q.1, .tail _ q.2⟩
    · rcases List.mem_cons.mp h with rfl | h
      · exact .inr ⟨rfl, .head _⟩
      · exact (row1_mem h).imp id fun q => ⟨q.1, .tail _ q.2⟩
theorem rows2_mem {ans : List (Nat × Nat)} {bs : List Nat} {p : Nat × Nat} : ∀ {as : List Nat}, p ∈ rows2 ans bs as → p ∈ ans ∨ (p.1 ∈ as ∧ p.2 ∈ bs)
  | [], h => .inl h
  | a :: r, h => by
    rcases row1_mem h with h | h
    · exact (rows2_mem h).imp id fun q => ⟨.tail _ q.1, q.2⟩
    · exact .inr ⟨h.1 ▸ .head _, h.2⟩
theorem addP_good (tr : ∀ a b c, lt a b = true → lt b c = true → lt a c = true) {i j : Nat} {ans : List (Nat × Nat)} (G : Good lt ans) (h : lt i j = true) : Good lt (addP i j ans) := by
  unfold addP
  split
  · exact G
  · intro p hp
    rcases rows2_mem hp with hp | ⟨h1, h2⟩
    · exact G p hp
    · have e1 : p.1 = i ∨ lt p.1 i = true := (List.mem_cons.mp h1).imp id fun q => G _ (preds_mem q)
      have e2 : p.2 = j ∨ lt j p.2 = true := (List.mem_cons.mp h2).imp id fun q => G _ (succs_mem q)
      have e3 : lt p.1 j = true := by
        rcases e1 with e1 | e1
        · rw [e1]; exact h
        · exact tr _ _ _ e1 h
      rcases e2 with e2 | e2
      · rw [e2]; exact e3
      · exact tr _ _ _ e3 e2
theorem chain_pw (tr : ∀ a b c, lt a b = true → lt b c = true → lt a c = true) {ans : List (Nat × Nat)} (G : Good lt ans) : ∀ {l : List Nat}, chainIn ans l = true → l.Pairwise fun a b => lt a b = true
  | [], _ => .nil
  | [a], _ => List.pairwise_singleton _ _
  | a :: b :: r, h => by
    rw [chainIn, Bool.and_eq_true] at h
    have ih := chain_pw tr G h.2
    have hab : lt a b = true := G _ (hasP_mem h.1)
    refine List.pairwise_cons.mpr ⟨fun c hc => ?_, ih⟩
    rcases List.mem_cons.mp hc with rfl | hc
    · exact hab
    · exact tr _ _ _ hab ((List.pairwise_cons.mp ih).1 c hc)
structure Srt (lt : Nat → Nat → Bool) (n : Nat) (l : List Nat) : Prop where
  inn : ∀ k ∈ l, k < n
  all : ∀ k, k < n → k ∈ l
  len : l.length = n
  pw : l.Pairwise fun a b => lt a b = true
theorem walk_sound {n : Nat} (tr : ∀ a b c, lt a b = true → lt b c = true → lt a c = true) (as : ∀ a b, lt a b = true → lt b a = false) (tot : ∀ a b, a ≠ b → lt a b = false → lt b a = true)
    {cmp : Nat → Nat → (Bool → Shared → Prop) → Shared → Prop} {Q : Array Nat → Shared → Prop} {s : Shared} (hc : ∀ i j C, i < n → j < n → C (lt i j) s → cmp i j C s) (hq : ∀ p : Array Nat, Srt lt n p.toList → Q p s) :
    ∀ (t : KasT (Array Nat)) (ans : List (Nat × Nat)), Good lt ans → walkT n t ans = true → t.kasWp cmp Q s
  | .ret p, ans, G, h => by
    rw [walkT, okP, Bool.and_eq_true, Bool.and_eq_true, Bool.and_eq_true, Nat.beq_eq] at h
    exact hq p ⟨below_lt h.1.1.1, hasAll_mem h.1.1.2, h.1.2, chain_pw tr G h.2⟩
  | .ask i j k, ans, G, h => by
    rw [walkT] at h
    replace h := force_to (force_to h)
    rw [Bool.and_eq_true, Bool.and_eq_true, Bool.and_eq_true, Bool.and_eq_true, Nat.blt_eq, Nat.blt_eq, Bool.or_eq_true, Bool.or_eq_true, Bool.not_eq_true', Bool.eq_false_iff, ne_eq, Nat.beq_eq] at h
    obtain ⟨⟨⟨⟨hi, hj⟩, hne⟩, h1⟩, h2⟩ := h
    refine kasWp_ask (hc i j _ hi hj ?_)
    cases e : lt i j with
    | true =>
      rcases h1 with h1 | h1
      · have := as _ _ (G _ (hasP_mem h1)); dsimp only at this; rw [e] at this; cases this
      · exact walk_sound tr as tot hc hq (k true) _ (addP_good tr G e) h1
    | false =>
      have e' := tot i j hne e
      rcases h2 with h2 | h2
      · have := as _ _ e'; rw [show lt i j = true from G _ (hasP_mem h2)] at this; cases this
      · exact walk_sound tr as tot hc hq (k false) _ (addP_good tr G e') h2
theorem run_all : ∀ n, 2 ≤ n → n ≤ 6 → walkT n (kas_sort n) [] = true
  | 2, _, _ => run2
  | 3, _, _ => run3
  | 4, _, _ => run4
  | 5, _, _ => run5
  | 6, _, _ => run6
end
end Mine

end
section
open PySem PySem.Calls PySem.W PyProof.Rows
set_option maxRecDepth 100000
set_option maxHeartbeats 1000000
namespace Mine
/-! sorted, of a list of triples whose second part is the place -/
def ltA (a : Nat → Int) (i j : Nat) : Bool := decide (a i < a j) || (decide (a i = a j) && decide (i < j))
theorem ltA_iff {a : Nat → Int} {i j : Nat} : ltA a i j = true ↔ a i < a j ∨ (a i = a j ∧ i < j) := by
  unfold ltA
  rw [Bool.or_eq_true, Bool.and_eq_true, decide_eq_true_iff, decide_eq_true_iff, decide_eq_true_iff]
theorem ltA_tr {a : Nat → Int} : ∀ i j k, ltA a i j = true → ltA a j k = true → ltA a i k = true := by
  intro i j k; rw [ltA_iff, ltA_iff, ltA_iff]; omega
theorem ltA_as {a : Nat → Int} : ∀ i j, ltA a i j = true → ltA a j i = false := by
  intro i j; rw [ltA_iff, Bool.eq_false_iff, ne_eq, ltA_iff]; omega
theorem ltA_tot {a : Nat → Int} : ∀ i j, i ≠ j → ltA a i j = false → ltA a j i = true := by
  intro i j hne h; rw [Bool.eq_false_iff, ne_eq, ltA_iff] at h; rw [ltA_iff]; omega
def Trip (N : List (Addr × Fact)) (a c : Nat → Int) (k : Nat) (v : Value) : Prop := ∃ ad t1 t2 t3, v = .ref ad ∧ (ad, Fact.tup [.int (a k) t1, .int ((k : Nat) : Int) t2, .int (c k) t3]) ∈ N
theorem katTups_of {h : Heap} : ∀ {vs : List Value}, (∀ v ∈ vs, ∃ ad ob xs n x t, v = .ref ad ∧ h.get? ad = some ob ∧ ob.cls = .type "tuple" ∧ ob.data = .seq xs n ∧ xs[0]? = some (Value.int x t)) →
    ∃ fs, KatTups h vs fs ∧ fs.length = vs.length ∧ ∀ v ∈ fs, ∃ x t, v = Value.int x t
  | [], _ => ⟨[], KatTups.nil, rfl, fun _ hv => nomatch hv⟩
  | v :: vs, H => by
    obtain ⟨fs, h1, h2, h3⟩ := katTups_of (vs := vs) fun u hu => H u (.tail _ hu)
    obtain ⟨ad, ob, xs, n, x, t, rfl, e1, e2, e3, e4⟩ := H _ (.head _)
    refine ⟨.int x t :: fs, KatTups.cons e1 e2 e3 e4 h1, by rw [List.length_cons, List.length_cons, h2], fun u hu => ?_⟩
    rcases List.mem_cons.mp hu with rfl | hu
    · exact ⟨x, t, rfl⟩
    · exact h3 u hu
section
variable {prog : Program} {w : World} {A : Around} {X : Value → Shared → Prop} {g : Array GenState} {d : Drawn} {t : Nat} {o : OsState} {mg mb : Str → Option Value} {h₀ h : Heap} {N N' : List (Addr × Fact)} {a c : Nat → Int} {vs : List Value}
theorem trip_lt {i j : Nat} {x y : Value} {C : Bool → Shared → Prop} {E : Value → Shared → Prop} (D : St mg mb h₀ N h) (hx : Trip N a c i x) (hy : Trip N a c j y) (hC : C (ltA a i j) ⟨h, g, d, t, o⟩) :
    wpAny (model prog w) A (keyLt' (tuples' true) x y) C E ⟨h, g, d, t, o⟩ := by
  obtain ⟨ax, t1, t2, t3, rfl, mx⟩ := hx
  obtain ⟨ay, u1, u2, u3, rfl, my⟩ := hy
  obtain ⟨ox, ex, _, _, _, n, dx⟩ := D.get mx
  obtain ⟨oy, ey, _, _, _, k, dy⟩ := D.get my
  refine kat_lt (s := ⟨h, g, d, t, o⟩) ex dx ey dy ?_
  show KatLex prog w A true (decide (3 < 3)) C [(.int (a i) t1, .int (a j) u1), (.int ((i : Nat) : Int) t2, .int ((j : Nat) : Int) u2), (.int (c i) t3, .int (c j) u3)] 0 _
  refine kat_cons (wpAny_eqBool_int (kat_go (fun e1 => kat_yes ?_) (fun e1 => kat_no ?_)))
  · rw [beq_iff_eq] at e1
    refine kat_cons (wpAny_eqBool_int (kat_go (fun e2 => kat_yes ?_) (fun e2 => kat_no ?_)))
    · rw [beq_iff_eq] at e2
      have e2 : i = j := by omega
      subst e2
      have el : ltA a i i = false := by rw [Bool.eq_false_iff, ne_eq, ltA_iff]; omega
      rw [el] at hC
      refine kat_cons (wpAny_eqBool_int (kat_go (fun e3 => kat_yes (kat_nil hC)) (fun e3 => ?_)))
      rw [beq_eq_false_iff_ne] at e3
      exact absurd rfl e3
    · rw [beq_eq_false_iff_ne] at e2
      show wpAny _ _ (oneLt' false _ _) _ _ _
      refine kat_one _ _ (r_lt ?_)
      show C (decide (((i : Nat) : Int) < ((j : Nat) : Int))) _
      have el : ltA a i j = decide (((i : Nat) : Int) < ((j : Nat) : Int)) := by rw [Bool.eq_iff_iff, ltA_iff, decide_eq_true_iff]; omega
      rw [← el]; exact hC
  · rw [beq_eq_false_iff_ne] at e1
    show wpAny _ _ (oneLt' true _ _) _ _ _
    refine oneLt_int ?_
    have el : ltA a i j = decide (a i < a j) := by rw [Bool.eq_iff_iff, ltA_iff, decide_eq_true_iff]; omega
    rw [← el]; exact hC
theorem list_sort_trips {b : Addr} {P : PySem.Fin → Shared → Prop} (D : St mg mb h₀ ((b, .lst vs) :: N) h) (h1 : 1 ≤ vs.length) (h6 : vs.length ≤ 6) (tr : ∀ k v, vs[k]? = some v → Trip N a c k v)
    (hQ : ∀ p : List Nat, Srt (ltA a) vs.length p → ∀ h', St mg mb h₀ ((b, .lst (p.map fun i => vs.getD i .none)) :: N) h' → P (.done (.ret .none)) ⟨h', g, d, t, o⟩) :
    wpAny (model prog w) A (Builtin.«list.sort» ⟨[.ref b], []⟩) P X ⟨h, g, d, t, o⟩ := by
  rw [list_sort_plain]
  obtain ⟨n, ho⟩ := (D.get (.head _)).plain
  have upd : ∀ {xs ys : List Value} {h : Heap}, St mg mb h₀ ((b, .lst xs) :: N) h → St mg mb h₀ ((b, .lst ys) :: N) (h.update b (Obj.mapSeq fun _ => ys.toArray)) := by
    intro xs ys h D
    obtain ⟨n, ho⟩ := (D.get (.head _)).plain
    exact D.upd .head (Heap.SameBut.update ..).extBut ⟨_, get?_update_seq ho fun _ => ys.toArray, rfl, rfl, rfl, _, rfl⟩
  have D1 : St mg mb h₀ ((b, .lst []) :: N) (h.update b (Obj.mapSeq fun _ => (#[] : Array Value))) := upd (ys := []) D
  have D2 : St mg mb h₀ ((b, .lst []) :: N) (((h.update b (Obj.mapSeq fun _ => (#[] : Array Value))).push (seqObj "tuple" vs.toArray 0)).push (seqObj "list" #[] 0)) := (D1.ext (Ext.push _ _)).ext (Ext.push _ _)
  obtain ⟨e1, ho1⟩ := (D1.get (.head _)).plain
  obtain ⟨e2, ho2⟩ := (D2.get (.head _)).plain
  have e12 : e1 = e2 := by
    have := Heap.get?_push_of_some (seqObj "list" #[] 0) (Heap.get?_push_of_some (seqObj "tuple" vs.toArray 0) ho1)
    rw [ho2] at this
    injection this with this
    injection this with _ _ this
    injection this with _ this
    exact this.symm
  subst e12
  have D3 : ∀ p : List Nat, St mg mb h₀ ((b, .lst (p.map fun i => vs.getD i .none)) :: N) ((((h.update b (Obj.mapSeq fun _ => (#[] : Array Value))).push (seqObj "tuple" vs.toArray 0)).push (seqObj "list" #[] 0)).update b (Obj.mapSeq fun _ => (p.map fun i => vs.getD i .none).toArray)) := fun p => upd D2
  refine wpAny_bind (listItems_at (s := ⟨h, g, d, t, o⟩) ho rfl ?_)
  refine wpAny_bind (listUpdate_at (s := ⟨h, g, d, t, o⟩) ho rfl ?_ (by rw [List.size_toArray, sizeLine_eq]; omega) (Nat.zero_le _))
  refine wpAny_bind (seqEpoch_at (s := ⟨_, g, d, t, o⟩) ho1 rfl ?_)
  refine wpAny_bind (wpAny_newTuple ?_ (by show vs.length ≤ _; rw [sizeLine_eq]; omega))
  refine wpAny_bind (wpAny_newList ?_ (Nat.zero_le _))
  refine wpAny_holding ?_
  show wpAny (model prog w) A _ P X ⟨((h.update b (Obj.mapSeq fun _ => (#[] : Array Value))).push (seqObj "tuple" vs.toArray 0)).push (seqObj "list" #[] 0), g, d, t, o⟩
  generalize ((h.update b (Obj.mapSeq fun _ => (#[] : Array Value))).push (seqObj "tuple" vs.toArray 0)).push (seqObj "list" #[] 0) = H2 at *
  dsimp only
  have hsz : vs.toArray.size = vs.length := by simp
  have tl : ∀ i, i < vs.length → Trip N a c i (vs.getD i .none) := fun i hi => tr i _ (by rw [List.getD_eq_getElem?_getD, List.getElem?_eq_getElem hi]; rfl)
  have fin : ∀ p : List Nat, Srt (ltA a) vs.length p → P (.done (.ret .none)) ⟨H2.update b (Obj.mapSeq fun _ => (p.map fun i => vs.getD i .none).toArray), g, d, t, o⟩ := fun p hp => hQ p hp _ (D3 p)
  by_cases h2 : vs.toArray.size < 2
  · rw [if_pos h2, if_pos h2]
    refine wpAny_bind (wpAny_pure ?_)
    rw [StateT.run_pure]
    refine wpAny_bind (wpAny_pure ?_)
    dsimp only
    obtain ⟨v, rfl⟩ : ∃ v, vs = [v] := by
      match vs, h1, h2 with
      | [], h1, _ => simp at h1
      | [v], _, _ => exact ⟨v, rfl⟩
      | _ :: _ :: _, _, h2 => exfalso; simp at h2; omega
    refine wpAny_bind (seqEpoch_at (s := ⟨H2, g, d, t, o⟩) ho2 rfl ?_)
    have ea : (arrOf (SortSt.mk' general' (([v] : List Value).toArray.zip ([v] : List Value).toArray) #[] 7 none)).map (·.2) = ([0].map fun i => ([v] : List Value).getD i .none).toArray :=
      kat_snds (p := (List.range 1).toArray) (ks := [v]) (vs := [v]) rfl (by
        have e := (kas_range (([v] : List Value).toArray.zip ([v] : List Value).toArray)).symm
        have ez : (([v] : List Value).toArray.zip ([v] : List Value).toArray).size = 1 := by simp
        rw [ez] at e; exact e)
    rw [ea]
    refine wpAny_bind (listUpdate_at (s := ⟨H2, g, d, t, o⟩) ho2 rfl ?_ (Nat.zero_le _) (by show 1 ≤ _; rw [sizeLine_eq]; omega))
    simp only [bne_self_eq_false, Bool.false_eq_true, if_false]
    exact wpAny_pure (fin [0] ⟨by simp, by intro k hk; simp at hk ⊢; omega, rfl, List.pairwise_singleton _ _⟩)
  · rw [if_neg h2, if_neg h2]
    have h2' : 2 ≤ vs.length := by omega
    obtain ⟨fs, f1, f2, f3⟩ := katTups_of (h := H2) (vs := vs) fun v hv => by
      obtain ⟨k, hk, e⟩ := List.getElem_of_mem hv
      obtain ⟨ad, t1, t2, t3, e2, mm⟩ := tr k v (by rw [List.getElem?_eq_getElem hk, e])
      obtain ⟨ob, eo, oc, _, _, n, od⟩ := D2.get (List.Mem.tail _ mm)
      exact ⟨ad, ob, _, n, _, _, e2, eo, oc, od, rfl⟩
    refine wpAny_bind (kat_kind (s := ⟨H2, g, d, t, o⟩) (T := .type "int") f1 (by omega) (fun v hv => ?_) (by rfl) ?_)
    · obtain ⟨x, tk, rfl⟩ := f3 v hv
      exact Looks.of_pure rfl
    · have et : (Value.type "int" != Value.type "tuple") = true := by rfl
      rw [et]
      have ask : (kas_sort vs.length).kasWp (kas_ask prog w A (tuples' true) vs) (fun p s'' => s'' = ⟨H2, g, d, t, o⟩ ∧ Srt (ltA a) vs.length p.toList) ⟨H2, g, d, t, o⟩ :=
        walk_sound ltA_tr ltA_as ltA_tot (fun i j C hi hj hC => trip_lt (D2.tl) (tl i hi) (tl j hj) hC) (fun p hp => ⟨rfl, hp⟩) _ [] (fun _ hp => nomatch hp) (run_all _ h2' h6)
      refine wpAny_bind (wpAny_mono (kat_run (E := X) (Q := fun st' s' => ∃ p : Array Nat, p.size = vs.length ∧ arrOf st' = p.map (kas_item (vs.toArray.zip vs.toArray)) ∧ failedOf st' = none ∧ s' = ⟨H2, g, d, t, o⟩ ∧ Srt (ltA a) vs.length p.toList)
        rfl h2' (by omega) (fun p' st' s' a1 a2 a3 a4 => ⟨p', a1, a2, a3, a4⟩) ask) ?_ fun _ _ e => e)
      rintro ⟨⟨⟩, st'⟩ s' ⟨p, hp, har, hf, rfl, hs⟩
      dsimp only
      refine wpAny_bind (seqEpoch_at (s := ⟨H2, g, d, t, o⟩) ho2 rfl ?_)
      rw [kat_snds rfl har]
      refine wpAny_bind (listUpdate_at (s := ⟨H2, g, d, t, o⟩) ho2 rfl ?_ (Nat.zero_le _) (by rw [List.size_toArray, List.length_map, Array.length_toList, hp, sizeLine_eq]; omega))
      rw [hf]
      simp only [bne_self_eq_false, Bool.false_eq_true, if_false]
      exact wpAny_pure (fin _ hs)
theorem r_sorted {l : Addr} {Q : Value → Shared → Prop} (D : St mg mb h₀ N h) (hl : (Fact.lst vs).at h l) (h1 : 1 ≤ vs.length) (h6 : vs.length ≤ 6) (tr : ∀ k v, vs[k]? = some v → Trip N a c k v)
    (hQ : ∀ p : List Nat, Srt (ltA a) vs.length p → ∀ r h', St mg mb h₀ ((r, .lst (p.map fun i => vs.getD i .none)) :: N) h' → Q (.ref r) ⟨h', g, d, t, o⟩) :
    wpAny (model prog w) A (call (.builtin "sorted") [.ref l]) Q X ⟨h, g, d, t, o⟩ := by
  refine Calls.call_function_entry kind_sorted plain_sorted entry_sorted (args_sorted1 _) ?_
  unfold Builtin.«sorted»
  refine wpAny_bind (m := checkCount "sorted" 1 1 _) (wpAny_pure ?_)
  refine wpAny_bind (collect_list (s := ⟨h, g, d, t, o⟩) hl.isList ?_ (by rw [sizeLine_eq]; omega))
  refine wpAny_bind (wpAny_newList ?_ (by rw [sizeLine_eq]; omega))
  have hsz : ((h.push (seqObj "list" #[] 0)).update h.objs.size (Obj.mapSeq (· ++ vs.toArray))).objs.size = h.objs.size + 1 := by
    rw [Heap.size_update, size_push']
  have hoL : (((h.push (seqObj "list" #[] 0)).update h.objs.size (Obj.mapSeq (· ++ vs.toArray))).push (seqObj "list" vs.toArray 0)).get? (h.objs.size + 1) = some (seqObj "list" vs.toArray 0) := by
    rw [← hsz]; exact Heap.get?_push_size _ rfl
  have keep : Ext h (((h.push (seqObj "list" #[] 0)).update h.objs.size (Obj.mapSeq (· ++ vs.toArray))).push (seqObj "list" vs.toArray 0)) := fun b o q => by
    have hlt : b < h.objs.size := Heap.lt_size q
    rw [Heap.get?_push_ne _ _ _ (by rw [hsz]; exact Nat.ne_of_lt (Nat.lt_succ_of_lt hlt)), Heap.get?_update_ne _ _ _ _ (Nat.ne_of_lt hlt), Heap.get?_push_ne _ _ _ (Nat.ne_of_lt hlt)]
    exact q
  show wpAny _ _ _ _ _ ⟨((h.push (seqObj "list" #[] 0)).update h.objs.size (Obj.mapSeq (· ++ vs.toArray))).push (seqObj "list" vs.toArray 0), g, d, t, o⟩
  rw [hsz]
  have D1 : St mg mb h₀ ((h.objs.size + 1, .lst vs) :: N) (((h.push (seqObj "list" #[] 0)).update h.objs.size (Obj.mapSeq (· ++ vs.toArray))).push (seqObj "list" vs.toArray 0)) := D.add keep ⟨_, hoL, rfl, rfl, rfl, 0, rfl⟩ (by omega)
  refine wpAny_bind (wpAny_holding (wpAny_call_entry slot_list_sort ⟨_, hoL, rfl⟩ entry_list_sort (list_sort_trips D1 h1 h6 tr fun p hp h' D' => ?_) (args_list_sort _)))
  exact ⟨_, rfl, wpAny_pure ⟨_, rfl, hQ p hp _ _ D'⟩⟩
end
end Mine

end
section
open PySem PySem.Calls PySem.W PyProof.Rows
set_option maxRecDepth 100000
set_option maxHeartbeats 1000000
namespace Mine
section
variable {prog : Program} {w : World} {A : Around} {X : Value → Shared → Prop} {g : Array GenState} {d : Drawn} {t : Nat} {o : OsState} {mg mb : Str → Option Value} {h₀ h : Heap} {N : List (Addr × Fact)} {env : Env}
def Tests (ifs : List Expr) (cenv : Env) : Sem Bool := forIn ifs true fun c r => if r = true then do let ok ← isTrue c cenv (eval c cenv); pure (ForInStep.yield ok) else pure (ForInStep.yield r)
def Turn (prog : Program) (w : World) (A : Around) (X : Value → Shared → Prop) (cenv : Env) (ifs : List Expr) (work : Sem Unit) (Q : Shared → Prop) (s : Shared) : Prop :=
  wpAny (model prog w) A (Tests ifs cenv) (fun ok s₃ => if ok = true then wpAny (model prog w) A work (fun _ s₄ => Q s₄) X s₃ else Q s₃) X s
/-- a comprehension's loop by an invariant over the turns -/
theorem comp_any {C Dl I : Addr} {x : Str} {pos : Pos} {ifs : List Expr} {work : Sem Unit} {Q : Shared → Prop} {n : Nat} {F : Nat → Fact} {V : Nat → Value → Prop} {P : Nat → List Value → List (Str × Value) → Prop}
    (hL : env.locals = C) (hk : env.scope.kind = .function) (hl : env.kindOf x = some .local)
    (next : ∀ k E' acc h t (Q' : Option Value → Shared → Prop), k < n → St mg mb h₀ ((C, .ns E') :: (Dl, .lst acc) :: (I, F k) :: N) h → (∀ v h' t', V k v → St mg mb h₀ ((C, .ns E') :: (Dl, .lst acc) :: (I, F (k + 1)) :: N) h' → Q' (some v) ⟨h', g, d, t', o⟩) →
      wpAny (model prog w) A (pyNext (.ref I)) Q' X ⟨h, g, d, t, o⟩)
    (last : ∀ E' acc h t (Q' : Option Value → Shared → Prop), St mg mb h₀ ((C, .ns E') :: (Dl, .lst acc) :: (I, F n) :: N) h → (∀ h' t', St mg mb h₀ ((C, .ns E') :: (Dl, .lst acc) :: N) h' → Q' none ⟨h', g, d, t', o⟩) →
      wpAny (model prog w) A (pyNext (.ref I)) Q' X ⟨h, g, d, t, o⟩)
    (step : ∀ k E' acc h t v (Q' : Shared → Prop), k < n → V k v → P k acc E' → St mg mb h₀ ((C, .ns ((x, v) :: E')) :: (Dl, .lst acc) :: (I, F (k + 1)) :: N) h →
      (∀ acc' E'' h' t', P (k + 1) acc' E'' → St mg mb h₀ ((C, .ns E'') :: (Dl, .lst acc') :: (I, F (k + 1)) :: N) h' → Q' ⟨h', g, d, t', o⟩) → Turn prog w A X env ifs work Q' ⟨h, g, d, t, o⟩)
    (hQ : ∀ acc E' h' t', P n acc E' → St mg mb h₀ ((C, .ns E') :: (Dl, .lst acc) :: N) h' → Q ⟨h', g, d, t', o⟩) :
    ∀ (r k : Nat) E' acc h t, k + r = n → P k acc E' → St mg mb h₀ ((C, .ns E') :: (Dl, .lst acc) :: (I, F k) :: N) h → CompT prog w A X env (.Name x pos) ifs (.ref I) work Q r ⟨h, g, d, t, o⟩ := by
  intro r
  induction r with
  | zero =>
    intro k E' acc h t hk' hp D
    have hk' : k = n := by omega
    subst hk'
    exact last E' acc h t _ D fun h' t' D' => hQ acc E' h' t' hp D'
  | succ r ih =>
    intro k E' acc h t hk' hp D
    refine next k E' acc h t _ (by omega) D fun v h' t' hv D' => ?_
    show wpAny _ _ (letOwnedTupleGo _ _ _) _ _ _
    refine wpAny_pure (wpAny_assign_Name (r_st D' .head (fun h' t' D => ?_) hL hk hl))
    refine step k E' acc _ _ v _ (by omega) hv hp D fun acc' E'' h' t' hp' D' => ?_
    exact ih (k + 1) E'' acc' h' t' (by omega) hp' D'
theorem comp_list {C Dl I b : Addr} {x : Str} {pos : Pos} {ifs : List Expr} {work : Sem Unit} {Q : Shared → Prop} {vs : List Value} {P : Nat → List Value → List (Str × Value) → Prop} {E' : List (Str × Value)} {acc : List Value}
    (hh : A.handled = none) (D : St mg mb h₀ ((C, .ns E') :: (Dl, .lst acc) :: (I, .li b 0) :: N) h) (hb : (b, Fact.lst vs) ∈ N) (hp : P 0 acc E')
    (step : ∀ k E' acc h t v (Q' : Shared → Prop), vs[k]? = some v → P k acc E' → St mg mb h₀ ((C, .ns ((x, v) :: E')) :: (Dl, .lst acc) :: (I, .li b (k + 1)) :: N) h →
      (∀ acc' E'' h' t', P (k + 1) acc' E'' → St mg mb h₀ ((C, .ns E'') :: (Dl, .lst acc') :: (I, .li b (k + 1)) :: N) h' → Q' ⟨h', g, d, t', o⟩) → Turn prog w A X env ifs work Q' ⟨h, g, d, t, o⟩)
    (hQ : ∀ acc E' h' t', P vs.length acc E' → St mg mb h₀ ((C, .ns E') :: (Dl, .lst acc) :: N) h' → Q ⟨h', g, d, t', o⟩)
    (hL : env.locals = C := by rfl) (hk : env.scope.kind = .function := by rfl) (hl : env.kindOf x = some .local := by rfl) :
    CompT prog w A X env (.Name x pos) ifs (.ref I) work Q vs.length ⟨h, g, d, t, o⟩ := by
  refine comp_any (n := vs.length) (F := fun k => .li b k) (V := fun k v => vs[k]? = some v) (P := P) hL hk hl ?_ ?_ (fun k E' acc h t v Q' _ hv hp D hq => step k E' acc h t v Q' hv hp D hq) hQ vs.length 0 E' acc h t (Nat.zero_add _) hp D
  · intro k E' acc h t Q' hk' D hq
    exact pn_list D (.tail (.tail .head)) (D.get (.tail _ (.tail _ (.tail _ hb)))) (List.getElem?_eq_getElem hk') fun h' D' => hq _ _ _ (List.getElem?_eq_getElem hk') D'
  · intro E' acc h t Q' D hq
    exact pn_list_end hh D (.tail _ (.tail _ (.head _))) (D.get (.tail _ (.tail _ (.tail _ hb)))) (Nat.le_refl _) (.tail (.tail .head)) fun h' D' => hq _ _ D'
theorem comp_range {C Dl I : Addr} {x : Str} {pos : Pos} {ifs : List Expr} {work : Sem Unit} {Q : Shared → Prop} {n : Nat} {P : Nat → List Value → List (Str × Value) → Prop} {E' : List (Str × Value)} {acc : List Value}
    (hh : A.handled = none) (D : St mg mb h₀ ((C, .ns E') :: (Dl, .lst acc) :: (I, .obj (rgObj ((0 : Nat) : Int) ((n : Nat) : Int))) :: N) h) (hp : P 0 acc E')
    (step : ∀ k E' acc h t tk (Q' : Shared → Prop), k < n → P k acc E' → St mg mb h₀ ((C, .ns ((x, .int ((k : Nat) : Int) tk) :: E')) :: (Dl, .lst acc) :: (I, .obj (rgObj ((k + 1 : Nat) : Int) ((n - (k + 1) : Nat) : Int))) :: N) h →
      (∀ acc' E'' h' t', P (k + 1) acc' E'' → St mg mb h₀ ((C, .ns E'') :: (Dl, .lst acc') :: (I, .obj (rgObj ((k + 1 : Nat) : Int) ((n - (k + 1) : Nat) : Int))) :: N) h' → Q' ⟨h', g, d, t', o⟩) → Turn prog w A X env ifs work Q' ⟨h, g, d, t, o⟩)
    (hQ : ∀ acc E' h' t', P n acc E' → St mg mb h₀ ((C, .ns E') :: (Dl, .lst acc) :: N) h' → Q ⟨h', g, d, t', o⟩)
    (hL : env.locals = C := by rfl) (hk : env.scope.kind = .function := by rfl) (hl : env.kindOf x = some .local := by rfl) :
    CompT prog w A X env (.Name x pos) ifs (.ref I) work Q n ⟨h, g, d, t, o⟩ := by
  refine comp_any (n := n) (F := fun k => .obj (rgObj ((k : Nat) : Int) ((n - k : Nat) : Int))) (V := fun k v => ∃ tk, v = .int ((k : Nat) : Int) tk) (P := P) hL hk hl ?_ ?_ (fun k E' acc h t v Q' hk' hv hp D hq => ?_) hQ n 0 E' acc h t (Nat.zero_add _) hp D
  · intro k E' acc h t Q' hk' D hq
    have e : n - k = (n - (k + 1)) + 1 := by omega
    rw [e] at D
    exact pn_range D (.tail (.tail .head)) fun h' t' tk D' => hq _ _ _ ⟨tk, rfl⟩ D'
  · intro E' acc h t Q' D hq
    rw [Nat.sub_self] at D
    exact pn_range_end hh D (.tail _ (.tail _ (.head _))) (.tail (.tail .head)) fun h' D' => hq _ _ D'
  · obtain ⟨tk, rfl⟩ := hv
    exact step k E' acc h t tk Q' hk' hp D hq
theorem turn_nil {work : Sem Unit} {Q : Shared → Prop} {s : Shared} (h : wpAny (model prog w) A work (fun _ s₄ => Q s₄) X s) : Turn prog w A X env [] work Q s := by
  refine wpAny_tests_nil ?_
  rw [if_pos rfl]; exact h
theorem turn_one {c : Expr} {work : Sem Unit} {Q : Shared → Prop} {s : Shared} (h : wpAny (model prog w) A (isTrue c env (eval c env)) (fun ok s₃ => if ok = true then wpAny (model prog w) A work (fun _ s₄ => Q s₄) X s₃ else Q s₃) X s) : Turn prog w A X env [c] work Q s :=
  wpAny_tests_one h
end
end Mine

end
section
open PySem PySem.Calls PySem.W PyProof.Rows
set_option maxRecDepth 100000
set_option maxHeartbeats 4000000
namespace Mine
local macro_rules | `(tactic| walk_at "mem") => `(tactic| first | exact List.Mem.head _ | (refine List.Mem.tail _ ?_; walk_at "mem"))
local macro_rules | `(tactic| walk_at "upd") => `(tactic| first | exact Upd.head | (apply Upd.tail; walk_at "upd"))
local macro_rules | `(tactic| walk_at "del") => `(tactic| first | exact Del.head | (apply Del.tail; walk_at "del"))
local macro_rules | `(tactic| walk_at "sees") => `(tactic| first | exact Sees.nil | (refine Sees.cons (by rfl) ?_; walk_at "sees"))
local macro_rules | `(tactic| walk_at "subl") => `(tactic| first | exact List.Sublist.slnil | (refine List.Sublist.cons_cons _ ?_; walk_at "subl") | (refine List.Sublist.cons _ ?_; walk_at "subl"))
local macro_rules | `(tactic| walk_at "fact") => `(tactic| first | exact St.get (by assumption) (by walk_at "mem") | exact St.oldf (by assumption) (by assumption) | assumption)
local macro_rules | `(tactic| walk_at "xname") => `(tactic| first
  | refine r_local (by assumption) (by walk_at "mem") (by rfl) ?_
  | refine r_blt (by assumption) (by rfl) ?_
  | refine r_cell (by assumption) (by rfl) (by walk_at "mem") ?_
  | refine r_glob (by assumption) (by first | assumption | exact FnAt.g (by assumption)) ?_)
local macro_rules | `(tactic| walk_at "xconst") => `(tactic| first
  | refine r_int fun _ _ => ?_
  | refine r_str fun _ _ => ?_
  | refine r_bytes fun _ _ => ?_
  | refine wpAny_Constant_bool ?_
  | refine wpAny_Constant_none ?_)
local macro_rules | `(tactic| walk_at "xeval") => `(tactic| first
  | ((with_reducible show wpAny _ _ (eval (Expr.Name _ _) _) _ _ _); walk_at "xname")
  | ((with_reducible show wpAny _ _ (eval (Expr.Constant _ _ _) _) _ _ _); walk_at "xconst")
  | ((with_reducible show wpAny _ _ (eval (Expr.Call (Expr.Attribute _ _ _) _ _ _) _) _ _ _); refine MethodCall_ ?_)
  | ((with_reducible show wpAny _ _ (eval (Expr.Call _ _ _ _) _) _ _ _); refine Call_ ?_)
  | with_reducible refine wpAny_BinOp ?_
  | ((with_reducible show wpAny _ _ (eval (Expr.Compare _ [_] [_] _) _) _ _ _); refine wpAny_Compare1 ?_)
  | ((with_reducible show wpAny _ _ (eval (Expr.Subscript _ _ _) _) _ _ _); refine Subscript_ ?_)
  | ((with_reducible show wpAny _ _ (eval (Expr.Slice none (some _) none _) _) _ _ _); refine e_slice_nu ?_)
  | ((with_reducible show wpAny _ _ (eval (Expr.IfExp _ _ _ _) _) _ _ _); refine wpAny_IfExp ?_)
  | ((with_reducible show wpAny _ _ (eval (Expr.Tuple _ _ _) _) _ _ _); refine Tuple_ ?_)
  | ((with_reducible show wpAny _ _ (eval (Expr.List _ _) _) _ _ _); refine List_ ?_)
  | ((with_reducible show wpAny _ _ (eval (Expr.UnaryOp _ _ _) _) _ _ _); refine wpAny_UnaryOp ?_))
local macro_rules | `(tactic| walk_at "xexec") => `(tactic| first
  | ((with_reducible show wpAny _ _ (exec (Stmt.Assign [Expr.Name _ _] _ _) _) _ _ _); refine wpAny_Assign_Name ?_)
  | ((with_reducible show wpAny _ _ (exec (Stmt.If _ _ _ _) _) _ _ _); refine wpAny_If ?_)
  | ((with_reducible show wpAny _ _ (exec (Stmt.Return (some _) _) _) _ _ _); refine wpAny_Return_some ?_)
  | ((with_reducible show wpAny _ _ (exec (Stmt.Break _) _) _ _ _); refine wpAny_Break ?_)
  | ((with_reducible show wpAny _ _ (exec (Stmt.Expr _ _) _) _ _ _); refine wpAny_Expr ?_)
  | ((with_reducible show wpAny _ _ (exec (Stmt.For _ _ _ _ _) _) _ _ _); refine r_For ?_)
  | ((with_reducible show wpAny _ _ (exec (Stmt.While _ _ _ _) _) _ _ _); refine r_While ?_)
  | ((with_reducible show wpAny _ _ (exec (Stmt.AugAssign (Expr.Name _ _) _ _ _) _) _ _ _); refine wpAny_AugAssign_Name ?_))
local macro_rules | `(tactic| walk_at "xtrue") => `(tactic| first
  | ((with_reducible show wpAny _ _ (isTrue (Expr.Compare _ [_] [_] _) _ _) _ _ _); refine wpAny_isTrue_Compare1 ?_)
  | ((with_reducible show wpAny _ _ (isTrue (Expr.BoolOp _ _ _) _ _) _ _ _); refine wpAny_isTrue_BoolOp ?_)
  | ((with_reducible show wpAny _ _ (isTrue (Expr.UnaryOp UnaryOp.Not _ _) _ _) _ _ _); refine wpAny_isTrue_Not ?_)
  | ((with_reducible show wpAny _ _ (isTrue (Expr.Call _ _ _ _) _ _) _ _ _); refine wpAny_isTrue_value ?_)
  | ((with_reducible show wpAny _ _ (isTrue (Expr.Name _ _) _ _) _ _ _); refine wpAny_isTrue_value ?_))
local macro_rules | `(tactic| walk_at "xcall") => `(tactic| first
  | ((with_reducible show wpAny _ _ (call (Value.type "range") [Value.int _ _]) _ _ _); refine r_range (by assumption) ?_; intro _ _ _ _ _ _)
  | ((with_reducible show wpAny _ _ (call (Value.builtin "list.append") [_, _]) _ _ _); refine r_append (by assumption) (by walk_at "upd") ?_; intro _ _)
  | ((with_reducible show wpAny _ _ (call (Value.builtin "len") [Value.ref _]) _ _ _); refine r_len_list (by walk_at "fact") (by first | assumption | decide | omega) ?_; intro _ _)
  | ((with_reducible show wpAny _ _ (call (Value.type "type") [Value.str _ _]) _ _ _); refine call_type_of (Tx := "str") rfl (by decide) ?_)
  | ((with_reducible show wpAny _ _ (call (Value.type "type") [Value.bytes _ _]) _ _ _); refine call_type_of (Tx := "bytes") rfl (by decide) ?_)
  | ((with_reducible show wpAny _ _ (call (Value.builtin "issubclass") [Value.type "str", _]) _ _ _); refine r_issub_str (by assumption) (by walk_at "mem") ?_)
  | ((with_reducible show wpAny _ _ (call (Value.builtin "issubclass") [Value.type "bytes", _]) _ _ _); refine r_issub_bytes (by assumption) (by walk_at "mem") ?_)
  | ((with_reducible show wpAny _ _ (call (Value.builtin "isinstance") [Value.str _ _, Value.type "bytes"]) _ _ _); refine IsiPair.str_bytes ?_)
  | ((with_reducible show wpAny _ _ (call (Value.builtin "isinstance") [Value.bytes _ _, Value.type "bytes"]) _ _ _); refine call_isinstance_yes (typeIs_bytes _ _ _) F.isi_meta_bytes F.isi_self_bytes ?_))
local macro_rules | `(tactic| walk_at "xop") => `(tactic| first
  | ((with_reducible show wpAny _ _ (binaryOp Operator.Add (Value.int _ _) (Value.int _ _)) _ _ _); refine r_add ?_; intro _ _)
  | ((with_reducible show wpAny _ _ (binaryOp Operator.Sub (Value.int _ _) (Value.int _ _)) _ _ _); refine r_sub ?_; intro _ _)
  | ((with_reducible show wpAny _ _ (binaryOp Operator.Mod (Value.int _ _) (Value.int _ _)) _ _ _); refine r_mod (by decide) ?_; intro _ _)
  | ((with_reducible show wpAny _ _ (binaryOp Operator.Mult (Value.int _ _) (Value.int _ _)) _ _ _); refine r_mul ?_; intro _ _)
  | ((with_reducible show wpAny _ _ (binaryOp Operator.FloorDiv (Value.int _ _) (Value.int _ _)) _ _ _); refine r_fdiv (by decide) (PyProof.noPylong_small (by decide)) ?_; intro _ _)
  | ((with_reducible show wpAny _ _ (binaryOp Operator.BitAnd (Value.int _ _) (Value.int _ _)) _ _ _); refine r_and ?_; intro _ _))
local macro_rules | `(tactic| walk_at "xcmp") => `(tactic| first
  | ((with_reducible show wpAny _ _ (compareOp CmpOp.Eq (Value.int _ _) (Value.int _ _)) _ _ _); refine r_eq ?_)
  | ((with_reducible show wpAny _ _ (compareOp CmpOp.NotEq (Value.int _ _) (Value.int _ _)) _ _ _); refine r_ne ?_)
  | ((with_reducible show wpAny _ _ (compareOp CmpOp.Lt (Value.int _ _) (Value.int _ _)) _ _ _); refine r_lt ?_))
local macro_rules | `(tactic| walk_at "x1") => `(tactic| first
  | ((with_reducible show wpAny _ _ (eval _ _) _ _ _); walk_at "xeval")
  | ((with_reducible show wpAny _ _ (spliced _) _ _ _); first
    | ((with_reducible show wpAny _ _ (spliced (backTo _ (starEach [] _))) _ _ _); refine args_nil ?_; (try simp only [List.nil_append, List.cons_append]))
    | ((with_reducible show wpAny _ _ (spliced (backTo _ (starEach (_ :: _) _))) _ _ _); refine args_cons ?_))
  | ((with_reducible show wpAny _ _ (callWith _ _ _ _ _) _ _ _); first
    | ((with_reducible show wpAny _ _ (callWith _ (Value.builtin _) _ _ _) _ _ _); refine cw_blt ?_)
    | ((with_reducible show wpAny _ _ (callWith _ (Value.ref _) _ _ _) _ _ _); refine cw_fn ?_)
    | ((with_reducible show wpAny _ _ (callWith _ (Value.type _) _ _ _) _ _ _); refine cw_type ?_))
  | ((with_reducible show wpAny _ _ (execs _ _) _ _ _); first
    | ((with_reducible show wpAny _ _ (execs (_ :: _) _) _ _ _); refine wpAny_execs_cons ?_)
    | ((with_reducible show wpAny _ _ (execs [] _) _ _ _); refine wpAny_execs_nil ?_))
  | ((with_reducible show wpAny _ _ (exec _ _) _ _ _); walk_at "xexec")
  | ((with_reducible show wpAny _ _ (storeName _ _ _) _ _ _); first | (refine r_st (by assumption) (by walk_at "upd") ?_; intro _ _ _) | (refine r_stc (by assumption) (by rfl) (by walk_at "upd") ?_; intro _ _ _))
  | ((with_reducible show wpAny _ _ (isTrue _ _ _) _ _ _); walk_at "xtrue")
  | ((with_reducible show wpAny _ _ (truthy (Value.bool _)) _ _ _); refine wpAny_truthy_bool ?_)
  | ((with_reducible show wpAny _ _ (call _ _ _) _ _ _); walk_at "xcall")
  | ((with_reducible show wpAny _ _ (binaryOp _ _ _) _ _ _); walk_at "xop")
  | ((with_reducible show wpAny _ _ (compareOp _ _ _) _ _ _); walk_at "xcmp")
  | ((with_reducible show wpAny _ _ (subscriptTail _ _ (Value.ref _) (Value.int _ _)) _ _ _); refine t_list_item (by walk_at "fact") (by decide) (by decide) (by rfl) ?_)
  | ((with_reducible show wpAny _ _ (inplaceOp Operator.Add (Value.int _ _) (Value.int _ _)) _ _ _); refine r_iadd ?_; intro _ _)
  | ((with_reducible show wpAny _ _ (loadName _ _) _ _ _); first
    | refine r_localN (by assumption) (by walk_at "mem") (by rfl) ?_
    | refine r_cellN (by assumption) (by rfl) (by walk_at "mem") ?_)
  | ((with_reducible show wpAny _ _ (forIn [] _ _) _ _ _); refine wpAny_tests_nil ?_)
  | ((with_reducible show wpAny _ _ (forIn [_] _ _) _ _ _); refine wpAny_tests_one ?_)
  | ((with_reducible show wpAny _ _ (emitL _ _ _) _ _ _); refine wp_emitL ?_)
  | ((with_reducible show wpAny _ _ (emitS _ _ _) _ _ _); refine wp_emitS ?_)
  | ((with_reducible show wpAny _ _ (assign (Expr.Name _ _) _ _) _ _ _); refine wpAny_assign_Name ?_)
  | ((with_reducible show wpAny _ _ (getMethod (Value.ref _) _ _) _ _ _); (with_reducible refine gm_append ?_ ?_); (· exact ⟨_, by walk_at "fact"⟩))
  | ((with_reducible show wpAny _ _ (letOwnedTupleGo (Expr.Name _ _) _ _) _ _ _); refine wpAny_pure ?_)
  | ((with_reducible show wpAny _ _ (newTuple _) _ _ _); refine r_newTuple (by assumption) ?_; intro _ _ _)
  | ((with_reducible show wpAny _ _ (newList _) _ _ _); refine r_newList (by assumption) ?_; intro _ _ _)
  | ((with_reducible show wpAny _ _ (newFields "slice" [_, _, Value.none]) _ _ _); refine r_newSlice (by assumption) ?_; intro _ _ _)
  | ((with_reducible show wpAny _ _ (allTrue _ _ _) _ _ _); first
    | ((with_reducible show wpAny _ _ (allTrue BoolOp.And (_ :: _) _) _ _ _); refine wpAny_allTrue_And_cons ?_)
    | ((with_reducible show wpAny _ _ (allTrue BoolOp.Or (_ :: _) _) _ _ _); refine wpAny_allTrue_Or_cons ?_)
    | refine wpAny_allTrue_And_nil ?_ | refine wpAny_allTrue_Or_nil ?_)
  | ((with_reducible show ite _ _ _); (first | rw [if_pos rfl] | rw [if_neg Bool.false_ne_true])))
local macro_rules | `(tactic| walk_at "subl") => `(tactic| with_reducible exact List.Sublist.refl _)
local macro_rules | `(tactic| walk_at "x1") => `(tactic| first
  | ((with_reducible show wpAny _ _ (binaryOp Operator.RShift (Value.int _ _) (Value.int _ _)) _ _ _); refine r_rshift (by omega) ?_; intro _ _)
  | ((with_reducible show wpAny _ _ (unaryOp UnaryOp.USub (Value.int _ _)) _ _ _); refine r_neg ?_; intro _ _)
  | ((with_reducible show wpAny _ _ (compareOp CmpOp.Is (Value.ref _) Value.none) _ _ _); refine is_ref_none ?_)
  | ((with_reducible show wpAny _ _ (getMethod (Value.ref _) "index" _) _ _ _); (with_reducible refine gm_index ?_ ?_); (· exact ⟨_, by walk_at "fact"⟩))
  | ((with_reducible show wpAny _ _ (eval (Expr.BoolOp BoolOp.And (_ :: _ :: _) _) _) _ _ _); refine BoolOp_and ?_)
  | ((with_reducible show wpAny _ _ (eval (Expr.BoolOp BoolOp.And [_] _) _) _ _ _); refine BoolOp_one ?_))
abbrev lawE (L a : Addr) (cd : Value) (c1 c2 c3 c4 c5 c6 c7 c8 : Addr) : Env :=
  envC "law" (fScope 20) L a cd [("ways", c8), ("chosen", c7), ("marks", c6), ("taken", c5), ("masks", c4), ("folders", c3), ("octets", c2), ("front", c1)]
def lawAt (i : Nat) : Option Stmt := (fBody 20)[i]?
def turnB : List Stmt := match lawAt 7 with | some (.For _ _ b _ _) => b | _ => []
section
variable {prog : Program} {w : World} {A : Around} {X : Value → Shared → Prop} {g : Array GenState} {d : Drawn} {t : Nat} {o : OsState} {mg mb : Str → Option Value} {h₀ h : Heap} {N N' T : List (Addr × Fact)}
  {L a c1 c2 c3 c4 c5 c6 c7 c8 : Addr} {cd : Value} {m f : Bool}
theorem gm_join_str {x : Str} {tx : Nat} {pl : Sem Bool} {s : Shared} {Q : Value × List Value → Shared → Prop} (hQ : Q (.builtin "str.join", [.str x tx]) s) : wpAny (model prog w) A (getMethod (.str x tx) "join" pl) Q X s :=
  getMethod_builtin (T := "str") (name := "join") (id := "str.join") (typeIs_str _ _ _) F.plainAttrs_str F.slot_str_join F.type_str_join (fun _ e => nomatch e) hQ
theorem turn_a {ra nb fa ma ta : Addr} {nv fv mv tv : List Value} {k n len tk tn tf : Nat} {x0 x1 : Int} {Q : Flow → Shared → Prop} (hh : A.handled = none) (Fr : Fn mg h₀ "_law_row" 17 ra) (hR : A.depth < recursionLimit)
    (D : St mg mb h₀ ((nb, .lst nv) :: (fa, .lst fv) :: (ma, .lst mv) :: (ta, .lst tv) :: (c1, .cell (some (bif f then sepV false tf else emptyV false tf))) :: (c2, .cell (some (.bool m))) :: (c3, .cell (some (.ref fa))) :: (c4, .cell (some (.ref ma))) ::
      (L, .ns [("k", .int ((k : Nat) : Int) tk), ("numbers", .ref nb), ("count", .int ((n : Nat) : Int) tn), ("tops", .ref ta)]) :: T) h)
    (hlen : nv.length = len) (hl0 : 1 ≤ len) (hl : len ≤ 100) (hk : 2 * k < len) (g0 : ∃ u, nv[2 * k]? = some (.int x0 u)) (g1 : ∃ u, nv[(2 * k + 1) % len]? = some (.int x1 u))
    (hQ : ∀ b0 vs0 b1 vs1 rw e t0 t1 h' t', Segs vs0 (rowF 3 x0) → Segs vs1 (rowF 3 x1) →
      St mg mb h₀ ((e, .lst [node m f (rowF 3 x0) t0, node m f (rowF 3 x1) t1]) :: (rw, .lst [.ref b0, .ref b1]) :: (b1, .lst vs1) :: (b0, .lst vs0) ::
      (nb, .lst nv) :: (fa, .lst fv) :: (ma, .lst mv) :: (ta, .lst tv) :: (c1, .cell (some (bif f then sepV false tf else emptyV false tf))) :: (c2, .cell (some (.bool m))) :: (c3, .cell (some (.ref fa))) :: (c4, .cell (some (.ref ma))) ::
      (L, .ns [("rows", .ref rw), ("ends", .ref e), ("k", .int ((k : Nat) : Int) tk), ("numbers", .ref nb), ("count", .int ((n : Nat) : Int) tn), ("tops", .ref ta)]) :: T) h' →
      wpAny (model prog w) A (execs (turnB.drop 3) (lawE L a cd c1 c2 c3 c4 c5 c6 c7 c8)) Q X ⟨h', g, d, t', o⟩) :
    wpAny (model prog w) A (execs turnB (lawE L a cd c1 c2 c3 c4 c5 c6 c7 c8)) Q X ⟨h, g, d, t, o⟩ := by
  obtain ⟨u0, g0⟩ := g0
  obtain ⟨u1, g1⟩ := g1
  have e2 : ((2 : Int) * ((k : Nat) : Int)).toNat = 2 * k := by omega
  have e3 : (((2 : Int) * ((k : Nat) : Int) + 1).fmod ((len : Nat) : Int)) = (((2 * k + 1) % len : Nat) : Int) := by
    rw [show (2 : Int) * ((k : Nat) : Int) + 1 = ((2 * k + 1 : Nat) : Int) by omega, nat_fmod]
  have hj := Nat.mod_lt (2 * k + 1) (Nat.lt_of_lt_of_le Nat.zero_lt_one hl0)
  generalize (2 * k + 1) % len = j at *
  refine wpAny_execs_cons ?_
  repeat walk_at "x1"
  refine t_list_item (by walk_at "fact") (by omega) (by omega) (by rw [e2]; exact g0) ?_
  repeat walk_at "x1"
  refine ⟨Fr.here.ext D.keep, ?_⟩
  refine law_row hh D.wdn (Fr.ext D.keep) hR fun h' t' b0 vs0 k1 k2 k3 k4 => ?_
  have D := D.put k1 k3 k2
  repeat walk_at "x1"
  refine r_mod (by omega) fun _ _ => ?_
  repeat walk_at "x1"
  rw [hlen, e3]
  refine t_list_item (by walk_at "fact") (by omega) (by omega) (by rw [Int.toNat_natCast]; exact g1) ?_
  repeat walk_at "x1"
  refine ⟨Fr.here.ext D.keep, ?_⟩
  refine law_row hh D.wdn (Fr.ext D.keep) hR fun h' t' b1 vs1 k1' k2' k3' k4' => ?_
  have D := D.put k1' k3' k2'
  repeat ((fail_if_success (with_reducible show wpAny _ _ (newList _) _ _ _)); walk_at "x1")
  refine r_newList D fun rw h' D => ?_
  repeat walk_at "x1"
  refine r_AssignComp (cl := [("front", c1)]) (by rfl) ?_
  repeat walk_at "x1"
  refine pi_list (xs := [.ref b0, .ref b1]) (by assumption) (by walk_at "fact") fun I h' D => ?_
  refine compGo_of D (.head _) trivial fun C El h' t' D => ?_
  refine comp1 ⟨2, fun E => ?_⟩
  refine pn_list D (by walk_at "upd") (by walk_at "fact") rfl fun h' D => ?_
  show wpAny _ _ (letOwnedTupleGo _ _ _) _ _ _
  repeat walk_at "x1"
  with_reducible refine gm_join_str ?_
  repeat walk_at "x1"
  refine r_join_row (by walk_at "fact") k4 (rowF_len 3 x0) fun _ _ => ?_
  repeat walk_at "x1"
  refine r_add_node (m := false) (rowF_len 3 x0) fun _ _ => ?_
  repeat walk_at "x1"
  have D := ‹St mg mb h₀ _ _›
  refine pn_list D (by walk_at "upd") (by walk_at "fact") rfl fun h' D => ?_
  show wpAny _ _ (letOwnedTupleGo _ _ _) _ _ _
  repeat walk_at "x1"
  with_reducible refine gm_join_str ?_
  repeat walk_at "x1"
  refine r_join_row (by walk_at "fact") k4' (rowF_len 3 x1) fun _ _ => ?_
  repeat walk_at "x1"
  refine r_add_node (m := false) (rowF_len 3 x1) fun _ _ => ?_
  repeat walk_at "x1"
  have D := ‹St mg mb h₀ _ _›
  refine pn_list_end hh D (by walk_at "mem") (by walk_at "fact") (Nat.le_refl 2) (by walk_at "del") fun h' D => ?_
  refine cp_some (L := L) (C := C) D (by walk_at "upd") (by walk_at "mem") (by walk_at "del") fun h' t' D => ?_
  show wpAny _ _ (execs _ _) _ _ _
  repeat walk_at "x1"
  refine r_AssignComp (cl := [("octets", c2)]) (by rfl) ?_
  repeat walk_at "x1"
  refine pi_list (xs := [node false f (rowF 3 x0) _, node false f (rowF 3 x1) _]) (by assumption) (by walk_at "fact") fun I h' D => ?_
  refine compGo_of D (.head _) trivial fun C2 El2 h' t' D => ?_
  refine comp1 ⟨2, fun E => ?_⟩
  refine pn_list D (by walk_at "upd") (by walk_at "fact") rfl fun h' D => ?_
  show wpAny _ _ (letOwnedTupleGo _ _ _) _ _ _
  repeat walk_at "x1"
  cases m with
  | true =>
    rw [if_pos rfl]
    repeat walk_at "x1"
    refine gm_encode ?_
    repeat walk_at "x1"
    refine r_encode (f := f) (rowF_len 3 x0) fun _ _ => ?_
    repeat walk_at "x1"
    have D := ‹St mg mb h₀ _ _›
    refine pn_list D (by walk_at "upd") (by walk_at "fact") rfl fun h' D => ?_
    show wpAny _ _ (letOwnedTupleGo _ _ _) _ _ _
    repeat walk_at "x1"
    refine gm_encode ?_
    repeat walk_at "x1"
    refine r_encode (f := f) (rowF_len 3 x1) fun _ _ => ?_
    repeat walk_at "x1"
    have D := ‹St mg mb h₀ _ _›
    refine pn_list_end hh D (by walk_at "mem") (by walk_at "fact") (Nat.le_refl 2) (by walk_at "del") fun h' D => ?_
    refine cp_some (L := L) (C := C2) D (by walk_at "upd") (by walk_at "mem") (by walk_at "del") fun h' t' D => ?_
    have D := (D.sub (N' := (El2, .lst _) :: (rw, .lst [.ref b0, .ref b1]) :: (b1, .lst vs1) :: (b0, .lst vs0) :: (nb, .lst nv) :: (fa, .lst fv) :: (ma, .lst mv) :: (ta, .lst tv) :: (c1, _) :: (c2, _) :: (c3, _) :: (c4, _) :: (L, _) :: T) (by walk_at "subl")).see
      (E' := [("rows", .ref rw), ("ends", .ref El2), ("k", .int ((k : Nat) : Int) tk), ("numbers", .ref nb), ("count", .int ((n : Nat) : Int) tn), ("tops", .ref ta)]) (by walk_at "upd") (by walk_at "sees")
    exact hQ b0 vs0 b1 vs1 rw El2 _ _ h' t' k4 k4' D
  | false =>
    rw [if_neg Bool.false_ne_true]
    repeat walk_at "x1"
    have D := ‹St mg mb h₀ _ _›
    refine pn_list D (by walk_at "upd") (by walk_at "fact") rfl fun h' D => ?_
    show wpAny _ _ (letOwnedTupleGo _ _ _) _ _ _
    repeat walk_at "x1"
    have D := ‹St mg mb h₀ _ _›
    refine pn_list_end hh D (by walk_at "mem") (by walk_at "fact") (Nat.le_refl 2) (by walk_at "del") fun h' D => ?_
    refine cp_some (L := L) (C := C2) D (by walk_at "upd") (by walk_at "mem") (by walk_at "del") fun h' t' D => ?_
    have D := (D.sub (N' := (El2, .lst _) :: (rw, .lst [.ref b0, .ref b1]) :: (b1, .lst vs1) :: (b0, .lst vs0) :: (nb, .lst nv) :: (fa, .lst fv) :: (ma, .lst mv) :: (ta, .lst tv) :: (c1, _) :: (c2, _) :: (c3, _) :: (c4, _) :: (L, _) :: T) (by walk_at "subl")).see
      (E' := [("rows", .ref rw), ("ends", .ref El2), ("k", .int ((k : Nat) : Int) tk), ("numbers", .ref nb), ("count", .int ((n : Nat) : Int) tn), ("tops", .ref ta)]) (by walk_at "upd") (by walk_at "sees")
    exact hQ b0 vs0 b1 vs1 rw El2 _ _ h' t' k4 k4' D
end
end Mine

end
section
open PySem PySem.Calls PySem.W PyProof.Rows
set_option maxRecDepth 100000
set_option maxHeartbeats 4000000
namespace Mine
local macro_rules | `(tactic| walk_at "mem") => `(tactic| first | exact List.Mem.head _ | (refine List.Mem.tail _ ?_; walk_at "mem"))
local macro_rules | `(tactic| walk_at "upd") => `(tactic| first | exact Upd.head | (apply Upd.tail; walk_at "upd"))
local macro_rules | `(tactic| walk_at "del") => `(tactic| first | exact Del.head | (apply Del.tail; walk_at "del"))
local macro_rules | `(tactic| walk_at "sees") => `(tactic| first | exact Sees.nil | (refine Sees.cons (by rfl) ?_; walk_at "sees"))
local macro_rules | `(tactic| walk_at "subl") => `(tactic| first | exact List.Sublist.slnil | (refine List.Sublist.cons_cons _ ?_; walk_at "subl") | (refine List.Sublist.cons _ ?_; walk_at "subl"))
local macro_rules | `(tactic| walk_at "fact") => `(tactic| first | exact St.get (by assumption) (by walk_at "mem") | exact St.oldf (by assumption) (by assumption) | assumption)
local macro_rules | `(tactic| walk_at "xname") => `(tactic| first
  | refine r_local (by assumption) (by walk_at "mem") (by rfl) ?_
  | refine r_blt (by assumption) (by rfl) ?_
  | refine r_cell (by assumption) (by rfl) (by walk_at "mem") ?_
  | refine r_glob (by assumption) (by first | assumption | exact FnAt.g (by assumption)) ?_)
local macro_rules | `(tactic| walk_at "xconst") => `(tactic| first
  | refine r_int fun _ _ => ?_
  | refine r_str fun _ _ => ?_
  | refine r_bytes fun _ _ => ?_
  | refine wpAny_Constant_bool ?_
  | refine wpAny_Constant_none ?_)
local macro_rules | `(tactic| walk_at "xeval") => `(tactic| first
  | ((with_reducible show wpAny _ _ (eval (Expr.Name _ _) _) _ _ _); walk_at "xname")
  | ((with_reducible show wpAny _ _ (eval (Expr.Constant _ _ _) _) _ _ _); walk_at "xconst")
  | ((with_reducible show wpAny _ _ (eval (Expr.Call (Expr.Attribute _ _ _) _ _ _) _) _ _ _); refine MethodCall_ ?_)
  | ((with_reducible show wpAny _ _ (eval (Expr.Call _ _ _ _) _) _ _ _); refine Call_ ?_)
  | with_reducible refine wpAny_BinOp ?_
  | ((with_reducible show wpAny _ _ (eval (Expr.Compare _ [_] [_] _) _) _ _ _); refine wpAny_Compare1 ?_)
  | ((with_reducible show wpAny _ _ (eval (Expr.Subscript _ _ _) _) _ _ _); refine Subscript_ ?_)
  | ((with_reducible show wpAny _ _ (eval (Expr.Slice none (some _) none _) _) _ _ _); refine e_slice_nu ?_)
  | ((with_reducible show wpAny _ _ (eval (Expr.IfExp _ _ _ _) _) _ _ _); refine wpAny_IfExp ?_)
  | ((with_reducible show wpAny _ _ (eval (Expr.Tuple _ _ _) _) _ _ _); refine Tuple_ ?_)
  | ((with_reducible show wpAny _ _ (eval (Expr.List _ _) _) _ _ _); refine List_ ?_)
  | ((with_reducible show wpAny _ _ (eval (Expr.UnaryOp _ _ _) _) _ _ _); refine wpAny_UnaryOp ?_))
local macro_rules | `(tactic| walk_at "xexec") => `(tactic| first
  | ((with_reducible show wpAny _ _ (exec (Stmt.Assign [Expr.Name _ _] _ _) _) _ _ _); refine wpAny_Assign_Name ?_)
  | ((with_reducible show wpAny _ _ (exec (Stmt.If _ _ _ _) _) _ _ _); refine wpAny_If ?_)
  | ((with_reducible show wpAny _ _ (exec (Stmt.Return (some _) _) _) _ _ _); refine wpAny_Return_some ?_)
  | ((with_reducible show wpAny _ _ (exec (Stmt.Break _) _) _ _ _); refine wpAny_Break ?_)
  | ((with_reducible show wpAny _ _ (exec (Stmt.Expr _ _) _) _ _ _); refine wpAny_Expr ?_)
  | ((with_reducible show wpAny _ _ (exec (Stmt.For _ _ _ _ _) _) _ _ _); refine r_For ?_)
  | ((with_reducible show wpAny _ _ (exec (Stmt.While _ _ _ _) _) _ _ _); refine r_While ?_)
  | ((with_reducible show wpAny _ _ (exec (Stmt.AugAssign (Expr.Name _ _) _ _ _) _) _ _ _); refine wpAny_AugAssign_Name ?_))
local macro_rules | `(tactic| walk_at "xtrue") => `(tactic| first
  | ((with_reducible show wpAny _ _ (isTrue (Expr.Compare _ [_] [_] _) _ _) _ _ _); refine wpAny_isTrue_Compare1 ?_)
  | ((with_reducible show wpAny _ _ (isTrue (Expr.BoolOp _ _ _) _ _) _ _ _); refine wpAny_isTrue_BoolOp ?_)
  | ((with_reducible show wpAny _ _ (isTrue (Expr.UnaryOp UnaryOp.Not _ _) _ _) _ _ _); refine wpAny_isTrue_Not ?_)
  | ((with_reducible show wpAny _ _ (isTrue (Expr.Call _ _ _ _) _ _) _ _ _); refine wpAny_isTrue_value ?_)
  | ((with_reducible show wpAny _ _ (isTrue (Expr.Name _ _) _ _) _ _ _); refine wpAny_isTrue_value ?_))
local macro_rules | `(tactic| walk_at "xcall") => `(tactic| first
  | ((with_reducible show wpAny _ _ (call (Value.type "range") [Value.int _ _]) _ _ _); refine r_range (by assumption) ?_; intro _ _ _ _ _ _)
  | ((with_reducible show wpAny _ _ (call (Value.builtin "list.append") [_, _]) _ _ _); refine r_append (by assumption) (by walk_at "upd") ?_; intro _ _)
  | ((with_reducible show wpAny _ _ (call (Value.builtin "len") [Value.ref _]) _ _ _); refine r_len_list (by walk_at "fact") (by first | assumption | decide | omega) ?_; intro _ _)
  | ((with_reducible show wpAny _ _ (call (Value.type "type") [Value.str _ _]) _ _ _); refine call_type_of (Tx := "str") rfl (by decide) ?_)
  | ((with_reducible show wpAny _ _ (call (Value.type "type") [Value.bytes _ _]) _ _ _); refine call_type_of (Tx := "bytes") rfl (by decide) ?_)
  | ((with_reducible show wpAny _ _ (call (Value.builtin "issubclass") [Value.type "str", _]) _ _ _); refine r_issub_str (by assumption) (by walk_at "mem") ?_)
  | ((with_reducible show wpAny _ _ (call (Value.builtin "issubclass") [Value.type "bytes", _]) _ _ _); refine r_issub_bytes (by assumption) (by walk_at "mem") ?_)
  | ((with_reducible show wpAny _ _ (call (Value.builtin "isinstance") [Value.str _ _, Value.type "bytes"]) _ _ _); refine IsiPair.str_bytes ?_)
  | ((with_reducible show wpAny _ _ (call (Value.builtin "isinstance") [Value.bytes _ _, Value.type "bytes"]) _ _ _); refine call_isinstance_yes (typeIs_bytes _ _ _) F.isi_meta_bytes F.isi_self_bytes ?_))
local macro_rules | `(tactic| walk_at "xop") => `(tactic| first
  | ((with_reducible show wpAny _ _ (binaryOp Operator.Add (Value.int _ _) (Value.int _ _)) _ _ _); refine r_add ?_; intro _ _)
  | ((with_reducible show wpAny _ _ (binaryOp Operator.Sub (Value.int _ _) (Value.int _ _)) _ _ _); refine r_sub ?_; intro _ _)
  | ((with_reducible show wpAny _ _ (binaryOp Operator.Mod (Value.int _ _) (Value.int _ _)) _ _ _); refine r_mod (by decide) ?_; intro _ _)
  | ((with_reducible show wpAny _ _ (binaryOp Operator.Mult (Value.int _ _) (Value.int _ _)) _ _ _); refine r_mul ?_; intro _ _)
  | ((with_reducible show wpAny _ _ (binaryOp Operator.FloorDiv (Value.int _ _) (Value.int _ _)) _ _ _); refine r_fdiv (by decide) (PyProof.noPylong_small (by decide)) ?_; intro _ _)
  | ((with_reducible show wpAny _ _ (binaryOp Operator.BitAnd (Value.int _ _) (Value.int _ _)) _ _ _); refine r_and ?_; intro _ _))
local macro_rules | `(tactic| walk_at "xcmp") => `(tactic| first
  | ((with_reducible show wpAny _ _ (compareOp CmpOp.Eq (Value.int _ _) (Value.int _ _)) _ _ _); refine r_eq ?_)
  | ((with_reducible show wpAny _ _ (compareOp CmpOp.NotEq (Value.int _ _) (Value.int _ _)) _ _ _); refine r_ne ?_)
  | ((with_reducible show wpAny _ _ (compareOp CmpOp.Lt (Value.int _ _) (Value.int _ _)) _ _ _); refine r_lt ?_))
local macro_rules | `(tactic| walk_at "x1") => `(tactic| first
  | ((with_reducible show wpAny _ _ (eval _ _) _ _ _); walk_at "xeval")
  | ((with_reducible show wpAny _ _ (spliced _) _ _ _); first
    | ((with_reducible show wpAny _ _ (spliced (backTo _ (starEach [] _))) _ _ _); refine args_nil ?_; (try simp only [List.nil_append, List.cons_append]))
    | ((with_reducible show wpAny _ _ (spliced (backTo _ (starEach (_ :: _) _))) _ _ _); refine args_cons ?_))
  | ((with_reducible show wpAny _ _ (callWith _ _ _ _ _) _ _ _); first
    | ((with_reducible show wpAny _ _ (callWith _ (Value.builtin _) _ _ _) _ _ _); refine cw_blt ?_)
    | ((with_reducible show wpAny _ _ (callWith _ (Value.ref _) _ _ _) _ _ _); refine cw_fn ?_)
    | ((with_reducible show wpAny _ _ (callWith _ (Value.type _) _ _ _) _ _ _); refine cw_type ?_))
  | ((with_reducible show wpAny _ _ (execs _ _) _ _ _); first
    | ((with_reducible show wpAny _ _ (execs (_ :: _) _) _ _ _); refine wpAny_execs_cons ?_)
    | ((with_reducible show wpAny _ _ (execs [] _) _ _ _); refine wpAny_execs_nil ?_))
  | ((with_reducible show wpAny _ _ (exec _ _) _ _ _); walk_at "xexec")
  | ((with_reducible show wpAny _ _ (storeName _ _ _) _ _ _); first | (refine r_st (by assumption) (by walk_at "upd") ?_; intro _ _ _) | (refine r_stc (by assumption) (by rfl) (by walk_at "upd") ?_; intro _ _ _))
  | ((with_reducible show wpAny _ _ (isTrue _ _ _) _ _ _); walk_at "xtrue")
  | ((with_reducible show wpAny _ _ (truthy (Value.bool _)) _ _ _); refine wpAny_truthy_bool ?_)
  | ((with_reducible show wpAny _ _ (call _ _ _) _ _ _); walk_at "xcall")
  | ((with_reducible show wpAny _ _ (binaryOp _ _ _) _ _ _); walk_at "xop")
  | ((with_reducible show wpAny _ _ (compareOp _ _ _) _ _ _); walk_at "xcmp")
  | ((with_reducible show wpAny _ _ (subscriptTail _ _ (Value.ref _) (Value.int _ _)) _ _ _); refine t_list_item (by walk_at "fact") (by decide) (by decide) (by rfl) ?_)
  | ((with_reducible show wpAny _ _ (inplaceOp Operator.Add (Value.int _ _) (Value.int _ _)) _ _ _); refine r_iadd ?_; intro _ _)
  | ((with_reducible show wpAny _ _ (loadName _ _) _ _ _); first
    | refine r_localN (by assumption) (by walk_at "mem") (by rfl) ?_
    | refine r_cellN (by assumption) (by rfl) (by walk_at "mem") ?_)
  | ((with_reducible show wpAny _ _ (forIn [] _ _) _ _ _); refine wpAny_tests_nil ?_)
  | ((with_reducible show wpAny _ _ (forIn [_] _ _) _ _ _); refine wpAny_tests_one ?_)
  | ((with_reducible show wpAny _ _ (emitL _ _ _) _ _ _); refine wp_emitL ?_)
  | ((with_reducible show wpAny _ _ (emitS _ _ _) _ _ _); refine wp_emitS ?_)
  | ((with_reducible show wpAny _ _ (assign (Expr.Name _ _) _ _) _ _ _); refine wpAny_assign_Name ?_)
  | ((with_reducible show wpAny _ _ (getMethod (Value.ref _) _ _) _ _ _); (with_reducible refine gm_append ?_ ?_); (· exact ⟨_, by walk_at "fact"⟩))
  | ((with_reducible show wpAny _ _ (letOwnedTupleGo (Expr.Name _ _) _ _) _ _ _); refine wpAny_pure ?_)
  | ((with_reducible show wpAny _ _ (newTuple _) _ _ _); refine r_newTuple (by assumption) ?_; intro _ _ _)
  | ((with_reducible show wpAny _ _ (newList _) _ _ _); refine r_newList (by assumption) ?_; intro _ _ _)
  | ((with_reducible show wpAny _ _ (newFields "slice" [_, _, Value.none]) _ _ _); refine r_newSlice (by assumption) ?_; intro _ _ _)
  | ((with_reducible show wpAny _ _ (allTrue _ _ _) _ _ _); first
    | ((with_reducible show wpAny _ _ (allTrue BoolOp.And (_ :: _) _) _ _ _); refine wpAny_allTrue_And_cons ?_)
    | ((with_reducible show wpAny _ _ (allTrue BoolOp.Or (_ :: _) _) _ _ _); refine wpAny_allTrue_Or_cons ?_)
    | refine wpAny_allTrue_And_nil ?_ | refine wpAny_allTrue_Or_nil ?_)
  | ((with_reducible show ite _ _ _); (first | rw [if_pos rfl] | rw [if_neg Bool.false_ne_true])))
local macro_rules | `(tactic| walk_at "subl") => `(tactic| with_reducible exact List.Sublist.refl _)
local macro_rules | `(tactic| walk_at "x1") => `(tactic| first
  | ((with_reducible show wpAny _ _ (binaryOp Operator.RShift (Value.int _ _) (Value.int _ _)) _ _ _); refine r_rshift (by omega) ?_; intro _ _)
  | ((with_reducible show wpAny _ _ (unaryOp UnaryOp.USub (Value.int _ _)) _ _ _); refine r_neg ?_; intro _ _)
  | ((with_reducible show wpAny _ _ (compareOp CmpOp.Is (Value.ref _) Value.none) _ _ _); refine is_ref_none ?_)
  | ((with_reducible show wpAny _ _ (getMethod (Value.ref _) "index" _) _ _ _); (with_reducible refine gm_index ?_ ?_); (· exact ⟨_, by walk_at "fact"⟩))
  | ((with_reducible show wpAny _ _ (eval (Expr.BoolOp BoolOp.And (_ :: _ :: _) _) _) _ _ _); refine BoolOp_and ?_)
  | ((with_reducible show wpAny _ _ (eval (Expr.BoolOp BoolOp.And [_] _) _) _ _ _); refine BoolOp_one ?_))
theorem way_len : ∀ r0 ∈ rows3, ∀ r1 ∈ rows3, (wayF (r0, r1)).length ≤ 10 := by decide +kernel
theorem push1_len3 {l : List Row} {x : Row} (h : ∀ y ∈ l, y.length ≤ 3) (hx : x.length ≤ 3) : ∀ y ∈ push1 l x, y.length ≤ 3 := fun y hy => (mem_push1.mp hy).elim (h y) fun e => e ▸ hx
theorem ite_ndec {p : Prop} [Decidable p] {a b : Prop} (h1 : p → b) (h2 : ¬ p → a) : if (!decide p) = true then a else b := by
  by_cases q : p
  · rw [decide_eq_true q, Bool.not_true, if_neg Bool.false_ne_true]; exact h1 q
  · rw [decide_eq_false q, Bool.not_false, if_pos rfl]; exact h2 q
theorem push1_in {l : List Row} {x : Row} (h : x ∈ l) : push1 l x = l := if_pos h
theorem push1_out {l : List Row} {x : Row} (h : x ∉ l) : push1 l x = l ++ [x] := if_neg h
section
variable {prog : Program} {w : World} {A : Around} {X : Value → Shared → Prop} {g : Array GenState} {d : Drawn} {t : Nat} {o : OsState} {mg mb : Str → Option Value} {h₀ h : Heap} {N N' T : List (Addr × Fact)}
  {L a c1 c2 c3 c4 c5 c6 c7 c8 : Addr} {cd : Value} {m f : Bool}
theorem turn_b {pa sa da ga la e rw b0 b1 nb fa ma ta : Addr} {vs0 vs1 nv fv mv tv : List Value} {fr oc tk tn : Value} {u0 u1 : Nat} {r0 r1 : Row} {F : List Row} {Q : Flow → Shared → Prop} (hh : A.handled = none) (hu : A.units + 200 < cLine) (hR : A.depth + 2 < recursionLimit)
    (Fc : Fn mg h₀ "commonpath" 15 pa) (F1 : Fn mg h₀ "fspath" 9 sa) (F0 : Fn mg h₀ "dirname" 14 da) (F2 : Fn mg h₀ "_get_sep" 13 ga) (Fl : Fn mg h₀ "_law_climb" 18 la)
    (D : St mg mb h₀ ((e, .lst [node m f r0 u0, node m f r1 u1]) :: (rw, .lst [.ref b0, .ref b1]) :: (b1, .lst vs1) :: (b0, .lst vs0) ::
      (nb, .lst nv) :: (fa, .lst fv) :: (ma, .lst mv) :: (ta, .lst tv) :: (c1, .cell (some fr)) :: (c2, .cell (some oc)) :: (c3, .cell (some (.ref fa))) :: (c4, .cell (some (.ref ma))) ::
      (L, .ns [("rows", .ref rw), ("ends", .ref e), ("k", tk), ("numbers", .ref nb), ("count", tn), ("tops", .ref ta)]) :: T) h)
    (h0 : r0.length ≤ 3) (h1 : r1.length ≤ 3) (nF : Nodes m f fv F) (zF : ∀ x ∈ F, x.length ≤ 3) (lF : F.length ≤ 500)
    (hQ : ∀ hb hv tt fv' h' t', Nodes m f hv (heldF (r0, r1)) → Nodes m f fv' ((wayF (r0, r1)).foldl push1 F) →
      St mg mb h₀ ((hb, .lst hv) :: (rw, .lst [.ref b0, .ref b1]) :: (b1, .lst vs1) :: (b0, .lst vs0) ::
      (nb, .lst nv) :: (fa, .lst fv') :: (ma, .lst mv) :: (ta, .lst tv) :: (c1, .cell (some fr)) :: (c2, .cell (some oc)) :: (c3, .cell (some (.ref fa))) :: (c4, .cell (some (.ref ma))) ::
      (L, .ns [("held", .ref hb), ("top", node m f (cpF r0 r1) tt), ("rows", .ref rw), ("k", tk), ("numbers", .ref nb), ("count", tn), ("tops", .ref ta)]) :: T) h' →
      wpAny (model prog w) A (execs (turnB.drop 9) (lawE L a cd c1 c2 c3 c4 c5 c6 c7 c8)) Q X ⟨h', g, d, t', o⟩) :
    wpAny (model prog w) A (execs (turnB.drop 3) (lawE L a cd c1 c2 c3 c4 c5 c6 c7 c8)) Q X ⟨h, g, d, t, o⟩ := by
  obtain ⟨i0, i1⟩ := climb_some r0 (mem_rows3 h0) r1 (mem_rows3 h1)
  obtain ⟨cs0, ec0⟩ := Option.isSome_iff_exists.mp i0
  obtain ⟨cs1, ec1⟩ := Option.isSome_iff_exists.mp i1
  have ew : wayF (r0, r1) = cs0 ++ cs1 := by unfold wayF topF; dsimp only; rw [ec0, ec1]; rfl
  have hct : (cpF r0 r1).length ≤ 3 := Nat.le_trans (cpF_le r0 r1) h0
  refine wpAny_execs_cons ?_
  repeat walk_at "x1"
  refine ⟨Fc.here.ext D.keep, ?_⟩
  refine commonpath_node hh hu D.wdn (Fc.ext D.keep) (F1.ext D.keep) hR (by walk_at "fact") h0 h1 fun h' t' tt k => ?_
  have D := D.ext k
  repeat walk_at "x1"
  refine ⟨Fl.here.ext (St.keep (by assumption)), ?_⟩
  refine law_climb hh (St.wdn (by assumption)) (Fl.ext (St.keep (by assumption))) (F0.ext (St.keep (by assumption))) (F1.ext (St.keep (by assumption))) (F2.ext (St.keep (by assumption))) hR h0 hct ec0 fun h' t' lo lv k1 k2 k3 k4 => ?_
  have D := St.put (by assumption) k1 k3 k2
  repeat walk_at "x1"
  refine ⟨Fl.here.ext (St.keep (by assumption)), ?_⟩
  refine law_climb hh (St.wdn (by assumption)) (Fl.ext (St.keep (by assumption))) (F0.ext (St.keep (by assumption))) (F1.ext (St.keep (by assumption))) (F2.ext (St.keep (by assumption))) hR h1 hct ec1 fun h' t' up uv k1' k2' k3' k4' => ?_
  have D := St.put (by assumption) k1' k3' k2'
  repeat ((fail_if_success (with_reducible show wpAny _ _ (newList _) _ _ _)); walk_at "x1")
  refine r_newList (by assumption) fun hb h' D => ?_
  repeat walk_at "x1"
  have nW := k4.append k4'
  have hwl : (lv ++ uv).length = (cs0 ++ cs1).length := nW.len
  have hw10 := way_len r0 (mem_rows3 h0) r1 (mem_rows3 h1)
  rw [ew] at hw10
  have zW : ∀ x ∈ cs0 ++ cs1, x.length ≤ 3 := fun x hx => rows3_len x (way_rows r0 (mem_rows3 h0) r1 (mem_rows3 h1) x (by rw [ew]; exact hx))
  have D := ‹St mg mb h₀ _ _›
  refine r_add_list D (by walk_at "fact") (by walk_at "fact") (by rw [← List.length_append]; omega) fun cl h' D => ?_
  refine pi_list D (by walk_at "fact") fun I h' D => ?_
  refine ⟨(cs0 ++ cs1).length, fun E => ?_⟩
  have D := (D.sub (N' := (I, _) :: (cl, _) :: (hb, .lst []) :: (rw, _) :: (b1, _) :: (b0, _) :: (nb, .lst nv) :: (fa, .lst fv) :: (ma, .lst mv) :: (ta, .lst tv) :: (c1, _) :: (c2, _) :: (c3, _) :: (c4, _) :: (L, _) :: T) (by walk_at "subl")).see
    (E' := [("held", .ref hb), ("top", node m f (cpF r0 r1) tt), ("rows", .ref rw), ("k", tk), ("numbers", .ref nb), ("count", tn), ("tops", .ref ta)]) (by walk_at "upd") (by walk_at "sees")
  have lfv := nF.len
  generalize hways : cs0 ++ cs1 = way at *
  generalize lv ++ uv = wv at *
  rw [ew] at hQ
  unfold heldF at hQ
  rw [ew] at hQ
  refine (fun (key : ∀ (n j : Nat) (H F' : List Row) (hv fv' : List Value) (h' : Heap) (t' : Nat), St mg mb h₀ ((I, .li cl j) :: (cl, .lst wv) :: (hb, .lst hv) :: (rw, .lst [.ref b0, .ref b1]) :: (b1, .lst vs1) :: (b0, .lst vs0) :: (nb, .lst nv) :: (fa, .lst fv') :: (ma, .lst mv) :: (ta, .lst tv) ::
      (c1, .cell (some fr)) :: (c2, .cell (some oc)) :: (c3, .cell (some (.ref fa))) :: (c4, .cell (some (.ref ma))) :: (L, .ns [("held", .ref hb), ("top", node m f (cpF r0 r1) tt), ("rows", .ref rw), ("k", tk), ("numbers", .ref nb), ("count", tn), ("tops", .ref ta)]) :: T) h' →
      way.length = j + n → Nodes m f hv H → Nodes m f fv' F' → (∀ x ∈ H, x.length ≤ 3) → (∀ x ∈ F', x.length ≤ 3) → hv.length + n ≤ 1000 → fv'.length + n ≤ 1000 → (way.drop j).foldl push1 H = way.foldl push1 [] → (way.drop j).foldl push1 F' = way.foldl push1 F →
      ForT prog w _ E _ _ _ _ _ _ n ⟨h', g, d, t', o⟩) => key way.length 0 [] F [] fv h' _ D (Nat.zero_add _).symm .nil nF (fun _ hx => nomatch hx) zF (by simp; omega) (by omega) rfl rfl) ?_
  intro n
  induction n with
  | zero =>
    intro j H F' hv fv' h' t' D hj nH nF' zH zF' lH lF' eH eF
    refine pn_list_end hh D (by walk_at "mem") (by walk_at "fact") (by omega) (by walk_at "del") fun h' D => ?_
    show wpAny _ _ (execs [] _) _ _ _
    refine wpAny_execs_nil ?_
    rw [List.drop_eq_nil_of_le (by omega)] at eH eF
    rw [← eH, ← eF] at hQ
    exact hQ hb hv tt fv' h' _ nH nF' (D.sub (by walk_at "subl"))
  | succ n ih =>
    intro j H F' hv fv' h' t' D hj nH nF' zH zF' lH lF' eH eF
    have hj1 : j < way.length := by omega
    obtain ⟨tx, ek⟩ := nW.get j _ (List.getElem?_eq_getElem hj1)
    have zx := zW _ (List.getElem_mem hj1)
    rw [List.drop_eq_getElem_cons hj1, List.foldl_cons] at eH eF
    generalize way[j] = x at *
    refine pn_list D (by walk_at "upd") (by walk_at "fact") ek fun h' D => ?_
    show wpAny _ _ (letOwnedTupleGo _ _ _) _ _ _
    repeat ((fail_if_success (with_reducible show wpAny _ _ (execs _ _) _ _ _)); walk_at "x1")
    refine wpAny_execs_cons ?_
    have D := ‹St mg mb h₀ _ _›
    refine wpAny_mono (Q := fun f' s' => f' = .next ∧ ∃ h' t' fv2, s' = ⟨h', g, d, t', o⟩ ∧ Nodes m f fv2 (push1 F' x) ∧ fv2.length ≤ fv'.length + 1 ∧ St mg mb h₀ ((I, .li cl (j + 1)) :: (cl, .lst wv) :: (hb, .lst hv) :: (rw, .lst [.ref b0, .ref b1]) :: (b1, .lst vs1) :: (b0, .lst vs0) :: (nb, .lst nv) :: (fa, .lst fv2) :: (ma, .lst mv) :: (ta, .lst tv) ::
      (c1, .cell (some fr)) :: (c2, .cell (some oc)) :: (c3, .cell (some (.ref fa))) :: (c4, .cell (some (.ref ma))) :: (L, .ns [("folder", node m f x tx), ("held", .ref hb), ("top", node m f (cpF r0 r1) tt), ("rows", .ref rw), ("k", tk), ("numbers", .ref nb), ("count", tn), ("tops", .ref ta)]) :: T) h') ?_ ?_ (fun _ _ e => e)
    · repeat walk_at "x1"
      refine r_notin (by walk_at "fact") nF' zx zF' ?_
      repeat walk_at "x1"
      refine ite_ndec (fun hin => ?_) (fun hin => ?_)
      · repeat walk_at "x1"
        exact ⟨rfl, _, _, fv', rfl, by rw [push1_in hin]; exact nF', by omega, D⟩
      · repeat walk_at "x1"
        exact ⟨rfl, _, _, fv' ++ [node m f x tx], rfl, by rw [push1_out hin]; exact nF'.snoc, by rw [List.length_append, List.length_singleton]; exact Nat.le_refl _, by assumption⟩
    · rintro f' s' ⟨rfl, h', t', fv2, rfl, nF2, lF2, D⟩
      show wpAny _ _ (execs _ _) _ _ _
      refine wpAny_execs_cons ?_
      have zF2 := push1_len3 zF' zx
      repeat walk_at "x1"
      refine r_notin (by walk_at "fact") nH zx zH ?_
      repeat walk_at "x1"
      refine ite_ndec (fun hin => ?_) (fun hin => ?_)
      · repeat walk_at "x1"
        show ForT _ _ _ _ _ _ _ _ _ _ _ _
        rw [push1_in hin] at eH
        exact ih (j + 1) H _ hv fv2 _ _ (D.see (by walk_at "upd") (by walk_at "sees")) (by omega) nH nF2 zH zF2 (by omega) (by omega) eH eF
      · repeat walk_at "x1"
        show ForT _ _ _ _ _ _ _ _ _ _ _ _
        rw [push1_out hin] at eH
        have D := ‹St mg mb h₀ _ _›
        exact ih (j + 1) _ _ _ fv2 _ _ (D.see (by walk_at "upd") (by walk_at "sees")) (by omega) nH.snoc nF2 (by rw [← push1_out hin]; exact push1_len3 zH zx) zF2 (by rw [List.length_append, List.length_singleton]; omega) (by omega) eH eF
end
end Mine

end
section
open PySem PySem.Calls PySem.W PyProof.Rows
set_option maxRecDepth 100000
set_option maxHeartbeats 4000000
namespace Mine
local macro_rules | `(tactic| walk_at "mem") => `(tactic| first | exact List.Mem.head _ | (refine List.Mem.tail _ ?_; walk_at "mem"))
local macro_rules | `(tactic| walk_at "upd") => `(tactic| first | exact Upd.head | (apply Upd.tail; walk_at "upd"))
local macro_rules | `(tactic| walk_at "del") => `(tactic| first | exact Del.head | (apply Del.tail; walk_at "del"))
local macro_rules | `(tactic| walk_at "sees") => `(tactic| first | exact Sees.nil | (refine Sees.cons (by rfl) ?_; walk_at "sees"))
local macro_rules | `(tactic| walk_at "subl") => `(tactic| first | exact List.Sublist.slnil | (refine List.Sublist.cons_cons _ ?_; walk_at "subl") | (refine List.Sublist.cons _ ?_; walk_at "subl"))
local macro_rules | `(tactic| walk_at "fact") => `(tactic| first | exact St.get (by assumption) (by walk_at "mem") | exact St.oldf (by assumption) (by assumption) | assumption)
local macro_rules | `(tactic| walk_at "xname") => `(tactic| first
  | refine r_local (by assumption) (by walk_at "mem") (by rfl) ?_
  | refine r_blt (by assumption) (by rfl) ?_
  | refine r_cell (by assumption) (by rfl) (by walk_at "mem") ?_
  | refine r_glob (by assumption) (by first | assumption | exact FnAt.g (by assumption)) ?_)
local macro_rules | `(tactic| walk_at "xconst") => `(tactic| first
  | refine r_int fun _ _ => ?_
  | refine r_str fun _ _ => ?_
  | refine r_bytes fun _ _ => ?_
  | refine wpAny_Constant_bool ?_
  | refine wpAny_Constant_none ?_)
local macro_rules | `(tactic| walk_at "xeval") => `(tactic| first
  | ((with_reducible show wpAny _ _ (eval (Expr.Name _ _) _) _ _ _); walk_at "xname")
  | ((with_reducible show wpAny _ _ (eval (Expr.Constant _ _ _) _) _ _ _); walk_at "xconst")
  | ((with_reducible show wpAny _ _ (eval (Expr.Call (Expr.Attribute _ _ _) _ _ _) _) _ _ _); refine MethodCall_ ?_)
  | ((with_reducible show wpAny _ _ (eval (Expr.Call _ _ _ _) _) _ _ _); refine Call_ ?_)
  | with_reducible refine wpAny_BinOp ?_
  | ((with_reducible show wpAny _ _ (eval (Expr.Compare _ [_] [_] _) _) _ _ _); refine wpAny_Compare1 ?_)
  | ((with_reducible show wpAny _ _ (eval (Expr.Subscript _ _ _) _) _ _ _); refine Subscript_ ?_)
  | ((with_reducible show wpAny _ _ (eval (Expr.Slice none (some _) none _) _) _ _ _); refine e_slice_nu ?_)
  | ((with_reducible show wpAny _ _ (eval (Expr.IfExp _ _ _ _) _) _ _ _); refine wpAny_IfExp ?_)
  | ((with_reducible show wpAny _ _ (eval (Expr.Tuple _ _ _) _) _ _ _); refine Tuple_ ?_)
  | ((with_reducible show wpAny _ _ (eval (Expr.List _ _) _) _ _ _); refine List_ ?_)
  | ((with_reducible show wpAny _ _ (eval (Expr.UnaryOp _ _ _) _) _ _ _); refine wpAny_UnaryOp ?_))
local macro_rules | `(tactic| walk_at "xexec") => `(tactic| first
  | ((with_reducible show wpAny _ _ (exec (Stmt.Assign [Expr.Name _ _] _ _) _) _ _ _); refine wpAny_Assign_Name ?_)
  | ((with_reducible show wpAny _ _ (exec (Stmt.If _ _ _ _) _) _ _ _); refine wpAny_If ?_)
  | ((with_reducible show wpAny _ _ (exec (Stmt.Return (some _) _) _) _ _ _); refine wpAny_Return_some ?_)
  | ((with_reducible show wpAny _ _ (exec (Stmt.Break _) _) _ _ _); refine wpAny_Break ?_)
  | ((with_reducible show wpAny _ _ (exec (Stmt.Expr _ _) _) _ _ _); refine wpAny_Expr ?_)
  | ((with_reducible show wpAny _ _ (exec (Stmt.For _ _ _ _ _) _) _ _ _); refine r_For ?_)
  | ((with_reducible show wpAny _ _ (exec (Stmt.While _ _ _ _) _) _ _ _); refine r_While ?_)
  | ((with_reducible show wpAny _ _ (exec (Stmt.AugAssign (Expr.Name _ _) _ _ _) _) _ _ _); refine wpAny_AugAssign_Name ?_))
local macro_rules | `(tactic| walk_at "xtrue") => `(tactic| first
  | ((with_reducible show wpAny _ _ (isTrue (Expr.Compare _ [_] [_] _) _ _) _ _ _); refine wpAny_isTrue_Compare1 ?_)
  | ((with_reducible show wpAny _ _ (isTrue (Expr.BoolOp _ _ _) _ _) _ _ _); refine wpAny_isTrue_BoolOp ?_)
  | ((with_reducible show wpAny _ _ (isTrue (Expr.UnaryOp UnaryOp.Not _ _) _ _) _ _ _); refine wpAny_isTrue_Not ?_)
  | ((with_reducible show wpAny _ _ (isTrue (Expr.Call _ _ _ _) _ _) _ _ _); refine wpAny_isTrue_value ?_)
  | ((with_reducible show wpAny _ _ (isTrue (Expr.Name _ _) _ _) _ _ _); refine wpAny_isTrue_value ?_))
local macro_rules | `(tactic| walk_at "xcall") => `(tactic| first
  | ((with_reducible show wpAny _ _ (call (Value.type "range") [Value.int _ _]) _ _ _); refine r_range (by assumption) ?_; intro _ _ _ _ _ _)
  | ((with_reducible show wpAny _ _ (call (Value.builtin "list.append") [_, _]) _ _ _); refine r_append (by assumption) (by walk_at "upd") ?_; intro _ _)
  | ((with_reducible show wpAny _ _ (call (Value.builtin "len") [Value.ref _]) _ _ _); refine r_len_list (by walk_at "fact") (by first | assumption | decide | omega) ?_; intro _ _)
  | ((with_reducible show wpAny _ _ (call (Value.type "type") [Value.str _ _]) _ _ _); refine call_type_of (Tx := "str") rfl (by decide) ?_)
  | ((with_reducible show wpAny _ _ (call (Value.type "type") [Value.bytes _ _]) _ _ _); refine call_type_of (Tx := "bytes") rfl (by decide) ?_)
  | ((with_reducible show wpAny _ _ (call (Value.builtin "issubclass") [Value.type "str", _]) _ _ _); refine r_issub_str (by assumption) (by walk_at "mem") ?_)
  | ((with_reducible show wpAny _ _ (call (Value.builtin "issubclass") [Value.type "bytes", _]) _ _ _); refine r_issub_bytes (by assumption) (by walk_at "mem") ?_)
  | ((with_reducible show wpAny _ _ (call (Value.builtin "isinstance") [Value.str _ _, Value.type "bytes"]) _ _ _); refine IsiPair.str_bytes ?_)
  | ((with_reducible show wpAny _ _ (call (Value.builtin "isinstance") [Value.bytes _ _, Value.type "bytes"]) _ _ _); refine call_isinstance_yes (typeIs_bytes _ _ _) F.isi_meta_bytes F.isi_self_bytes ?_))
local macro_rules | `(tactic| walk_at "xop") => `(tactic| first
  | ((with_reducible show wpAny _ _ (binaryOp Operator.Add (Value.int _ _) (Value.int _ _)) _ _ _); refine r_add ?_; intro _ _)
  | ((with_reducible show wpAny _ _ (binaryOp Operator.Sub (Value.int _ _) (Value.int _ _)) _ _ _); refine r_sub ?_; intro _ _)
  | ((with_reducible show wpAny _ _ (binaryOp Operator.Mod (Value.int _ _) (Value.int _ _)) _ _ _); refine r_mod (by decide) ?_; intro _ _)
  | ((with_reducible show wpAny _ _ (binaryOp Operator.Mult (Value.int _ _) (Value.int _ _)) _ _ _); refine r_mul ?_; intro _ _)
  | ((with_reducible show wpAny _ _ (binaryOp Operator.FloorDiv (Value.int _ _) (Value.int _ _)) _ _ _); refine r_fdiv (by decide) (PyProof.noPylong_small (by decide)) ?_; intro _ _)
  | ((with_reducible show wpAny _ _ (binaryOp Operator.BitAnd (Value.int _ _) (Value.int _ _)) _ _ _); refine r_and ?_; intro _ _))
local macro_rules | `(tactic| walk_at "xcmp") => `(tactic| first
  | ((with_reducible show wpAny _ _ (compareOp CmpOp.Eq (Value.int _ _) (Value.int _ _)) _ _ _); refine r_eq ?_)
  | ((with_reducible show wpAny _ _ (compareOp CmpOp.NotEq (Value.int _ _) (Value.int _ _)) _ _ _); refine r_ne ?_)
  | ((with_reducible show wpAny _ _ (compareOp CmpOp.Lt (Value.int _ _) (Value.int _ _)) _ _ _); refine r_lt ?_))
local macro_rules | `(tactic| walk_at "x1") => `(tactic| first
  | ((with_reducible show wpAny _ _ (eval _ _) _ _ _); walk_at "xeval")
  | ((with_reducible show wpAny _ _ (spliced _) _ _ _); first
    | ((with_reducible show wpAny _ _ (spliced (backTo _ (starEach [] _))) _ _ _); refine args_nil ?_; (try simp only [List.nil_append, List.cons_append]))
    | ((with_reducible show wpAny _ _ (spliced (backTo _ (starEach (_ :: _) _))) _ _ _); refine args_cons ?_))
  | ((with_reducible show wpAny _ _ (callWith _ _ _ _ _) _ _ _); first
    | ((with_reducible show wpAny _ _ (callWith _ (Value.builtin _) _ _ _) _ _ _); refine cw_blt ?_)
    | ((with_reducible show wpAny _ _ (callWith _ (Value.ref _) _ _ _) _ _ _); refine cw_fn ?_)
    | ((with_reducible show wpAny _ _ (callWith _ (Value.type _) _ _ _) _ _ _); refine cw_type ?_))
  | ((with_reducible show wpAny _ _ (execs _ _) _ _ _); first
    | ((with_reducible show wpAny _ _ (execs (_ :: _) _) _ _ _); refine wpAny_execs_cons ?_)
    | ((with_reducible show wpAny _ _ (execs [] _) _ _ _); refine wpAny_execs_nil ?_))
  | ((with_reducible show wpAny _ _ (exec _ _) _ _ _); walk_at "xexec")
  | ((with_reducible show wpAny _ _ (storeName _ _ _) _ _ _); first | (refine r_st (by assumption) (by walk_at "upd") ?_; intro _ _ _) | (refine r_stc (by assumption) (by rfl) (by walk_at "upd") ?_; intro _ _ _))
  | ((with_reducible show wpAny _ _ (isTrue _ _ _) _ _ _); walk_at "xtrue")
  | ((with_reducible show wpAny _ _ (truthy (Value.bool _)) _ _ _); refine wpAny_truthy_bool ?_)
  | ((with_reducible show wpAny _ _ (call _ _ _) _ _ _); walk_at "xcall")
  | ((with_reducible show wpAny _ _ (binaryOp _ _ _) _ _ _); walk_at "xop")
  | ((with_reducible show wpAny _ _ (compareOp _ _ _) _ _ _); walk_at "xcmp")
  | ((with_reducible show wpAny _ _ (subscriptTail _ _ (Value.ref _) (Value.int _ _)) _ _ _); refine t_list_item (by walk_at "fact") (by decide) (by decide) (by rfl) ?_)
  | ((with_reducible show wpAny _ _ (inplaceOp Operator.Add (Value.int _ _) (Value.int _ _)) _ _ _); refine r_iadd ?_; intro _ _)
  | ((with_reducible show wpAny _ _ (loadName _ _) _ _ _); first
    | refine r_localN (by assumption) (by walk_at "mem") (by rfl) ?_
    | refine r_cellN (by assumption) (by rfl) (by walk_at "mem") ?_)
  | ((with_reducible show wpAny _ _ (forIn [] _ _) _ _ _); refine wpAny_tests_nil ?_)
  | ((with_reducible show wpAny _ _ (forIn [_] _ _) _ _ _); refine wpAny_tests_one ?_)
  | ((with_reducible show wpAny _ _ (emitL _ _ _) _ _ _); refine wp_emitL ?_)
  | ((with_reducible show wpAny _ _ (emitS _ _ _) _ _ _); refine wp_emitS ?_)
  | ((with_reducible show wpAny _ _ (assign (Expr.Name _ _) _ _) _ _ _); refine wpAny_assign_Name ?_)
  | ((with_reducible show wpAny _ _ (getMethod (Value.ref _) _ _) _ _ _); (with_reducible refine gm_append ?_ ?_); (· exact ⟨_, by walk_at "fact"⟩))
  | ((with_reducible show wpAny _ _ (letOwnedTupleGo (Expr.Name _ _) _ _) _ _ _); refine wpAny_pure ?_)
  | ((with_reducible show wpAny _ _ (newTuple _) _ _ _); refine r_newTuple (by assumption) ?_; intro _ _ _)
  | ((with_reducible show wpAny _ _ (newList _) _ _ _); refine r_newList (by assumption) ?_; intro _ _ _)
  | ((with_reducible show wpAny _ _ (newFields "slice" [_, _, Value.none]) _ _ _); refine r_newSlice (by assumption) ?_; intro _ _ _)
  | ((with_reducible show wpAny _ _ (allTrue _ _ _) _ _ _); first
    | ((with_reducible show wpAny _ _ (allTrue BoolOp.And (_ :: _) _) _ _ _); refine wpAny_allTrue_And_cons ?_)
    | ((with_reducible show wpAny _ _ (allTrue BoolOp.Or (_ :: _) _) _ _ _); refine wpAny_allTrue_Or_cons ?_)
    | refine wpAny_allTrue_And_nil ?_ | refine wpAny_allTrue_Or_nil ?_)
  | ((with_reducible show ite _ _ _); (first | rw [if_pos rfl] | rw [if_neg Bool.false_ne_true])))
local macro_rules | `(tactic| walk_at "subl") => `(tactic| with_reducible exact List.Sublist.refl _)
local macro_rules | `(tactic| walk_at "x1") => `(tactic| first
  | ((with_reducible show wpAny _ _ (binaryOp Operator.RShift (Value.int _ _) (Value.int _ _)) _ _ _); refine r_rshift (by omega) ?_; intro _ _)
  | ((with_reducible show wpAny _ _ (unaryOp UnaryOp.USub (Value.int _ _)) _ _ _); refine r_neg ?_; intro _ _)
  | ((with_reducible show wpAny _ _ (compareOp CmpOp.Is (Value.ref _) Value.none) _ _ _); refine is_ref_none ?_)
  | ((with_reducible show wpAny _ _ (getMethod (Value.ref _) "index" _) _ _ _); (with_reducible refine gm_index ?_ ?_); (· exact ⟨_, by walk_at "fact"⟩))
  | ((with_reducible show wpAny _ _ (eval (Expr.BoolOp BoolOp.And (_ :: _ :: _) _) _) _ _ _); refine BoolOp_and ?_)
  | ((with_reducible show wpAny _ _ (eval (Expr.BoolOp BoolOp.And [_] _) _) _ _ _); refine BoolOp_one ?_))
theorem mask_sum (F H : List Row) : (H.map fun x => ((2 ^ F.idxOf x : Nat) : Int)).sum = (((H.map fun x => 2 ^ F.idxOf x).sum : Nat) : Int) := by
  induction H with
  | nil => rfl
  | cons x r ih => rw [List.map_cons, List.sum_cons, List.map_cons, List.sum_cons, ih, Int.natCast_add]
theorem intsAre_snoc {vs : List Value} {ns : List Int} {x : Int} {tk : Nat} (s : IntsAre vs ns) : IntsAre (vs ++ [.int x tk]) (ns ++ [x]) := s.append (.cons _ _ .nil)
theorem held_len10 : ∀ r0 ∈ rows3, ∀ r1 ∈ rows3, (heldF (r0, r1)).length ≤ 10 := by decide +kernel
theorem top_held : ∀ r0 ∈ rows3, ∀ r1 ∈ rows3, cpF r0 r1 ∈ heldF (r0, r1) := by decide +kernel
section
variable {prog : Program} {w : World} {A : Around} {X : Value → Shared → Prop} {g : Array GenState} {d : Drawn} {t : Nat} {o : OsState} {mg mb : Str → Option Value} {h₀ h : Heap} {N N' T : List (Addr × Fact)}
  {L a c1 c2 c3 c4 c5 c6 c7 c8 : Addr} {cd : Value} {m f : Bool}
theorem turn_c {pa hb rw b0 b1 nb fa ma ta : Addr} {vs0 vs1 hv nv fv mv tv : List Value} {fr oc tn : Value} {tt k tk : Nat} {r0 r1 : Row} {F : List Row} {Q : Flow → Shared → Prop} (hh : A.handled = none) (hR : A.depth < recursionLimit)
    (Fd : Fn mg h₀ "_law_depth" 19 pa) (s0 : Segs vs0 r0) (s1 : Segs vs1 r1)
    (D : St mg mb h₀ ((hb, .lst hv) :: (rw, .lst [.ref b0, .ref b1]) :: (b1, .lst vs1) :: (b0, .lst vs0) ::
      (nb, .lst nv) :: (fa, .lst fv) :: (ma, .lst mv) :: (ta, .lst tv) :: (c1, .cell (some fr)) :: (c2, .cell (some oc)) :: (c3, .cell (some (.ref fa))) :: (c4, .cell (some (.ref ma))) ::
      (L, .ns [("held", .ref hb), ("top", node m f (cpF r0 r1) tt), ("rows", .ref rw), ("k", .int ((k : Nat) : Int) tk), ("numbers", .ref nb), ("count", tn), ("tops", .ref ta)]) :: T) h)
    (h0 : r0.length ≤ 3) (h1 : r1.length ≤ 3) (nH : Nodes m f hv (heldF (r0, r1))) (nF : Nodes m f fv F) (zF : ∀ x ∈ F, x.length ≤ 3) (lF : F.length ≤ 500) (hF : ∀ x ∈ heldF (r0, r1), x ∈ F) (lm : mv.length ≤ 100) (lt : tv.length ≤ 100)
    (hQ : ∀ mt b t1 t2 t3 h' t', St mg mb h₀ ((nb, .lst nv) :: (fa, .lst fv) :: (ma, .lst (mv ++ [.int ((maskF F (r0, r1) : Nat) : Int) mt])) :: (ta, .lst (tv ++ [.ref b])) :: (c1, .cell (some fr)) :: (c2, .cell (some oc)) :: (c3, .cell (some (.ref fa))) :: (c4, .cell (some (.ref ma))) ::
      (L, .ns [("numbers", .ref nb), ("count", tn), ("tops", .ref ta)]) :: (b, .tup [.int (-((cpF r0 r1).length : Nat)) t1, .int ((k : Nat) : Int) t2, .int ((F.idxOf (cpF r0 r1) : Nat) : Int) t3]) :: T) h' → Q .next ⟨h', g, d, t', o⟩) :
    wpAny (model prog w) A (execs (turnB.drop 9) (lawE L a cd c1 c2 c3 c4 c5 c6 c7 c8)) Q X ⟨h, g, d, t, o⟩ := by
  have m0 := mem_rows3 h0
  have m1 := mem_rows3 h1
  have e0 := s0.len
  have e1 := s1.len
  have z0 : vs0.length ≤ 1000 := by omega
  have z1 : vs1.length ≤ 1000 := by omega
  have eh := nH.len
  have lh10 := held_len10 r0 m0 r1 m1
  have lh : hv.length ≤ 1000 := by omega
  have hl := held_len r0 m0 r1 m1
  have zc : (cpF r0 r1).length ≤ 3 := Nat.le_trans (cpF_le r0 r1) h0
  refine wpAny_execs_cons ?_
  repeat walk_at "x1"
  refine ⟨Fd.here.ext (St.keep (by assumption)), ?_⟩
  refine law_depth hh (St.wdn (by assumption)) (Fd.ext (St.keep (by assumption))) hR (by walk_at "fact") (by walk_at "fact") (by walk_at "fact") s0 s1 (by omega) (by omega) fun h' t' tk' k1 => ?_
  have D := St.ext (by assumption) k1
  repeat walk_at "x1"
  refine ite_dec (fun hne => absurd (by omega) hne) (fun _ => ?_)
  repeat walk_at "x1"
  refine r_ListComp (cl := [("folders", c3)]) (by rfl) ?_
  repeat walk_at "x1"
  have D := ‹St mg mb h₀ _ _›
  refine pi_list (xs := hv) D (by walk_at "fact") fun I h' D => ?_
  refine compGo_of D (.head _) trivial fun C Dl h' t' D => ?_
  refine comp1 ⟨hv.length, fun E => ?_⟩
  refine comp_list hh (D.perm (N' := (C, .ns []) :: (Dl, .lst []) :: (I, .li hb 0) :: _) (List.Perm.refl _)) (by walk_at "mem") (P := fun k acc _ => IntsAre acc (((heldF (r0, r1)).take k).map fun x => ((2 ^ F.idxOf x : Nat) : Int)) ∧ acc.length = k) ⟨.nil, rfl⟩ ?_ ?_
  · rintro j E' acc h t v Q' hv1 ⟨pa, pl⟩ D hq
    have hj : j < hv.length := by
      rcases Nat.lt_or_ge j hv.length with q | q
      · exact q
      · rw [List.getElem?_eq_none q] at hv1; cases hv1
    have hj2 : j < (heldF (r0, r1)).length := by omega
    obtain ⟨tx, ek⟩ := nH.get j _ (List.getElem?_eq_getElem hj2)
    rw [ek] at hv1
    obtain rfl := Option.some.inj hv1
    have hxF := hF _ (List.getElem_mem hj2)
    have hidx := List.idxOf_lt_length_of_mem hxF
    refine turn_nil ?_
    repeat walk_at "x1"
    refine r_index (by walk_at "fact") nF (zF _ hxF) zF hxF (by omega) fun _ _ => ?_
    repeat walk_at "x1"
    refine r_pow (by omega) (by omega) (by decide) fun _ _ => ?_
    repeat walk_at "x1"
    have D := ‹St mg mb h₀ _ _›
    refine hq _ _ _ _ ⟨?_, by rw [List.length_append, List.length_singleton, pl]⟩ D
    rw [← List.take_append_getElem hj2, List.map_append, List.map_singleton]
    have ep : (2 : Int) ^ ((F.idxOf (heldF (r0, r1))[j] : Nat) : Int).toNat = ((2 ^ F.idxOf (heldF (r0, r1))[j] : Nat) : Int) := by rw [Int.toNat_natCast, Int.natCast_pow]; rfl
    rw [← ep]
    exact intsAre_snoc pa
  · rintro acc E' h' t' ⟨pq, pl⟩ D
    rw [List.take_of_length_le (by omega)] at pq
    refine cp_none (C := C) D (by walk_at "mem") (by walk_at "del") fun h' D => ?_
    repeat walk_at "x1"
    refine r_sum hh D (by walk_at "fact") pq fun h' t' mt D => ?_
    rw [mask_sum]
    repeat walk_at "x1"
    refine ⟨Fd.here.ext (St.keep (by assumption)), ?_⟩
    refine law_depth hh (St.wdn (by assumption)) (Fd.ext (St.keep (by assumption))) hR (by walk_at "fact") (by walk_at "fact") (by walk_at "fact") s0 s1 (by omega) (by omega) fun h' t' tk' k1 => ?_
    have D := St.ext (by assumption) k1
    repeat walk_at "x1"
    have hxF := hF _ (top_held r0 m0 r1 m1)
    refine r_index (by walk_at "fact") nF zc zF hxF (by omega) fun _ _ => ?_
    repeat walk_at "x1"
    have D := ‹St mg mb h₀ _ _›
    have D := (D.sub (N' := (_, .tup [.int (-((cpF r0 r1).length : Nat)) _, .int ((k : Nat) : Int) tk, .int ((F.idxOf (cpF r0 r1) : Nat) : Int) _]) :: (nb, .lst nv) :: (fa, .lst fv) :: (ma, .lst (mv ++ [.int ((maskF F (r0, r1) : Nat) : Int) mt])) :: (ta, .lst (tv ++ [.ref _])) :: (c1, .cell (some fr)) :: (c2, .cell (some oc)) :: (c3, .cell (some (.ref fa))) :: (c4, .cell (some (.ref ma))) ::
      (L, .ns _) :: T) (by walk_at "subl")).see (E' := [("numbers", .ref nb), ("count", tn), ("tops", .ref ta)]) (by walk_at "upd") (by walk_at "sees")
    exact hQ _ _ _ _ _ _ _ (D.perm (List.perm_middle (l₁ := [(nb, _), (fa, _), (ma, _), (ta, _), (c1, _), (c2, _), (c3, _), (c4, _), (L, _)])))
end
end Mine

end
section
open PySem PySem.Calls PySem.W PyProof.Rows
set_option maxRecDepth 100000
set_option maxHeartbeats 4000000
namespace Mine
local macro_rules | `(tactic| walk_at "mem") => `(tactic| first | exact List.Mem.head _ | (refine List.Mem.tail _ ?_; walk_at "mem"))
local macro_rules | `(tactic| walk_at "upd") => `(tactic| first | exact Upd.head | (apply Upd.tail; walk_at "upd"))
local macro_rules | `(tactic| walk_at "del") => `(tactic| first | exact Del.head | (apply Del.tail; walk_at "del"))
local macro_rules | `(tactic| walk_at "sees") => `(tactic| first | exact Sees.nil | (refine Sees.cons (by rfl) ?_; walk_at "sees"))
local macro_rules | `(tactic| walk_at "subl") => `(tactic| first | exact List.Sublist.slnil | (refine List.Sublist.cons_cons _ ?_; walk_at "subl") | (refine List.Sublist.cons _ ?_; walk_at "subl"))
local macro_rules | `(tactic| walk_at "fact") => `(tactic| first | exact St.get (by assumption) (by walk_at "mem") | exact St.oldf (by assumption) (by assumption) | assumption)
local macro_rules | `(tactic| walk_at "xname") => `(tactic| first
  | refine r_local (by assumption) (by walk_at "mem") (by rfl) ?_
  | refine r_blt (by assumption) (by rfl) ?_
  | refine r_cell (by assumption) (by rfl) (by walk_at "mem") ?_
  | refine r_glob (by assumption) (by first | assumption | exact FnAt.g (by assumption)) ?_)
local macro_rules | `(tactic| walk_at "xconst") => `(tactic| first
  | refine r_int fun _ _ => ?_
  | refine r_str fun _ _ => ?_
  | refine r_bytes fun _ _ => ?_
  | refine wpAny_Constant_bool ?_
  | refine wpAny_Constant_none ?_)
local macro_rules | `(tactic| walk_at "xeval") => `(tactic| first
  | ((with_reducible show wpAny _ _ (eval (Expr.Name _ _) _) _ _ _); walk_at "xname")
  | ((with_reducible show wpAny _ _ (eval (Expr.Constant _ _ _) _) _ _ _); walk_at "xconst")
  | ((with_reducible show wpAny _ _ (eval (Expr.Call (Expr.Attribute _ _ _) _ _ _) _) _ _ _); refine MethodCall_ ?_)
  | ((with_reducible show wpAny _ _ (eval (Expr.Call _ _ _ _) _) _ _ _); refine Call_ ?_)
  | with_reducible refine wpAny_BinOp ?_
  | ((with_reducible show wpAny _ _ (eval (Expr.Compare _ [_] [_] _) _) _ _ _); refine wpAny_Compare1 ?_)
  | ((with_reducible show wpAny _ _ (eval (Expr.Subscript _ _ _) _) _ _ _); refine Subscript_ ?_)
  | ((with_reducible show wpAny _ _ (eval (Expr.Slice none (some _) none _) _) _ _ _); refine e_slice_nu ?_)
  | ((with_reducible show wpAny _ _ (eval (Expr.IfExp _ _ _ _) _) _ _ _); refine wpAny_IfExp ?_)
  | ((with_reducible show wpAny _ _ (eval (Expr.Tuple _ _ _) _) _ _ _); refine Tuple_ ?_)
  | ((with_reducible show wpAny _ _ (eval (Expr.List _ _) _) _ _ _); refine List_ ?_)
  | ((with_reducible show wpAny _ _ (eval (Expr.UnaryOp _ _ _) _) _ _ _); refine wpAny_UnaryOp ?_))
local macro_rules | `(tactic| walk_at "xexec") => `(tactic| first
  | ((with_reducible show wpAny _ _ (exec (Stmt.Assign [Expr.Name _ _] _ _) _) _ _ _); refine wpAny_Assign_Name ?_)
  | ((with_reducible show wpAny _ _ (exec (Stmt.If _ _ _ _) _) _ _ _); refine wpAny_If ?_)
  | ((with_reducible show wpAny _ _ (exec (Stmt.Return (some _) _) _) _ _ _); refine wpAny_Return_some ?_)
  | ((with_reducible show wpAny _ _ (exec (Stmt.Break _) _) _ _ _); refine wpAny_Break ?_)
  | ((with_reducible show wpAny _ _ (exec (Stmt.Expr _ _) _) _ _ _); refine wpAny_Expr ?_)
  | ((with_reducible show wpAny _ _ (exec (Stmt.For _ _ _ _ _) _) _ _ _); refine r_For ?_)
  | ((with_reducible show wpAny _ _ (exec (Stmt.While _ _ _ _) _) _ _ _); refine r_While ?_)
  | ((with_reducible show wpAny _ _ (exec (Stmt.AugAssign (Expr.Name _ _) _ _ _) _) _ _ _); refine wpAny_AugAssign_Name ?_))
local macro_rules | `(tactic| walk_at "xtrue") => `(tactic| first
  | ((with_reducible show wpAny _ _ (isTrue (Expr.Compare _ [_] [_] _) _ _) _ _ _); refine wpAny_isTrue_Compare1 ?_)
  | ((with_reducible show wpAny _ _ (isTrue (Expr.BoolOp _ _ _) _ _) _ _ _); refine wpAny_isTrue_BoolOp ?_)
  | ((with_reducible show wpAny _ _ (isTrue (Expr.UnaryOp UnaryOp.Not _ _) _ _) _ _ _); refine wpAny_isTrue_Not ?_)
  | ((with_reducible show wpAny _ _ (isTrue (Expr.Call _ _ _ _) _ _) _ _ _); refine wpAny_isTrue_value ?_)
  | ((with_reducible show wpAny _ _ (isTrue (Expr.Name _ _) _ _) _ _ _); refine wpAny_isTrue_value ?_))
local macro_rules | `(tactic| walk_at "xcall") => `(tactic| first
  | ((with_reducible show wpAny _ _ (call (Value.type "range") [Value.int _ _]) _ _ _); refine r_range (by assumption) ?_; intro _ _ _ _ _ _)
  | ((with_reducible show wpAny _ _ (call (Value.builtin "list.append") [_, _]) _ _ _); refine r_append (by assumption) (by walk_at "upd") ?_; intro _ _)
  | ((with_reducible show wpAny _ _ (call (Value.builtin "len") [Value.ref _]) _ _ _); refine r_len_list (by walk_at "fact") (by first | assumption | decide | omega) ?_; intro _ _)
  | ((with_reducible show wpAny _ _ (call (Value.type "type") [Value.str _ _]) _ _ _); refine call_type_of (Tx := "str") rfl (by decide) ?_)
  | ((with_reducible show wpAny _ _ (call (Value.type "type") [Value.bytes _ _]) _ _ _); refine call_type_of (Tx := "bytes") rfl (by decide) ?_)
  | ((with_reducible show wpAny _ _ (call (Value.builtin "issubclass") [Value.type "str", _]) _ _ _); refine r_issub_str (by assumption) (by walk_at "mem") ?_)
  | ((with_reducible show wpAny _ _ (call (Value.builtin "issubclass") [Value.type "bytes", _]) _ _ _); refine r_issub_bytes (by assumption) (by walk_at "mem") ?_)
  | ((with_reducible show wpAny _ _ (call (Value.builtin "isinstance") [Value.str _ _, Value.type "bytes"]) _ _ _); refine IsiPair.str_bytes ?_)
  | ((with_reducible show wpAny _ _ (call (Value.builtin "isinstance") [Value.bytes _ _, Value.type "bytes"]) _ _ _); refine call_isinstance_yes (typeIs_bytes _ _ _) F.isi_meta_bytes F.isi_self_bytes ?_))
local macro_rules | `(tactic| walk_at "xop") => `(tactic| first
  | ((with_reducible show wpAny _ _ (binaryOp Operator.Add (Value.int _ _) (Value.int _ _)) _ _ _); refine r_add ?_; intro _ _)
  | ((with_reducible show wpAny _ _ (binaryOp Operator.Sub (Value.int _ _) (Value.int _ _)) _ _ _); refine r_sub ?_; intro _ _)
  | ((with_reducible show wpAny _ _ (binaryOp Operator.Mod (Value.int _ _) (Value.int _ _)) _ _ _); refine r_mod (by decide) ?_; intro _ _)
  | ((with_reducible show wpAny _ _ (binaryOp Operator.Mult (Value.int _ _) (Value.int _ _)) _ _ _); refine r_mul ?_; intro _ _)
  | ((with_reducible show wpAny _ _ (binaryOp Operator.FloorDiv (Value.int _ _) (Value.int _ _)) _ _ _); refine r_fdiv (by decide) (PyProof.noPylong_small (by decide)) ?_; intro _ _)
  | ((with_reducible show wpAny _ _ (binaryOp Operator.BitAnd (Value.int _ _) (Value.int _ _)) _ _ _); refine r_and ?_; intro _ _))
local macro_rules | `(tactic| walk_at "xcmp") => `(tactic| first
  | ((with_reducible show wpAny _ _ (compareOp CmpOp.Eq (Value.int _ _) (Value.int _ _)) _ _ _); refine r_eq ?_)
  | ((with_reducible show wpAny _ _ (compareOp CmpOp.NotEq (Value.int _ _) (Value.int _ _)) _ _ _); refine r_ne ?_)
  | ((with_reducible show wpAny _ _ (compareOp CmpOp.Lt (Value.int _ _) (Value.int _ _)) _ _ _); refine r_lt ?_))
local macro_rules | `(tactic| walk_at "x1") => `(tactic| first
  | ((with_reducible show wpAny _ _ (eval _ _) _ _ _); walk_at "xeval")
  | ((with_reducible show wpAny _ _ (spliced _) _ _ _); first
    | ((with_reducible show wpAny _ _ (spliced (backTo _ (starEach [] _))) _ _ _); refine args_nil ?_; (try simp only [List.nil_append, List.cons_append]))
    | ((with_reducible show wpAny _ _ (spliced (backTo _ (starEach (_ :: _) _))) _ _ _); refine args_cons ?_))
  | ((with_reducible show wpAny _ _ (callWith _ _ _ _ _) _ _ _); first
    | ((with_reducible show wpAny _ _ (callWith _ (Value.builtin _) _ _ _) _ _ _); refine cw_blt ?_)
    | ((with_reducible show wpAny _ _ (callWith _ (Value.ref _) _ _ _) _ _ _); refine cw_fn ?_)
    | ((with_reducible show wpAny _ _ (callWith _ (Value.type _) _ _ _) _ _ _); refine cw_type ?_))
  | ((with_reducible show wpAny _ _ (execs _ _) _ _ _); first
    | ((with_reducible show wpAny _ _ (execs (_ :: _) _) _ _ _); refine wpAny_execs_cons ?_)
    | ((with_reducible show wpAny _ _ (execs [] _) _ _ _); refine wpAny_execs_nil ?_))
  | ((with_reducible show wpAny _ _ (exec _ _) _ _ _); walk_at "xexec")
  | ((with_reducible show wpAny _ _ (storeName _ _ _) _ _ _); first | (refine r_st (by assumption) (by walk_at "upd") ?_; intro _ _ _) | (refine r_stc (by assumption) (by rfl) (by walk_at "upd") ?_; intro _ _ _))
  | ((with_reducible show wpAny _ _ (isTrue _ _ _) _ _ _); walk_at "xtrue")
  | ((with_reducible show wpAny _ _ (truthy (Value.bool _)) _ _ _); refine wpAny_truthy_bool ?_)
  | ((with_reducible show wpAny _ _ (call _ _ _) _ _ _); walk_at "xcall")
  | ((with_reducible show wpAny _ _ (binaryOp _ _ _) _ _ _); walk_at "xop")
  | ((with_reducible show wpAny _ _ (compareOp _ _ _) _ _ _); walk_at "xcmp")
  | ((with_reducible show wpAny _ _ (subscriptTail _ _ (Value.ref _) (Value.int _ _)) _ _ _); refine t_list_item (by walk_at "fact") (by decide) (by decide) (by rfl) ?_)
  | ((with_reducible show wpAny _ _ (inplaceOp Operator.Add (Value.int _ _) (Value.int _ _)) _ _ _); refine r_iadd ?_; intro _ _)
  | ((with_reducible show wpAny _ _ (loadName _ _) _ _ _); first
    | refine r_localN (by assumption) (by walk_at "mem") (by rfl) ?_
    | refine r_cellN (by assumption) (by rfl) (by walk_at "mem") ?_)
  | ((with_reducible show wpAny _ _ (forIn [] _ _) _ _ _); refine wpAny_tests_nil ?_)
  | ((with_reducible show wpAny _ _ (forIn [_] _ _) _ _ _); refine wpAny_tests_one ?_)
  | ((with_reducible show wpAny _ _ (emitL _ _ _) _ _ _); refine wp_emitL ?_)
  | ((with_reducible show wpAny _ _ (emitS _ _ _) _ _ _); refine wp_emitS ?_)
  | ((with_reducible show wpAny _ _ (assign (Expr.Name _ _) _ _) _ _ _); refine wpAny_assign_Name ?_)
  | ((with_reducible show wpAny _ _ (getMethod (Value.ref _) _ _) _ _ _); (with_reducible refine gm_append ?_ ?_); (· exact ⟨_, by walk_at "fact"⟩))
  | ((with_reducible show wpAny _ _ (letOwnedTupleGo (Expr.Name _ _) _ _) _ _ _); refine wpAny_pure ?_)
  | ((with_reducible show wpAny _ _ (newTuple _) _ _ _); refine r_newTuple (by assumption) ?_; intro _ _ _)
  | ((with_reducible show wpAny _ _ (newList _) _ _ _); refine r_newList (by assumption) ?_; intro _ _ _)
  | ((with_reducible show wpAny _ _ (newFields "slice" [_, _, Value.none]) _ _ _); refine r_newSlice (by assumption) ?_; intro _ _ _)
  | ((with_reducible show wpAny _ _ (allTrue _ _ _) _ _ _); first
    | ((with_reducible show wpAny _ _ (allTrue BoolOp.And (_ :: _) _) _ _ _); refine wpAny_allTrue_And_cons ?_)
    | ((with_reducible show wpAny _ _ (allTrue BoolOp.Or (_ :: _) _) _ _ _); refine wpAny_allTrue_Or_cons ?_)
    | refine wpAny_allTrue_And_nil ?_ | refine wpAny_allTrue_Or_nil ?_)
  | ((with_reducible show ite _ _ _); (first | rw [if_pos rfl] | rw [if_neg Bool.false_ne_true])))
local macro_rules | `(tactic| walk_at "subl") => `(tactic| with_reducible exact List.Sublist.refl _)
local macro_rules | `(tactic| walk_at "x1") => `(tactic| first
  | ((with_reducible show wpAny _ _ (binaryOp Operator.RShift (Value.int _ _) (Value.int _ _)) _ _ _); refine r_rshift (by omega) ?_; intro _ _)
  | ((with_reducible show wpAny _ _ (unaryOp UnaryOp.USub (Value.int _ _)) _ _ _); refine r_neg ?_; intro _ _)
  | ((with_reducible show wpAny _ _ (compareOp CmpOp.Is (Value.ref _) Value.none) _ _ _); refine is_ref_none ?_)
  | ((with_reducible show wpAny _ _ (getMethod (Value.ref _) "index" _) _ _ _); (with_reducible refine gm_index ?_ ?_); (· exact ⟨_, by walk_at "fact"⟩))
  | ((with_reducible show wpAny _ _ (eval (Expr.BoolOp BoolOp.And (_ :: _ :: _) _) _) _ _ _); refine BoolOp_and ?_)
  | ((with_reducible show wpAny _ _ (eval (Expr.BoolOp BoolOp.And [_] _) _) _ _ _); refine BoolOp_one ?_))
def FK (qs : Nat → Row × Row) (k : Nat) : List Row := foldersF ((List.range k).map qs)
def mkQ (qs : Nat → Row × Row) (k : Nat) : Nat := maskF (FK qs (k + 1)) (qs k)
def plQ (qs : Nat → Row × Row) (k : Nat) : Nat := (FK qs (k + 1)).idxOf (topF (qs k))
def dpQ (qs : Nat → Row × Row) (k : Nat) : Nat := depF (qs k)
section
variable {qs : Nat → Row × Row} (hq : ∀ k, (qs k).1.length ≤ 3 ∧ (qs k).2.length ≤ 3)
theorem FK_succ (k : Nat) : FK qs (k + 1) = (wayF (qs k)).foldl push1 (FK qs k) := by
  unfold FK; rw [List.range_succ, List.map_append, List.map_singleton, folders_snoc]
include hq in
theorem FK_rows : ∀ (k : Nat) (x : Row), x ∈ FK qs k → x ∈ rows3
  | 0, x, h => by unfold FK at h; exact absurd h (by show x ∉ []; simp)
  | k + 1, x, h => by
    rw [FK_succ, (fold_push _ _).1] at h
    rcases h with h | h
    · exact FK_rows k x h
    · exact way_rows _ (mem_rows3 (hq k).1) _ (mem_rows3 (hq k).2) x h
include hq in
theorem FK_len (k : Nat) : (FK qs k).length ≤ 15 := List.Nodup.length_le_of_subset (folders_nd _) fun x hx => FK_rows hq k x hx
theorem FK_held (k : Nat) {x : Row} (h : x ∈ heldF (qs k)) : x ∈ FK qs (k + 1) := by
  unfold FK; rw [List.range_succ, List.map_append, List.map_singleton]; exact held_folders _ _ h
theorem FK_app (k n : Nat) (h : k ≤ n) : ∃ t, FK qs n = FK qs k ++ t := by
  unfold FK
  obtain ⟨j, rfl⟩ := Nat.le.dest h
  rw [List.range_add, List.map_append]
  exact folders_app _ _
include hq in
theorem geoQ (n : Nat) : Geo (mkQ qs) (plQ qs) (dpQ qs) n := by
  have G := geo_ways ((List.range n).map qs) fun q hq' => by
    obtain ⟨k, _, rfl⟩ := List.mem_map.mp hq'
    exact hq k
  rw [List.length_map, List.length_range] at G
  have eg : ∀ k, k < n → ((List.range n).map qs).getD k ([], []) = qs k := fun k hk => by
    rw [List.getD_eq_getElem?_getD, List.getElem?_map, List.getElem?_range hk]; rfl
  have em : ∀ k, k < n → maskF (foldersF ((List.range n).map qs)) (((List.range n).map qs).getD k ([], [])) = mkQ qs k := fun k hk => by
    rw [eg k hk]
    obtain ⟨t, ht⟩ := FK_app (qs := qs) (k + 1) n hk
    unfold FK at ht
    rw [ht]
    exact mask_app fun x hx => FK_held k hx
  have ep : ∀ k, k < n → (foldersF ((List.range n).map qs)).idxOf (topF (((List.range n).map qs).getD k ([], []))) = plQ qs k := fun k hk => by
    rw [eg k hk]
    obtain ⟨t, ht⟩ := FK_app (qs := qs) (k + 1) n hk
    unfold FK at ht
    rw [ht]
    exact idx_app (FK_held k (top_held _ (mem_rows3 (hq k).1) _ (mem_rows3 (hq k).2)))
  refine ⟨fun k hk => ?_, fun k l hk hl hne hd => ?_⟩
  · have := G.top k hk
    rw [em k hk, ep k hk] at this; exact this
  · have := G.meet k l hk hl
    rw [em k hk, em l hl, ep k hk, eg k hk, eg l hl] at this
    exact this hne hd
include hq in
theorem pl_lt (k : Nat) : plQ qs k < 15 := Nat.lt_of_lt_of_le (List.idxOf_lt_length_of_mem (FK_held k (top_held _ (mem_rows3 (hq k).1) _ (mem_rows3 (hq k).2)))) (FK_len hq (k + 1))
end
theorem Trip.mono {N N' : List (Addr × Fact)} {a c : Nat → Int} {k : Nat} {v : Value} (x : Trip N a c k v) (s : ∀ p ∈ N, p ∈ N') : Trip N' a c k v :=
  let ⟨ad, t1, t2, t3, e, m⟩ := x; ⟨ad, t1, t2, t3, e, s _ m⟩
section
variable {prog : Program} {w : World} {A : Around} {X : Value → Shared → Prop} {g : Array GenState} {d : Drawn} {t : Nat} {o : OsState} {mg mb : Str → Option Value} {h₀ h : Heap} {N N' T : List (Addr × Fact)}
  {L a c1 c2 c3 c4 c5 c6 c7 c8 : Addr} {cd : Value} {m f : Bool}
structure Fns (mg : Str → Option Value) (h : Heap) : Prop where
  row : ∃ x, Fn mg h "_law_row" 17 x
  cp : ∃ x, Fn mg h "commonpath" 15 x
  fsp : ∃ x, Fn mg h "fspath" 9 x
  dir : ∃ x, Fn mg h "dirname" 14 x
  sep : ∃ x, Fn mg h "_get_sep" 13 x
  climb : ∃ x, Fn mg h "_law_climb" 18 x
  depth : ∃ x, Fn mg h "_law_depth" 19 x
abbrev qsOf (ns : List Int) (k : Nat) : Row × Row := (rowF 3 (ns.getD (2 * k) 0), rowF 3 (ns.getD ((2 * k + 1) % ns.length) 0))
theorem qs_len (ns : List Int) (k : Nat) : (qsOf ns k).1.length ≤ 3 ∧ (qsOf ns k).2.length ≤ 3 := ⟨rowF_len 3 _, rowF_len 3 _⟩
abbrev dpI (qs : Nat → Row × Row) (k : Nat) : Int := -((dpQ qs k : Nat) : Int)
abbrev plI (qs : Nat → Row × Row) (k : Nat) : Int := ((plQ qs k : Nat) : Int)
theorem ints_getD {vs : List Value} {ns : List Int} (s : IntsAre vs ns) {k : Nat} (hk : k < ns.length) : ∃ u, vs[k]? = some (.int (ns.getD k 0) u) := by
  refine s.get k _ ?_
  rw [List.getD_eq_getElem?_getD, List.getElem?_eq_getElem hk]; rfl
theorem loop7 {nb fa ma ta : Addr} {nv : List Value} {ns : List Int} {n tn tf : Nat} {Q : Flow → Shared → Prop} (hh : A.handled = none) (hu : A.units + 200 < cLine) (hR : A.depth + 2 < recursionLimit) (Fs : Fns mg h₀)
    (hi : IntsAre nv ns) (hl0 : 1 ≤ ns.length) (hl : ns.length ≤ 100) (hn : 2 * n ≤ ns.length + 1) (hn6 : n ≤ 6)
    (D : St mg mb h₀ ((nb, .lst nv) :: (fa, .lst []) :: (ma, .lst []) :: (ta, .lst []) :: (c1, .cell (some (bif f then sepV false tf else emptyV false tf))) :: (c2, .cell (some (.bool m))) :: (c3, .cell (some (.ref fa))) :: (c4, .cell (some (.ref ma))) ::
      (L, .ns [("numbers", .ref nb), ("count", .int ((n : Nat) : Int) tn), ("tops", .ref ta)]) :: T) h)
    (hQ : ∀ fv mv tv T' h' t', IntsAre mv ((List.range n).map fun i => ((mkQ (qsOf ns) i : Nat) : Int)) → tv.length = n → (∀ i v, tv[i]? = some v → Trip T' (dpI (qsOf ns)) (plI (qsOf ns)) i v) →
      St mg mb h₀ ((nb, .lst nv) :: (fa, .lst fv) :: (ma, .lst mv) :: (ta, .lst tv) :: (c1, .cell (some (bif f then sepV false tf else emptyV false tf))) :: (c2, .cell (some (.bool m))) :: (c3, .cell (some (.ref fa))) :: (c4, .cell (some (.ref ma))) ::
      (L, .ns [("numbers", .ref nb), ("count", .int ((n : Nat) : Int) tn), ("tops", .ref ta)]) :: (T' ++ T)) h' → wpAny (model prog w) A (execs ((fBody 20).drop 8) (lawE L a cd c1 c2 c3 c4 c5 c6 c7 c8)) Q X ⟨h', g, d, t', o⟩) :
    wpAny (model prog w) A (execs ((fBody 20).drop 7) (lawE L a cd c1 c2 c3 c4 c5 c6 c7 c8)) Q X ⟨h, g, d, t, o⟩ := by
  have hln := hi.length
  refine wpAny_execs_cons ?_
  repeat walk_at "x1"
  have D := ‹St mg mb h₀ _ _›
  refine pi_range (n := n) D (by walk_at "mem") (by omega) fun I h' D => ?_
  refine ⟨n, fun E => ?_⟩
  have D := D.sub (N' := (I, .obj (rgObj ((0 : Nat) : Int) ((n : Nat) : Int))) :: (nb, .lst nv) :: (fa, .lst []) :: (ma, .lst []) :: (ta, .lst []) :: (c1, .cell (some (bif f then sepV false tf else emptyV false tf))) :: (c2, .cell (some (.bool m))) :: (c3, .cell (some (.ref fa))) :: (c4, .cell (some (.ref ma))) ::
      (L, .ns [("numbers", .ref nb), ("count", .int ((n : Nat) : Int) tn), ("tops", .ref ta)]) :: T) (by walk_at "subl")
  refine (fun (key : ∀ (r k : Nat) (fv mv tv : List Value) (T' : List (Addr × Fact)) (h' : Heap) (t' : Nat), St mg mb h₀ ((I, .obj (rgObj ((k : Nat) : Int) ((r : Nat) : Int))) :: (nb, .lst nv) :: (fa, .lst fv) :: (ma, .lst mv) :: (ta, .lst tv) :: (c1, .cell (some (bif f then sepV false tf else emptyV false tf))) :: (c2, .cell (some (.bool m))) :: (c3, .cell (some (.ref fa))) :: (c4, .cell (some (.ref ma))) ::
      (L, .ns [("numbers", .ref nb), ("count", .int ((n : Nat) : Int) tn), ("tops", .ref ta)]) :: (T' ++ T)) h' → k + r = n → Nodes m f fv (FK (qsOf ns) k) → IntsAre mv ((List.range k).map fun i => ((mkQ (qsOf ns) i : Nat) : Int)) → tv.length = k → (∀ i v, tv[i]? = some v → Trip T' (dpI (qsOf ns)) (plI (qsOf ns)) i v) →
      ForT prog w _ E _ _ _ _ _ _ r ⟨h', g, d, t', o⟩) => key n 0 [] [] [] [] h' _ D (Nat.zero_add _) .nil .nil rfl (fun i v e => by simp at e)) ?_
  intro r
  induction r with
  | zero =>
    intro k fv mv tv T' h' t' D hk nF im lt tr
    refine pn_range_end hh D (by walk_at "mem") (by walk_at "del") fun h' D => ?_
    show wpAny _ _ (execs [] _) _ _ _
    refine wpAny_execs_nil ?_
    have hk : k = n := by omega
    subst hk
    exact hQ fv mv tv T' h' _ im lt tr D
  | succ r ih =>
    intro k fv mv tv T' h' t' D hk nF im lt tr
    refine pn_range D .head fun h' t' tk D => ?_
    show wpAny _ _ (letOwnedTupleGo _ _ _) _ _ _
    repeat ((fail_if_success (with_reducible show wpAny _ _ (execs _ _) _ _ _)); walk_at "x1")
    have D := ‹St mg mb h₀ _ _›
    have D := D.perm (List.perm_middle (l₁ := [(nb, _), (fa, _), (ma, _), (ta, _), (c1, _), (c2, _), (c3, _), (c4, _), (L, _)]))
    show wpAny _ _ (execs turnB _) _ _ _
    have zq := qs_len ns k
    have lm := im.length
    rw [List.length_map, List.length_range] at lm
    have lF0 := FK_len (qs_len ns) k
    have lF1 := FK_len (qs_len ns) (k + 1)
    obtain ⟨_, Frow⟩ := Fs.row
    obtain ⟨_, Fcp⟩ := Fs.cp
    obtain ⟨_, Ffsp⟩ := Fs.fsp
    obtain ⟨_, Fdir⟩ := Fs.dir
    obtain ⟨_, Fsep⟩ := Fs.sep
    obtain ⟨_, Fclimb⟩ := Fs.climb
    obtain ⟨_, Fdepth⟩ := Fs.depth
    refine turn_a (len := ns.length) hh Frow (by omega) D hln hl0 hl (by omega) (ints_getD hi (by omega)) (ints_getD hi (Nat.mod_lt _ (by omega))) fun b0 vs0 b1 vs1 rw e u0 u1 h' t' s0 s1 D => ?_
    refine turn_b hh hu hR Fcp Ffsp Fdir Fsep Fclimb D zq.1 zq.2 nF (fun x hx => rows3_len x (FK_rows (qs_len ns) k x hx)) (by omega) fun hb hv tt fv' h' t' nH nF' D => ?_
    have nF' : Nodes m f fv' (FK (qsOf ns) (k + 1)) := by rw [FK_succ]; exact nF'
    refine turn_c hh (by omega) Fdepth s0 s1 D zq.1 zq.2 nH nF' (fun x hx => rows3_len x (FK_rows (qs_len ns) (k + 1) x hx)) (by omega) (fun x hx => FK_held (qs := qsOf ns) k hx) (by omega) (by omega) fun mt b t1 t2 t3 h' t' D => ?_
    show ForT _ _ _ _ _ _ _ _ _ _ _ _
    have D := D.perm (List.perm_middle (l₁ := [(nb, _), (fa, _), (ma, _), (ta, _), (c1, _), (c2, _), (c3, _), (c4, _), (L, _), (b, _)])).symm
    refine ih (k + 1) fv' _ _ ((b, _) :: T') h' _ D (by omega) nF' ?_ (by rw [List.length_append, List.length_singleton, lt]) ?_
    · rw [List.range_succ, List.map_append, List.map_singleton]
      have e1 : maskF (FK (qsOf ns) (k + 1)) (rowF 3 (ns.getD (2 * k) 0), rowF 3 (ns.getD ((2 * k + 1) % ns.length) 0)) = mkQ (qsOf ns) k := rfl
      rw [e1]
      exact intsAre_snoc im
    · intro i v e
      rcases Nat.lt_or_ge i tv.length with q | q
      · rw [List.getElem?_append_left q] at e
        exact (tr i v e).mono fun _ hp => .tail _ hp
      · rw [List.getElem?_append_right q] at e
        have e0 : i - tv.length = 0 := by
          rcases Nat.eq_zero_or_pos (i - tv.length) with z | z
          · exact z
          · rw [List.getElem?_eq_none (by simp; omega)] at e; cases e
        rw [e0] at e
        obtain rfl := Option.some.inj e
        have e1 : i = k := by omega
        subst e1
        exact ⟨b, t1, t2, t3, rfl, .head _⟩
end
end Mine

end
section
open PySem PySem.Calls PySem.W PyProof.Rows
set_option maxRecDepth 100000
set_option maxHeartbeats 4000000
namespace Mine
local macro_rules | `(tactic| walk_at "mem") => `(tactic| first | exact List.Mem.head _ | (refine List.Mem.tail _ ?_; walk_at "mem"))
local macro_rules | `(tactic| walk_at "upd") => `(tactic| first | exact Upd.head | (apply Upd.tail; walk_at "upd"))
local macro_rules | `(tactic| walk_at "del") => `(tactic| first | exact Del.head | (apply Del.tail; walk_at "del"))
local macro_rules | `(tactic| walk_at "sees") => `(tactic| first | exact Sees.nil | (refine Sees.cons (by rfl) ?_; walk_at "sees"))
local macro_rules | `(tactic| walk_at "subl") => `(tactic| first | exact List.Sublist.slnil | (refine List.Sublist.cons_cons _ ?_; walk_at "subl") | (refine List.Sublist.cons _ ?_; walk_at "subl"))
local macro_rules | `(tactic| walk_at "fact") => `(tactic| first | exact St.get (by assumption) (by walk_at "mem") | exact St.oldf (by assumption) (by assumption) | assumption)
local macro_rules | `(tactic| walk_at "xname") => `(tactic| first
  | refine r_local (by assumption) (by walk_at "mem") (by rfl) ?_
  | refine r_blt (by assumption) (by rfl) ?_
  | refine r_cell (by assumption) (by rfl) (by walk_at "mem") ?_
  | refine r_glob (by assumption) (by first | assumption | exact FnAt.g (by assumption)) ?_)
local macro_rules | `(tactic| walk_at "xconst") => `(tactic| first
  | refine r_int fun _ _ => ?_
  | refine r_str fun _ _ => ?_
  | refine r_bytes fun _ _ => ?_
  | refine wpAny_Constant_bool ?_
  | refine wpAny_Constant_none ?_)
local macro_rules | `(tactic| walk_at "xeval") => `(tactic| first
  | ((with_reducible show wpAny _ _ (eval (Expr.Name _ _) _) _ _ _); walk_at "xname")
  | ((with_reducible show wpAny _ _ (eval (Expr.Constant _ _ _) _) _ _ _); walk_at "xconst")
  | ((with_reducible show wpAny _ _ (eval (Expr.Call (Expr.Attribute _ _ _) _ _ _) _) _ _ _); refine MethodCall_ ?_)
  | ((with_reducible show wpAny _ _ (eval (Expr.Call _ _ _ _) _) _ _ _); refine Call_ ?_)
  | with_reducible refine wpAny_BinOp ?_
  | ((with_reducible show wpAny _ _ (eval (Expr.Compare _ [_] [_] _) _) _ _ _); refine wpAny_Compare1 ?_)
  | ((with_reducible show wpAny _ _ (eval (Expr.Subscript _ _ _) _) _ _ _); refine Subscript_ ?_)
  | ((with_reducible show wpAny _ _ (eval (Expr.Slice none (some _) none _) _) _ _ _); refine e_slice_nu ?_)
  | ((with_reducible show wpAny _ _ (eval (Expr.IfExp _ _ _ _) _) _ _ _); refine wpAny_IfExp ?_)
  | ((with_reducible show wpAny _ _ (eval (Expr.Tuple _ _ _) _) _ _ _); refine Tuple_ ?_)
  | ((with_reducible show wpAny _ _ (eval (Expr.List _ _) _) _ _ _); refine List_ ?_)
  | ((with_reducible show wpAny _ _ (eval (Expr.UnaryOp _ _ _) _) _ _ _); refine wpAny_UnaryOp ?_))
local macro_rules | `(tactic| walk_at "xexec") => `(tactic| first
  | ((with_reducible show wpAny _ _ (exec (Stmt.Assign [Expr.Name _ _] _ _) _) _ _ _); refine wpAny_Assign_Name ?_)
  | ((with_reducible show wpAny _ _ (exec (Stmt.If _ _ _ _) _) _ _ _); refine wpAny_If ?_)
  | ((with_reducible show wpAny _ _ (exec (Stmt.Return (some _) _) _) _ _ _); refine wpAny_Return_some ?_)
  | ((with_reducible show wpAny _ _ (exec (Stmt.Break _) _) _ _ _); refine wpAny_Break ?_)
  | ((with_reducible show wpAny _ _ (exec (Stmt.Expr _ _) _) _ _ _); refine wpAny_Expr ?_)
  | ((with_reducible show wpAny _ _ (exec (Stmt.For _ _ _ _ _) _) _ _ _); refine r_For ?_)
  | ((with_reducible show wpAny _ _ (exec (Stmt.While _ _ _ _) _) _ _ _); refine r_While ?_)
  | ((with_reducible show wpAny _ _ (exec (Stmt.AugAssign (Expr.Name _ _) _ _ _) _) _ _ _); refine wpAny_AugAssign_Name ?_))
local macro_rules | `(tactic| walk_at "xtrue") => `(tactic| first
  | ((with_reducible show wpAny _ _ (isTrue (Expr.Compare _ [_] [_] _) _ _) _ _ _); refine wpAny_isTrue_Compare1 ?_)
  | ((with_reducible show wpAny _ _ (isTrue (Expr.BoolOp _ _ _) _ _) _ _ _); refine wpAny_isTrue_BoolOp ?_)
  | ((with_reducible show wpAny _ _ (isTrue (Expr.UnaryOp UnaryOp.Not _ _) _ _) _ _ _); refine wpAny_isTrue_Not ?_)
  | ((with_reducible show wpAny _ _ (isTrue (Expr.Call _ _ _ _) _ _) _ _ _); refine wpAny_isTrue_value ?_)
  | ((with_reducible show wpAny _ _ (isTrue (Expr.Name _ _) _ _) _ _ _); refine wpAny_isTrue_value ?_))
local macro_rules | `(tactic| walk_at "xcall") => `(tactic| first
  | ((with_reducible show wpAny _ _ (call (Value.type "range") [Value.int _ _]) _ _ _); refine r_range (by assumption) ?_; intro _ _ _ _ _ _)
  | ((with_reducible show wpAny _ _ (call (Value.builtin "list.append") [_, _]) _ _ _); refine r_append (by assumption) (by walk_at "upd") ?_; intro _ _)
  | ((with_reducible show wpAny _ _ (call (Value.builtin "len") [Value.ref _]) _ _ _); refine r_len_list (by walk_at "fact") (by first | assumption | decide | omega) ?_; intro _ _)
  | ((with_reducible show wpAny _ _ (call (Value.type "type") [Value.str _ _]) _ _ _); refine call_type_of (Tx := "str") rfl (by decide) ?_)
  | ((with_reducible show wpAny _ _ (call (Value.type "type") [Value.bytes _ _]) _ _ _); refine call_type_of (Tx := "bytes") rfl (by decide) ?_)
  | ((with_reducible show wpAny _ _ (call (Value.builtin "issubclass") [Value.type "str", _]) _ _ _); refine r_issub_str (by assumption) (by walk_at "mem") ?_)
  | ((with_reducible show wpAny _ _ (call (Value.builtin "issubclass") [Value.type "bytes", _]) _ _ _); refine r_issub_bytes (by assumption) (by walk_at "mem") ?_)
  | ((with_reducible show wpAny _ _ (call (Value.builtin "isinstance") [Value.str _ _, Value.type "bytes"]) _ _ _); refine IsiPair.str_bytes ?_)
  | ((with_reducible show wpAny _ _ (call (Value.builtin "isinstance") [Value.bytes _ _, Value.type "bytes"]) _ _ _); refine call_isinstance_yes (typeIs_bytes _ _ _) F.isi_meta_bytes F.isi_self_bytes ?_))
local macro_rules | `(tactic| walk_at "xop") => `(tactic| first
  | ((with_reducible show wpAny _ _ (binaryOp Operator.Add (Value.int _ _) (Value.int _ _)) _ _ _); refine r_add ?_; intro _ _)
  | ((with_reducible show wpAny _ _ (binaryOp Operator.Sub (Value.int _ _) (Value.int _ _)) _ _ _); refine r_sub ?_; intro _ _)
  | ((with_reducible show wpAny _ _ (binaryOp Operator.Mod (Value.int _ _) (Value.int _ _)) _ _ _); refine r_mod (by decide) ?_; intro _ _)
  | ((with_reducible show wpAny _ _ (binaryOp Operator.Mult (Value.int _ _) (Value.int _ _)) _ _ _); refine r_mul ?_; intro _ _)
  | ((with_reducible show wpAny _ _ (binaryOp Operator.FloorDiv (Value.int _ _) (Value.int _ _)) _ _ _); refine r_fdiv (by decide) (PyProof.noPylong_small (by decide)) ?_; intro _ _)
  | ((with_reducible show wpAny _ _ (binaryOp Operator.BitAnd (Value.int _ _) (Value.int _ _)) _ _ _); refine r_and ?_; intro _ _))
local macro_rules | `(tactic| walk_at "xcmp") => `(tactic| first
  | ((with_reducible show wpAny _ _ (compareOp CmpOp.Eq (Value.int _ _) (Value.int _ _)) _ _ _); refine r_eq ?_)
  | ((with_reducible show wpAny _ _ (compareOp CmpOp.NotEq (Value.int _ _) (Value.int _ _)) _ _ _); refine r_ne ?_)
  | ((with_reducible show wpAny _ _ (compareOp CmpOp.Lt (Value.int _ _) (Value.int _ _)) _ _ _); refine r_lt ?_))
local macro_rules | `(tactic| walk_at "x1") => `(tactic| first
  | ((with_reducible show wpAny _ _ (eval _ _) _ _ _); walk_at "xeval")
  | ((with_reducible show wpAny _ _ (spliced _) _ _ _); first
    | ((with_reducible show wpAny _ _ (spliced (backTo _ (starEach [] _))) _ _ _); refine args_nil ?_; (try simp only [List.nil_append, List.cons_append]))
    | ((with_reducible show wpAny _ _ (spliced (backTo _ (starEach (_ :: _) _))) _ _ _); refine args_cons ?_))
  | ((with_reducible show wpAny _ _ (callWith _ _ _ _ _) _ _ _); first
    | ((with_reducible show wpAny _ _ (callWith _ (Value.builtin _) _ _ _) _ _ _); refine cw_blt ?_)
    | ((with_reducible show wpAny _ _ (callWith _ (Value.ref _) _ _ _) _ _ _); refine cw_fn ?_)
    | ((with_reducible show wpAny _ _ (callWith _ (Value.type _) _ _ _) _ _ _); refine cw_type ?_))
  | ((with_reducible show wpAny _ _ (execs _ _) _ _ _); first
    | ((with_reducible show wpAny _ _ (execs (_ :: _) _) _ _ _); refine wpAny_execs_cons ?_)
    | ((with_reducible show wpAny _ _ (execs [] _) _ _ _); refine wpAny_execs_nil ?_))
  | ((with_reducible show wpAny _ _ (exec _ _) _ _ _); walk_at "xexec")
  | ((with_reducible show wpAny _ _ (storeName _ _ _) _ _ _); first | (refine r_st (by assumption) (by walk_at "upd") ?_; intro _ _ _) | (refine r_stc (by assumption) (by rfl) (by walk_at "upd") ?_; intro _ _ _))
  | ((with_reducible show wpAny _ _ (isTrue _ _ _) _ _ _); walk_at "xtrue")
  | ((with_reducible show wpAny _ _ (truthy (Value.bool _)) _ _ _); refine wpAny_truthy_bool ?_)
  | ((with_reducible show wpAny _ _ (call _ _ _) _ _ _); walk_at "xcall")
  | ((with_reducible show wpAny _ _ (binaryOp _ _ _) _ _ _); walk_at "xop")
  | ((with_reducible show wpAny _ _ (compareOp _ _ _) _ _ _); walk_at "xcmp")
  | ((with_reducible show wpAny _ _ (subscriptTail _ _ (Value.ref _) (Value.int _ _)) _ _ _); refine t_list_item (by walk_at "fact") (by decide) (by decide) (by rfl) ?_)
  | ((with_reducible show wpAny _ _ (inplaceOp Operator.Add (Value.int _ _) (Value.int _ _)) _ _ _); refine r_iadd ?_; intro _ _)
  | ((with_reducible show wpAny _ _ (loadName _ _) _ _ _); first
    | refine r_localN (by assumption) (by walk_at "mem") (by rfl) ?_
    | refine r_cellN (by assumption) (by rfl) (by walk_at "mem") ?_)
  | ((with_reducible show wpAny _ _ (forIn [] _ _) _ _ _); refine wpAny_tests_nil ?_)
  | ((with_reducible show wpAny _ _ (forIn [_] _ _) _ _ _); refine wpAny_tests_one ?_)
  | ((with_reducible show wpAny _ _ (emitL _ _ _) _ _ _); refine wp_emitL ?_)
  | ((with_reducible show wpAny _ _ (emitS _ _ _) _ _ _); refine wp_emitS ?_)
  | ((with_reducible show wpAny _ _ (assign (Expr.Name _ _) _ _) _ _ _); refine wpAny_assign_Name ?_)
  | ((with_reducible show wpAny _ _ (getMethod (Value.ref _) _ _) _ _ _); (with_reducible refine gm_append ?_ ?_); (· exact ⟨_, by walk_at "fact"⟩))
  | ((with_reducible show wpAny _ _ (letOwnedTupleGo (Expr.Name _ _) _ _) _ _ _); refine wpAny_pure ?_)
  | ((with_reducible show wpAny _ _ (newTuple _) _ _ _); refine r_newTuple (by assumption) ?_; intro _ _ _)
  | ((with_reducible show wpAny _ _ (newList _) _ _ _); refine r_newList (by assumption) ?_; intro _ _ _)
  | ((with_reducible show wpAny _ _ (newFields "slice" [_, _, Value.none]) _ _ _); refine r_newSlice (by assumption) ?_; intro _ _ _)
  | ((with_reducible show wpAny _ _ (allTrue _ _ _) _ _ _); first
    | ((with_reducible show wpAny _ _ (allTrue BoolOp.And (_ :: _) _) _ _ _); refine wpAny_allTrue_And_cons ?_)
    | ((with_reducible show wpAny _ _ (allTrue BoolOp.Or (_ :: _) _) _ _ _); refine wpAny_allTrue_Or_cons ?_)
    | refine wpAny_allTrue_And_nil ?_ | refine wpAny_allTrue_Or_nil ?_)
  | ((with_reducible show ite _ _ _); (first | rw [if_pos rfl] | rw [if_neg Bool.false_ne_true])))
local macro_rules | `(tactic| walk_at "subl") => `(tactic| with_reducible exact List.Sublist.refl _)
local macro_rules | `(tactic| walk_at "x1") => `(tactic| first
  | ((with_reducible show wpAny _ _ (binaryOp Operator.RShift (Value.int _ _) (Value.int _ _)) _ _ _); refine r_rshift (by omega) ?_; intro _ _)
  | ((with_reducible show wpAny _ _ (unaryOp UnaryOp.USub (Value.int _ _)) _ _ _); refine r_neg ?_; intro _ _)
  | ((with_reducible show wpAny _ _ (compareOp CmpOp.Is (Value.ref _) Value.none) _ _ _); refine is_ref_none ?_)
  | ((with_reducible show wpAny _ _ (getMethod (Value.ref _) "index" _) _ _ _); (with_reducible refine gm_index ?_ ?_); (· exact ⟨_, by walk_at "fact"⟩))
  | ((with_reducible show wpAny _ _ (eval (Expr.BoolOp BoolOp.And (_ :: _ :: _) _) _) _ _ _); refine BoolOp_and ?_)
  | ((with_reducible show wpAny _ _ (eval (Expr.BoolOp BoolOp.And [_] _) _) _ _ _); refine BoolOp_one ?_))
theorem ints_range {vs : List Value} {n : Nat} {mk : Nat → Nat} (s : IntsAre vs ((List.range n).map fun i => ((mk i : Nat) : Int))) {k : Nat} (hk : k < n) : ∃ u, vs[k]? = some (.int ((mk k : Nat) : Int) u) :=
  s.get k _ (by rw [List.getElem?_map, List.getElem?_range hk]; rfl)
theorem pow_nat (p : Nat) : (2 : Int) ^ ((p : Nat) : Int).toNat = ((2 ^ p : Nat) : Int) := by rw [Int.toNat_natCast, Int.natCast_pow]; rfl
section
variable {prog : Program} {w : World} {A : Around} {X : Value → Shared → Prop} {g : Array GenState} {d : Drawn} {t : Nat} {o : OsState} {mg mb : Str → Option Value} {h₀ h : Heap} {N N' T : List (Addr × Fact)}
  {L a c1 c2 c3 c4 c5 c6 c7 c8 : Addr} {cd : Value}
theorem tail_a {ma ta : Addr} {mv tv : List Value} {n tn : Nat} {mk p dp : Nat → Nat} {Q : Flow → Shared → Prop} (hh : A.handled = none) (h1 : 1 ≤ n) (h6 : n ≤ 6)
    (im : IntsAre mv ((List.range n).map fun i => ((mk i : Nat) : Int))) (lt : tv.length = n) (tr : ∀ i v, tv[i]? = some v → Trip T (fun k => -((dp k : Nat) : Int)) (fun k => ((p k : Nat) : Int)) i v) (hp : ∀ k, p k < 15)
    (D : St mg mb h₀ ((ma, .lst mv) :: (ta, .lst tv) :: (c4, .cell (some (.ref ma))) :: (L, .ns [("count", .int ((n : Nat) : Int) tn), ("tops", .ref ta)]) :: (c8, .cell none) :: (c7, .cell none) :: (c6, .cell none) :: (c5, .cell none) :: T) h)
    (hQ : ∀ q kb kv tm h' t', Srt (ltA (fun k => -((dp k : Nat) : Int))) n q → IntsAre kv ((greedy mk p q [] 0).1.map fun i => ((i : Nat) : Int)) →
      St mg mb h₀ [(kb, .lst kv), (ma, .lst mv), (c4, .cell (some (.ref ma))), (L, .ns [("count", .int ((n : Nat) : Int) tn)]), (c8, .cell none), (c7, .cell none), (c6, .cell (some (.int (((greedy mk p q [] 0).2 : Nat) : Int) tm))), (c5, .cell (some (.ref kb)))] h' →
      wpAny (model prog w) A (execs ((fBody 20).drop 11) (lawE L a cd c1 c2 c3 c4 c5 c6 c7 c8)) Q X ⟨h', g, d, t', o⟩) :
    wpAny (model prog w) A (execs ((fBody 20).drop 8) (lawE L a cd c1 c2 c3 c4 c5 c6 c7 c8)) Q X ⟨h, g, d, t, o⟩ := by
  have lm := im.length
  rw [List.length_map, List.length_range] at lm
  refine wpAny_execs_cons ?_
  repeat ((fail_if_success (with_reducible show wpAny _ _ (newList _) _ _ _)); walk_at "x1")
  refine r_newList D fun kb h' D => ?_
  repeat walk_at "x1"
  have D := ‹St mg mb h₀ _ _›
  refine r_sorted D (by walk_at "fact") (by omega) (by omega) (fun i v e => (tr i v e).mono fun q hq => by repeat (first | exact hq | refine List.Mem.tail _ ?_)) fun q hs sl h' D => ?_
  repeat walk_at "x1"
  rw [lt] at hs
  refine pi_list D (by walk_at "fact") fun I h' D => ?_
  refine ⟨q.length, fun E => ?_⟩
  have D := (D.sub (N' := (I, .li sl 0) :: (sl, .lst (q.map fun i => tv.getD i .none)) :: (kb, .lst []) :: (ma, .lst mv) :: (c4, .cell (some (.ref ma))) :: (L, _) :: (c8, .cell none) :: (c7, .cell none) :: (c6, .cell (some (.int ((0 : Nat) : Int) _))) :: (c5, .cell (some (.ref kb))) :: T) (by walk_at "subl")).see
    (E' := [("count", .int ((n : Nat) : Int) tn)]) (by walk_at "upd") (by walk_at "sees")
  refine (fun (key : ∀ (r j : Nat) (Tk : List Nat) (M tm : Nat) (kv : List Value) (h' : Heap) (t' : Nat), St mg mb h₀ ((I, .li sl j) :: (sl, .lst (q.map fun i => tv.getD i .none)) :: (kb, .lst kv) :: (ma, .lst mv) :: (c4, .cell (some (.ref ma))) :: (L, .ns [("count", .int ((n : Nat) : Int) tn)]) :: (c8, .cell none) :: (c7, .cell none) :: (c6, .cell (some (.int ((M : Nat) : Int) tm))) :: (c5, .cell (some (.ref kb))) :: T) h' →
      j + r = q.length → IntsAre kv (Tk.map fun i => ((i : Nat) : Int)) → kv.length ≤ j → greedy mk p (q.drop j) Tk M = greedy mk p q [] 0 → ForT prog w _ E _ _ _ _ _ _ r ⟨h', g, d, t', o⟩) => key q.length 0 [] 0 _ [] h' _ D (Nat.zero_add _) .nil (Nat.le_refl 0) rfl) ?_
  intro r
  induction r with
  | zero =>
    intro j Tk M tm kv h' t' D hj ik lk hg
    refine pn_list_end hh D (by walk_at "mem") (by walk_at "fact") (by rw [List.length_map]; omega) (by walk_at "del") fun h' D => ?_
    show wpAny _ _ (execs [] _) _ _ _
    refine wpAny_execs_nil ?_
    rw [List.drop_eq_nil_of_le (by omega), greedy] at hg
    have hQ := hQ q
    rw [← hg] at hQ
    exact hQ kb kv tm h' _ hs ik (D.sub (by repeat (first | exact List.Sublist.slnil | exact List.nil_sublist _ | (refine List.Sublist.cons_cons _ ?_) | (refine List.Sublist.cons _ ?_))))
  | succ r ih =>
    intro j Tk M tm kv h' t' D hj ik lk hg
    have hj1 : j < q.length := by omega
    have hsl := hs.len
    have hx := hs.inn _ (List.getElem_mem hj1)
    have ej : (q.map fun i => tv.getD i .none)[j]? = some (tv.getD q[j] .none) := by rw [List.getElem?_map, List.getElem?_eq_getElem hj1]; rfl
    rw [List.drop_eq_getElem_cons hj1, greedy] at hg
    generalize q[j] = x at *
    obtain ⟨ad, t1, t2, t3, ev, mem⟩ := tr x (tv.getD x .none) (by rw [List.getD_eq_getElem?_getD, List.getElem?_eq_getElem (by omega)]; rfl)
    rw [ev] at ej
    obtain ⟨um, em⟩ := ints_range im hx
    have hpx := hp x
    refine pn_list D (by walk_at "upd") (by walk_at "fact") ej fun h' D => ?_
    refine lo_tuple (D.get (.head _)) ?_
    refine as_triple hh D (D.get (by repeat (first | exact mem | refine List.Mem.tail _ ?_))) fun h' D => ?_
    repeat walk_at "x1"
    refine t_list_item (by walk_at "fact") (by omega) (by omega) (by rw [Int.toNat_natCast]; exact em) ?_
    repeat walk_at "x1"
    rw [band_zero]
    refine ite_dec (fun hz => ?_) (fun hz => ?_)
    · rw [if_pos hz] at hg
      repeat walk_at "x1"
      refine r_pow (by show 0 ≤ ((p x : Nat) : Int); omega) (by show ((p x : Nat) : Int) ≤ 1000000; omega) (by decide) fun _ _ => ?_
      rw [show (2 : Int) ^ ((fun k => ((p k : Nat) : Int)) x).toNat = ((2 ^ p x : Nat) : Int) from pow_nat (p x)]
      refine r_iadd fun _ _ => ?_
      rw [show ((M : Nat) : Int) + ((2 ^ p x : Nat) : Int) = ((M + 2 ^ p x : Nat) : Int) from (Int.natCast_add _ _).symm]
      repeat walk_at "x1"
      show ForT _ _ _ _ _ _ _ _ _ _ _ _
      have D := ‹St mg mb h₀ _ _›
      refine ih (j + 1) (Tk ++ [x]) (M + 2 ^ p x) _ _ _ _ (D.see (E' := [("count", .int ((n : Nat) : Int) tn)]) (by walk_at "upd") (by walk_at "sees")) (by omega) ?_ ?_ hg
      · rw [List.map_append, List.map_singleton]; exact intsAre_snoc ik
      · rw [List.length_append, List.length_singleton]; omega
    · rw [if_neg hz] at hg
      repeat walk_at "x1"
      show ForT _ _ _ _ _ _ _ _ _ _ _ _
      have D := ‹St mg mb h₀ _ _›
      exact ih (j + 1) Tk M _ _ _ _ (D.see (E' := [("count", .int ((n : Nat) : Int) tn)]) (by walk_at "upd") (by walk_at "sees")) (by omega) ik (by omega) hg
end
end Mine

end
section
open PySem PySem.Calls PySem.W PyProof.Rows
set_option maxRecDepth 100000
set_option maxHeartbeats 4000000
namespace Mine
local macro_rules | `(tactic| walk_at "mem") => `(tactic| first | exact List.Mem.head _ | (refine List.Mem.tail _ ?_; walk_at "mem"))
local macro_rules | `(tactic| walk_at "upd") => `(tactic| first | exact Upd.head | (apply Upd.tail; walk_at "upd"))
local macro_rules | `(tactic| walk_at "del") => `(tactic| first | exact Del.head | (apply Del.tail; walk_at "del"))
local macro_rules | `(tactic| walk_at "sees") => `(tactic| first | exact Sees.nil | (refine Sees.cons (by rfl) ?_; walk_at "sees"))
local macro_rules | `(tactic| walk_at "subl") => `(tactic| first | exact List.Sublist.slnil | (refine List.Sublist.cons_cons _ ?_; walk_at "subl") | (refine List.Sublist.cons _ ?_; walk_at "subl"))
local macro_rules | `(tactic| walk_at "fact") => `(tactic| first | exact St.get (by assumption) (by walk_at "mem") | exact St.oldf (by assumption) (by assumption) | assumption)
local macro_rules | `(tactic| walk_at "xname") => `(tactic| first
  | refine r_local (by assumption) (by walk_at "mem") (by rfl) ?_
  | refine r_blt (by assumption) (by rfl) ?_
  | refine r_cell (by assumption) (by rfl) (by walk_at "mem") ?_
  | refine r_glob (by assumption) (by first | assumption | exact FnAt.g (by assumption)) ?_)
local macro_rules | `(tactic| walk_at "xconst") => `(tactic| first
  | refine r_int fun _ _ => ?_
  | refine r_str fun _ _ => ?_
  | refine r_bytes fun _ _ => ?_
  | refine wpAny_Constant_bool ?_
  | refine wpAny_Constant_none ?_)
local macro_rules | `(tactic| walk_at "xeval") => `(tactic| first
  | ((with_reducible show wpAny _ _ (eval (Expr.Name _ _) _) _ _ _); walk_at "xname")
  | ((with_reducible show wpAny _ _ (eval (Expr.Constant _ _ _) _) _ _ _); walk_at "xconst")
  | ((with_reducible show wpAny _ _ (eval (Expr.Call (Expr.Attribute _ _ _) _ _ _) _) _ _ _); refine MethodCall_ ?_)
  | ((with_reducible show wpAny _ _ (eval (Expr.Call _ _ _ _) _) _ _ _); refine Call_ ?_)
  | with_reducible refine wpAny_BinOp ?_
  | ((with_reducible show wpAny _ _ (eval (Expr.Compare _ [_] [_] _) _) _ _ _); refine wpAny_Compare1 ?_)
  | ((with_reducible show wpAny _ _ (eval (Expr.Subscript _ _ _) _) _ _ _); refine Subscript_ ?_)
  | ((with_reducible show wpAny _ _ (eval (Expr.Slice none (some _) none _) _) _ _ _); refine e_slice_nu ?_)
  | ((with_reducible show wpAny _ _ (eval (Expr.IfExp _ _ _ _) _) _ _ _); refine wpAny_IfExp ?_)
  | ((with_reducible show wpAny _ _ (eval (Expr.Tuple _ _ _) _) _ _ _); refine Tuple_ ?_)
  | ((with_reducible show wpAny _ _ (eval (Expr.List _ _) _) _ _ _); refine List_ ?_)
  | ((with_reducible show wpAny _ _ (eval (Expr.UnaryOp _ _ _) _) _ _ _); refine wpAny_UnaryOp ?_))
local macro_rules | `(tactic| walk_at "xexec") => `(tactic| first
  | ((with_reducible show wpAny _ _ (exec (Stmt.Assign [Expr.Name _ _] _ _) _) _ _ _); refine wpAny_Assign_Name ?_)
  | ((with_reducible show wpAny _ _ (exec (Stmt.If _ _ _ _) _) _ _ _); refine wpAny_If ?_)
  | ((with_reducible show wpAny _ _ (exec (Stmt.Return (some _) _) _) _ _ _); refine wpAny_Return_some ?_)
  | ((with_reducible show wpAny _ _ (exec (Stmt.Break _) _) _ _ _); refine wpAny_Break ?_)
  | ((with_reducible show wpAny _ _ (exec (Stmt.Expr _ _) _) _ _ _); refine wpAny_Expr ?_)
  | ((with_reducible show wpAny _ _ (exec (Stmt.For _ _ _ _ _) _) _ _ _); refine r_For ?_)
  | ((with_reducible show wpAny _ _ (exec (Stmt.While _ _ _ _) _) _ _ _); refine r_While ?_)
  | ((with_reducible show wpAny _ _ (exec (Stmt.AugAssign (Expr.Name _ _) _ _ _) _) _ _ _); refine wpAny_AugAssign_Name ?_))
local macro_rules | `(tactic| walk_at "xtrue") => `(tactic| first
  | ((with_reducible show wpAny _ _ (isTrue (Expr.Compare _ [_] [_] _) _ _) _ _ _); refine wpAny_isTrue_Compare1 ?_)
  | ((with_reducible show wpAny _ _ (isTrue (Expr.BoolOp _ _ _) _ _) _ _ _); refine wpAny_isTrue_BoolOp ?_)
  | ((with_reducible show wpAny _ _ (isTrue (Expr.UnaryOp UnaryOp.Not _ _) _ _) _ _ _); refine wpAny_isTrue_Not ?_)
  | ((with_reducible show wpAny _ _ (isTrue (Expr.Call _ _ _ _) _ _) _ _ _); refine wpAny_isTrue_value ?_)
  | ((with_reducible show wpAny _ _ (isTrue (Expr.Name _ _) _ _) _ _ _); refine wpAny_isTrue_value ?_))
local macro_rules | `(tactic| walk_at "xcall") => `(tactic| first
  | ((with_reducible show wpAny _ _ (call (Value.type "range") [Value.int _ _]) _ _ _); refine r_range (by assumption) ?_; intro _ _ _ _ _ _)
  | ((with_reducible show wpAny _ _ (call (Value.builtin "list.append") [_, _]) _ _ _); refine r_append (by assumption) (by walk_at "upd") ?_; intro _ _)
  | ((with_reducible show wpAny _ _ (call (Value.builtin "len") [Value.ref _]) _ _ _); refine r_len_list (by walk_at "fact") (by first | assumption | decide | omega) ?_; intro _ _)
  | ((with_reducible show wpAny _ _ (call (Value.type "type") [Value.str _ _]) _ _ _); refine call_type_of (Tx := "str") rfl (by decide) ?_)
  | ((with_reducible show wpAny _ _ (call (Value.type "type") [Value.bytes _ _]) _ _ _); refine call_type_of (Tx := "bytes") rfl (by decide) ?_)
  | ((with_reducible show wpAny _ _ (call (Value.builtin "issubclass") [Value.type "str", _]) _ _ _); refine r_issub_str (by assumption) (by walk_at "mem") ?_)
  | ((with_reducible show wpAny _ _ (call (Value.builtin "issubclass") [Value.type "bytes", _]) _ _ _); refine r_issub_bytes (by assumption) (by walk_at "mem") ?_)
  | ((with_reducible show wpAny _ _ (call (Value.builtin "isinstance") [Value.str _ _, Value.type "bytes"]) _ _ _); refine IsiPair.str_bytes ?_)
  | ((with_reducible show wpAny _ _ (call (Value.builtin "isinstance") [Value.bytes _ _, Value.type "bytes"]) _ _ _); refine call_isinstance_yes (typeIs_bytes _ _ _) F.isi_meta_bytes F.isi_self_bytes ?_))
local macro_rules | `(tactic| walk_at "xop") => `(tactic| first
  | ((with_reducible show wpAny _ _ (binaryOp Operator.Add (Value.int _ _) (Value.int _ _)) _ _ _); refine r_add ?_; intro _ _)
  | ((with_reducible show wpAny _ _ (binaryOp Operator.Sub (Value.int _ _) (Value.int _ _)) _ _ _); refine r_sub ?_; intro _ _)
  | ((with_reducible show wpAny _ _ (binaryOp Operator.Mod (Value.int _ _) (Value.int _ _)) _ _ _); refine r_mod (by decide) ?_; intro _ _)
  | ((with_reducible show wpAny _ _ (binaryOp Operator.Mult (Value.int _ _) (Value.int _ _)) _ _ _); refine r_mul ?_; intro _ _)
  | ((with_reducible show wpAny _ _ (binaryOp Operator.FloorDiv (Value.int _ _) (Value.int _ _)) _ _ _); refine r_fdiv (by decide) (PyProof.noPylong_small (by decide)) ?_; intro _ _)
  | ((with_reducible show wpAny _ _ (binaryOp Operator.BitAnd (Value.int _ _) (Value.int _ _)) _ _ _); refine r_and ?_; intro _ _))
local macro_rules | `(tactic| walk_at "xcmp") => `(tactic| first
  | ((with_reducible show wpAny _ _ (compareOp CmpOp.Eq (Value.int _ _) (Value.int _ _)) _ _ _); refine r_eq ?_)
  | ((with_reducible show wpAny _ _ (compareOp CmpOp.NotEq (Value.int _ _) (Value.int _ _)) _ _ _); refine r_ne ?_)
  | ((with_reducible show wpAny _ _ (compareOp CmpOp.Lt (Value.int _ _) (Value.int _ _)) _ _ _); refine r_lt ?_))
local macro_rules | `(tactic| walk_at "x1") => `(tactic| first
  | ((with_reducible show wpAny _ _ (eval _ _) _ _ _); walk_at "xeval")
  | ((with_reducible show wpAny _ _ (spliced _) _ _ _); first
    | ((with_reducible show wpAny _ _ (spliced (backTo _ (starEach [] _))) _ _ _); refine args_nil ?_; (try simp only [List.nil_append, List.cons_append]))
    | ((with_reducible show wpAny _ _ (spliced (backTo _ (starEach (_ :: _) _))) _ _ _); refine args_cons ?_))
  | ((with_reducible show wpAny _ _ (callWith _ _ _ _ _) _ _ _); first
    | ((with_reducible show wpAny _ _ (callWith _ (Value.builtin _) _ _ _) _ _ _); refine cw_blt ?_)
    | ((with_reducible show wpAny _ _ (callWith _ (Value.ref _) _ _ _) _ _ _); refine cw_fn ?_)
    | ((with_reducible show wpAny _ _ (callWith _ (Value.type _) _ _ _) _ _ _); refine cw_type ?_))
  | ((with_reducible show wpAny _ _ (execs _ _) _ _ _); first
    | ((with_reducible show wpAny _ _ (execs (_ :: _) _) _ _ _); refine wpAny_execs_cons ?_)
    | ((with_reducible show wpAny _ _ (execs [] _) _ _ _); refine wpAny_execs_nil ?_))
  | ((with_reducible show wpAny _ _ (exec _ _) _ _ _); walk_at "xexec")
  | ((with_reducible show wpAny _ _ (storeName _ _ _) _ _ _); first | (refine r_st (by assumption) (by walk_at "upd") ?_; intro _ _ _) | (refine r_stc (by assumption) (by rfl) (by walk_at "upd") ?_; intro _ _ _))
  | ((with_reducible show wpAny _ _ (isTrue _ _ _) _ _ _); walk_at "xtrue")
  | ((with_reducible show wpAny _ _ (truthy (Value.bool _)) _ _ _); refine wpAny_truthy_bool ?_)
  | ((with_reducible show wpAny _ _ (call _ _ _) _ _ _); walk_at "xcall")
  | ((with_reducible show wpAny _ _ (binaryOp _ _ _) _ _ _); walk_at "xop")
  | ((with_reducible show wpAny _ _ (compareOp _ _ _) _ _ _); walk_at "xcmp")
  | ((with_reducible show wpAny _ _ (subscriptTail _ _ (Value.ref _) (Value.int _ _)) _ _ _); refine t_list_item (by walk_at "fact") (by decide) (by decide) (by rfl) ?_)
  | ((with_reducible show wpAny _ _ (inplaceOp Operator.Add (Value.int _ _) (Value.int _ _)) _ _ _); refine r_iadd ?_; intro _ _)
  | ((with_reducible show wpAny _ _ (loadName _ _) _ _ _); first
    | refine r_localN (by assumption) (by walk_at "mem") (by rfl) ?_
    | refine r_cellN (by assumption) (by rfl) (by walk_at "mem") ?_)
  | ((with_reducible show wpAny _ _ (forIn [] _ _) _ _ _); refine wpAny_tests_nil ?_)
  | ((with_reducible show wpAny _ _ (forIn [_] _ _) _ _ _); refine wpAny_tests_one ?_)
  | ((with_reducible show wpAny _ _ (emitL _ _ _) _ _ _); refine wp_emitL ?_)
  | ((with_reducible show wpAny _ _ (emitS _ _ _) _ _ _); refine wp_emitS ?_)
  | ((with_reducible show wpAny _ _ (assign (Expr.Name _ _) _ _) _ _ _); refine wpAny_assign_Name ?_)
  | ((with_reducible show wpAny _ _ (getMethod (Value.ref _) _ _) _ _ _); (with_reducible refine gm_append ?_ ?_); (· exact ⟨_, by walk_at "fact"⟩))
  | ((with_reducible show wpAny _ _ (letOwnedTupleGo (Expr.Name _ _) _ _) _ _ _); refine wpAny_pure ?_)
  | ((with_reducible show wpAny _ _ (newTuple _) _ _ _); refine r_newTuple (by assumption) ?_; intro _ _ _)
  | ((with_reducible show wpAny _ _ (newList _) _ _ _); refine r_newList (by assumption) ?_; intro _ _ _)
  | ((with_reducible show wpAny _ _ (newFields "slice" [_, _, Value.none]) _ _ _); refine r_newSlice (by assumption) ?_; intro _ _ _)
  | ((with_reducible show wpAny _ _ (allTrue _ _ _) _ _ _); first
    | ((with_reducible show wpAny _ _ (allTrue BoolOp.And (_ :: _) _) _ _ _); refine wpAny_allTrue_And_cons ?_)
    | ((with_reducible show wpAny _ _ (allTrue BoolOp.Or (_ :: _) _) _ _ _); refine wpAny_allTrue_Or_cons ?_)
    | refine wpAny_allTrue_And_nil ?_ | refine wpAny_allTrue_Or_nil ?_)
  | ((with_reducible show ite _ _ _); (first | rw [if_pos rfl] | rw [if_neg Bool.false_ne_true])))
local macro_rules | `(tactic| walk_at "subl") => `(tactic| with_reducible exact List.Sublist.refl _)
local macro_rules | `(tactic| walk_at "x1") => `(tactic| first
  | ((with_reducible show wpAny _ _ (binaryOp Operator.RShift (Value.int _ _) (Value.int _ _)) _ _ _); refine r_rshift (by omega) ?_; intro _ _)
  | ((with_reducible show wpAny _ _ (unaryOp UnaryOp.USub (Value.int _ _)) _ _ _); refine r_neg ?_; intro _ _)
  | ((with_reducible show wpAny _ _ (compareOp CmpOp.Is (Value.ref _) Value.none) _ _ _); refine is_ref_none ?_)
  | ((with_reducible show wpAny _ _ (getMethod (Value.ref _) "index" _) _ _ _); (with_reducible refine gm_index ?_ ?_); (· exact ⟨_, by walk_at "fact"⟩))
  | ((with_reducible show wpAny _ _ (eval (Expr.BoolOp BoolOp.And (_ :: _ :: _) _) _) _ _ _); refine BoolOp_and ?_)
  | ((with_reducible show wpAny _ _ (eval (Expr.BoolOp BoolOp.And [_] _) _) _ _ _); refine BoolOp_one ?_))
section
variable {prog : Program} {w : World} {A : Around} {X : Value → Shared → Prop} {g : Array GenState} {d : Drawn} {t : Nat} {o : OsState} {mg mb : Str → Option Value} {h₀ h : Heap} {N N' T : List (Addr × Fact)}
  {L a c1 c2 c3 c4 c5 c6 c7 c8 : Addr} {cd : Value}
theorem tail_b {ma kb : Addr} {mv kv : List Value} {n tn tm M : Nat} {mk : Nat → Nat} {Q : Flow → Shared → Prop} (hh : A.handled = none) (hu : A.units < cLine) (h6 : n ≤ 6)
    (im : IntsAre mv ((List.range n).map fun i => ((mk i : Nat) : Int))) (hM : ∀ k, k < n → mk k &&& M ≠ 0)
    (D : St mg mb h₀ [(kb, .lst kv), (ma, .lst mv), (c4, .cell (some (.ref ma))), (L, .ns [("count", .int ((n : Nat) : Int) tn)]), (c8, .cell none), (c7, .cell none), (c6, .cell (some (.int ((M : Nat) : Int) tm))), (c5, .cell (some (.ref kb)))] h)
    (hQ : ∀ tl h' t', St mg mb h₀ [(kb, .lst kv), (ma, .lst mv), (c4, .cell (some (.ref ma))), (L, .ns [("largest", .int ((0 : Nat) : Int) tl), ("count", .int ((n : Nat) : Int) tn)]), (c8, .cell none), (c7, .cell none), (c6, .cell (some (.int ((M : Nat) : Int) tm))), (c5, .cell (some (.ref kb)))] h' →
      wpAny (model prog w) A (execs ((fBody 20).drop 13) (lawE L a cd c1 c2 c3 c4 c5 c6 c7 c8)) Q X ⟨h', g, d, t', o⟩) :
    wpAny (model prog w) A (execs ((fBody 20).drop 11) (lawE L a cd c1 c2 c3 c4 c5 c6 c7 c8)) Q X ⟨h, g, d, t, o⟩ := by
  have lm := im.length
  rw [List.length_map, List.length_range] at lm
  refine wpAny_execs_cons ?_
  repeat walk_at "x1"
  refine r_ListComp (cl := [("marks", c6)]) (by rfl) ?_
  repeat walk_at "x1"
  refine pi_list (xs := mv) D (by walk_at "fact") fun I h' D => ?_
  refine compGo_of D (.head _) trivial fun C Dl h' t' D => ?_
  refine comp1 ⟨mv.length, fun E => ?_⟩
  refine comp_list hh (D.perm (N' := (C, .ns []) :: (Dl, .lst []) :: (I, .li ma 0) :: _) (List.Perm.refl _)) (by walk_at "mem") (P := fun _ acc _ => acc = []) rfl ?_ ?_
  · rintro j E' acc h t v Q' hv1 rfl D hq
    have hj : j < n := by
      rcases Nat.lt_or_ge j mv.length with q | q
      · omega
      · rw [List.getElem?_eq_none q] at hv1; cases hv1
    obtain ⟨u, eu⟩ := ints_range im hj
    rw [eu] at hv1
    obtain rfl := Option.some.inj hv1
    refine turn_one ?_
    repeat walk_at "x1"
    rw [band_zero]
    refine ite_dec (fun hz => absurd hz (hM j hj)) (fun _ => ?_)
    repeat walk_at "x1"
    exact hq _ _ _ _ rfl D
  · rintro acc E' h' t' rfl D
    refine cp_none (C := C) D (by walk_at "mem") (by walk_at "del") fun h' D => ?_
    repeat walk_at "x1"
    refine r_ne_nil (by walk_at "fact") (by walk_at "fact") hu ?_
    repeat walk_at "x1"
    rw [if_neg (by simp)]
    repeat ((fail_if_success (with_reducible show wpAny _ _ (storeName _ _ _) _ _ _)); walk_at "x1")
    refine r_st (by assumption) (by walk_at "upd") fun h' t' D => ?_
    have D := (D.sub (N' := [(kb, .lst kv), (ma, .lst mv), (c4, .cell (some (.ref ma))), (L, _), (c8, .cell none), (c7, .cell none), (c6, .cell (some (.int ((M : Nat) : Int) tm))), (c5, .cell (some (.ref kb)))]) (by walk_at "subl")).see
      (E' := [("largest", .int ((0 : Nat) : Int) _), ("count", .int ((n : Nat) : Int) tn)]) (by walk_at "upd") (by walk_at "sees")
    exact hQ _ _ _ D
end
end Mine

end
section
open PySem PySem.Calls PySem.W PyProof.Rows
set_option maxRecDepth 100000
set_option maxHeartbeats 4000000
namespace Mine
local macro_rules | `(tactic| walk_at "mem") => `(tactic| first | exact List.Mem.head _ | (refine List.Mem.tail _ ?_; walk_at "mem"))
local macro_rules | `(tactic| walk_at "upd") => `(tactic| first | exact Upd.head | (apply Upd.tail; walk_at "upd"))
local macro_rules | `(tactic| walk_at "del") => `(tactic| first | exact Del.head | (apply Del.tail; walk_at "del"))
local macro_rules | `(tactic| walk_at "sees") => `(tactic| first | exact Sees.nil | (refine Sees.cons (by rfl) ?_; walk_at "sees"))
local macro_rules | `(tactic| walk_at "subl") => `(tactic| first | exact List.Sublist.slnil | (refine List.Sublist.cons_cons _ ?_; walk_at "subl") | (refine List.Sublist.cons _ ?_; walk_at "subl"))
local macro_rules | `(tactic| walk_at "fact") => `(tactic| first | exact St.get (by assumption) (by walk_at "mem") | exact St.oldf (by assumption) (by assumption) | assumption)
local macro_rules | `(tactic| walk_at "xname") => `(tactic| first
  | refine r_local (by assumption) (by walk_at "mem") (by rfl) ?_
  | refine r_blt (by assumption) (by rfl) ?_
  | refine r_cell (by assumption) (by rfl) (by walk_at "mem") ?_
  | refine r_glob (by assumption) (by first | assumption | exact FnAt.g (by assumption)) ?_)
local macro_rules | `(tactic| walk_at "xconst") => `(tactic| first
  | refine r_int fun _ _ => ?_
  | refine r_str fun _ _ => ?_
  | refine r_bytes fun _ _ => ?_
  | refine wpAny_Constant_bool ?_
  | refine wpAny_Constant_none ?_)
local macro_rules | `(tactic| walk_at "xeval") => `(tactic| first
  | ((with_reducible show wpAny _ _ (eval (Expr.Name _ _) _) _ _ _); walk_at "xname")
  | ((with_reducible show wpAny _ _ (eval (Expr.Constant _ _ _) _) _ _ _); walk_at "xconst")
  | ((with_reducible show wpAny _ _ (eval (Expr.Call (Expr.Attribute _ _ _) _ _ _) _) _ _ _); refine MethodCall_ ?_)
  | ((with_reducible show wpAny _ _ (eval (Expr.Call _ _ _ _) _) _ _ _); refine Call_ ?_)
  | with_reducible refine wpAny_BinOp ?_
  | ((with_reducible show wpAny _ _ (eval (Expr.Compare _ [_] [_] _) _) _ _ _); refine wpAny_Compare1 ?_)
  | ((with_reducible show wpAny _ _ (eval (Expr.Subscript _ _ _) _) _ _ _); refine Subscript_ ?_)
  | ((with_reducible show wpAny _ _ (eval (Expr.Slice none (some _) none _) _) _ _ _); refine e_slice_nu ?_)
  | ((with_reducible show wpAny _ _ (eval (Expr.IfExp _ _ _ _) _) _ _ _); refine wpAny_IfExp ?_)
  | ((with_reducible show wpAny _ _ (eval (Expr.Tuple _ _ _) _) _ _ _); refine Tuple_ ?_)
  | ((with_reducible show wpAny _ _ (eval (Expr.List _ _) _) _ _ _); refine List_ ?_)
  | ((with_reducible show wpAny _ _ (eval (Expr.UnaryOp _ _ _) _) _ _ _); refine wpAny_UnaryOp ?_))
local macro_rules | `(tactic| walk_at "xexec") => `(tactic| first
  | ((with_reducible show wpAny _ _ (exec (Stmt.Assign [Expr.Name _ _] _ _) _) _ _ _); refine wpAny_Assign_Name ?_)
  | ((with_reducible show wpAny _ _ (exec (Stmt.If _ _ _ _) _) _ _ _); refine wpAny_If ?_)
  | ((with_reducible show wpAny _ _ (exec (Stmt.Return (some _) _) _) _ _ _); refine wpAny_Return_some ?_)
  | ((with_reducible show wpAny _ _ (exec (Stmt.Break _) _) _ _ _); refine wpAny_Break ?_)
  | ((with_reducible show wpAny _ _ (exec (Stmt.Expr _ _) _) _ _ _); refine wpAny_Expr ?_)
  | ((with_reducible show wpAny _ _ (exec (Stmt.For _ _ _ _ _) _) _ _ _); refine r_For ?_)
  | ((with_reducible show wpAny _ _ (exec (Stmt.While _ _ _ _) _) _ _ _); refine r_While ?_)
  | ((with_reducible show wpAny _ _ (exec (Stmt.AugAssign (Expr.Name _ _) _ _ _) _) _ _ _); refine wpAny_AugAssign_Name ?_))
local macro_rules | `(tactic| walk_at "xtrue") => `(tactic| first
  | ((with_reducible show wpAny _ _ (isTrue (Expr.Compare _ [_] [_] _) _ _) _ _ _); refine wpAny_isTrue_Compare1 ?_)
  | ((with_reducible show wpAny _ _ (isTrue (Expr.BoolOp _ _ _) _ _) _ _ _); refine wpAny_isTrue_BoolOp ?_)
  | ((with_reducible show wpAny _ _ (isTrue (Expr.UnaryOp UnaryOp.Not _ _) _ _) _ _ _); refine wpAny_isTrue_Not ?_)
  | ((with_reducible show wpAny _ _ (isTrue (Expr.Call _ _ _ _) _ _) _ _ _); refine wpAny_isTrue_value ?_)
  | ((with_reducible show wpAny _ _ (isTrue (Expr.Name _ _) _ _) _ _ _); refine wpAny_isTrue_value ?_))
local macro_rules | `(tactic| walk_at "xcall") => `(tactic| first
  | ((with_reducible show wpAny _ _ (call (Value.type "range") [Value.int _ _]) _ _ _); refine r_range (by assumption) ?_; intro _ _ _ _ _ _)
  | ((with_reducible show wpAny _ _ (call (Value.builtin "list.append") [_, _]) _ _ _); refine r_append (by assumption) (by walk_at "upd") ?_; intro _ _)
  | ((with_reducible show wpAny _ _ (call (Value.builtin "len") [Value.ref _]) _ _ _); refine r_len_list (by walk_at "fact") (by first | assumption | decide | omega) ?_; intro _ _)
  | ((with_reducible show wpAny _ _ (call (Value.type "type") [Value.str _ _]) _ _ _); refine call_type_of (Tx := "str") rfl (by decide) ?_)
  | ((with_reducible show wpAny _ _ (call (Value.type "type") [Value.bytes _ _]) _ _ _); refine call_type_of (Tx := "bytes") rfl (by decide) ?_)
  | ((with_reducible show wpAny _ _ (call (Value.builtin "issubclass") [Value.type "str", _]) _ _ _); refine r_issub_str (by assumption) (by walk_at "mem") ?_)
  | ((with_reducible show wpAny _ _ (call (Value.builtin "issubclass") [Value.type "bytes", _]) _ _ _); refine r_issub_bytes (by assumption) (by walk_at "mem") ?_)
  | ((with_reducible show wpAny _ _ (call (Value.builtin "isinstance") [Value.str _ _, Value.type "bytes"]) _ _ _); refine IsiPair.str_bytes ?_)
  | ((with_reducible show wpAny _ _ (call (Value.builtin "isinstance") [Value.bytes _ _, Value.type "bytes"]) _ _ _); refine call_isinstance_yes (typeIs_bytes _ _ _) F.isi_meta_bytes F.isi_self_bytes ?_))
local macro_rules | `(tactic| walk_at "xop") => `(tactic| first
  | ((with_reducible show wpAny _ _ (binaryOp Operator.Add (Value.int _ _) (Value.int _ _)) _ _ _); refine r_add ?_; intro _ _)
  | ((with_reducible show wpAny _ _ (binaryOp Operator.Sub (Value.int _ _) (Value.int _ _)) _ _ _); refine r_sub ?_; intro _ _)
  | ((with_reducible show wpAny _ _ (binaryOp Operator.Mod (Value.int _ _) (Value.int _ _)) _ _ _); refine r_mod (by decide) ?_; intro _ _)
  | ((with_reducible show wpAny _ _ (binaryOp Operator.Mult (Value.int _ _) (Value.int _ _)) _ _ _); refine r_mul ?_; intro _ _)
  | ((with_reducible show wpAny _ _ (binaryOp Operator.FloorDiv (Value.int _ _) (Value.int _ _)) _ _ _); refine r_fdiv (by decide) (PyProof.noPylong_small (by decide)) ?_; intro _ _)
  | ((with_reducible show wpAny _ _ (binaryOp Operator.BitAnd (Value.int _ _) (Value.int _ _)) _ _ _); refine r_and ?_; intro _ _))
local macro_rules | `(tactic| walk_at "xcmp") => `(tactic| first
  | ((with_reducible show wpAny _ _ (compareOp CmpOp.Eq (Value.int _ _) (Value.int _ _)) _ _ _); refine r_eq ?_)
  | ((with_reducible show wpAny _ _ (compareOp CmpOp.NotEq (Value.int _ _) (Value.int _ _)) _ _ _); refine r_ne ?_)
  | ((with_reducible show wpAny _ _ (compareOp CmpOp.Lt (Value.int _ _) (Value.int _ _)) _ _ _); refine r_lt ?_))
local macro_rules | `(tactic| walk_at "x1") => `(tactic| first
  | ((with_reducible show wpAny _ _ (eval _ _) _ _ _); walk_at "xeval")
  | ((with_reducible show wpAny _ _ (spliced _) _ _ _); first
    | ((with_reducible show wpAny _ _ (spliced (backTo _ (starEach [] _))) _ _ _); refine args_nil ?_; (try simp only [List.nil_append, List.cons_append]))
    | ((with_reducible show wpAny _ _ (spliced (backTo _ (starEach (_ :: _) _))) _ _ _); refine args_cons ?_))
  | ((with_reducible show wpAny _ _ (callWith _ _ _ _ _) _ _ _); first
    | ((with_reducible show wpAny _ _ (callWith _ (Value.builtin _) _ _ _) _ _ _); refine cw_blt ?_)
    | ((with_reducible show wpAny _ _ (callWith _ (Value.ref _) _ _ _) _ _ _); refine cw_fn ?_)
    | ((with_reducible show wpAny _ _ (callWith _ (Value.type _) _ _ _) _ _ _); refine cw_type ?_))
  | ((with_reducible show wpAny _ _ (execs _ _) _ _ _); first
    | ((with_reducible show wpAny _ _ (execs (_ :: _) _) _ _ _); refine wpAny_execs_cons ?_)
    | ((with_reducible show wpAny _ _ (execs [] _) _ _ _); refine wpAny_execs_nil ?_))
  | ((with_reducible show wpAny _ _ (exec _ _) _ _ _); walk_at "xexec")
  | ((with_reducible show wpAny _ _ (storeName _ _ _) _ _ _); first | (refine r_st (by assumption) (by walk_at "upd") ?_; intro _ _ _) | (refine r_stc (by assumption) (by rfl) (by walk_at "upd") ?_; intro _ _ _))
  | ((with_reducible show wpAny _ _ (isTrue _ _ _) _ _ _); walk_at "xtrue")
  | ((with_reducible show wpAny _ _ (truthy (Value.bool _)) _ _ _); refine wpAny_truthy_bool ?_)
  | ((with_reducible show wpAny _ _ (call _ _ _) _ _ _); walk_at "xcall")
  | ((with_reducible show wpAny _ _ (binaryOp _ _ _) _ _ _); walk_at "xop")
  | ((with_reducible show wpAny _ _ (compareOp _ _ _) _ _ _); walk_at "xcmp")
  | ((with_reducible show wpAny _ _ (subscriptTail _ _ (Value.ref _) (Value.int _ _)) _ _ _); refine t_list_item (by walk_at "fact") (by decide) (by decide) (by rfl) ?_)
  | ((with_reducible show wpAny _ _ (inplaceOp Operator.Add (Value.int _ _) (Value.int _ _)) _ _ _); refine r_iadd ?_; intro _ _)
  | ((with_reducible show wpAny _ _ (loadName _ _) _ _ _); first
    | refine r_localN (by assumption) (by walk_at "mem") (by rfl) ?_
    | refine r_cellN (by assumption) (by rfl) (by walk_at "mem") ?_)
  | ((with_reducible show wpAny _ _ (forIn [] _ _) _ _ _); refine wpAny_tests_nil ?_)
  | ((with_reducible show wpAny _ _ (forIn [_] _ _) _ _ _); refine wpAny_tests_one ?_)
  | ((with_reducible show wpAny _ _ (emitL _ _ _) _ _ _); refine wp_emitL ?_)
  | ((with_reducible show wpAny _ _ (emitS _ _ _) _ _ _); refine wp_emitS ?_)
  | ((with_reducible show wpAny _ _ (assign (Expr.Name _ _) _ _) _ _ _); refine wpAny_assign_Name ?_)
  | ((with_reducible show wpAny _ _ (getMethod (Value.ref _) _ _) _ _ _); (with_reducible refine gm_append ?_ ?_); (· exact ⟨_, by walk_at "fact"⟩))
  | ((with_reducible show wpAny _ _ (letOwnedTupleGo (Expr.Name _ _) _ _) _ _ _); refine wpAny_pure ?_)
  | ((with_reducible show wpAny _ _ (newTuple _) _ _ _); refine r_newTuple (by assumption) ?_; intro _ _ _)
  | ((with_reducible show wpAny _ _ (newList _) _ _ _); refine r_newList (by assumption) ?_; intro _ _ _)
  | ((with_reducible show wpAny _ _ (newFields "slice" [_, _, Value.none]) _ _ _); refine r_newSlice (by assumption) ?_; intro _ _ _)
  | ((with_reducible show wpAny _ _ (allTrue _ _ _) _ _ _); first
    | ((with_reducible show wpAny _ _ (allTrue BoolOp.And (_ :: _) _) _ _ _); refine wpAny_allTrue_And_cons ?_)
    | ((with_reducible show wpAny _ _ (allTrue BoolOp.Or (_ :: _) _) _ _ _); refine wpAny_allTrue_Or_cons ?_)
    | refine wpAny_allTrue_And_nil ?_ | refine wpAny_allTrue_Or_nil ?_)
  | ((with_reducible show ite _ _ _); (first | rw [if_pos rfl] | rw [if_neg Bool.false_ne_true])))
local macro_rules | `(tactic| walk_at "subl") => `(tactic| with_reducible exact List.Sublist.refl _)
local macro_rules | `(tactic| walk_at "x1") => `(tactic| first
  | ((with_reducible show wpAny _ _ (binaryOp Operator.RShift (Value.int _ _) (Value.int _ _)) _ _ _); refine r_rshift (by omega) ?_; intro _ _)
  | ((with_reducible show wpAny _ _ (unaryOp UnaryOp.USub (Value.int _ _)) _ _ _); refine r_neg ?_; intro _ _)
  | ((with_reducible show wpAny _ _ (compareOp CmpOp.Is (Value.ref _) Value.none) _ _ _); refine is_ref_none ?_)
  | ((with_reducible show wpAny _ _ (getMethod (Value.ref _) "index" _) _ _ _); (with_reducible refine gm_index ?_ ?_); (· exact ⟨_, by walk_at "fact"⟩))
  | ((with_reducible show wpAny _ _ (eval (Expr.BoolOp BoolOp.And (_ :: _ :: _) _) _) _ _ _); refine BoolOp_and ?_)
  | ((with_reducible show wpAny _ _ (eval (Expr.BoolOp BoolOp.And [_] _) _) _ _ _); refine BoolOp_one ?_))
def chosB : List Stmt := match lawAt 13 with | some (.For _ _ b _ _) => b | _ => []
def sel (c n : Nat) : List Nat := (List.range n).filter fun k => c.testBit k
theorem sel_succ (c n : Nat) : sel c (n + 1) = if c.testBit n = true then sel c n ++ [n] else sel c n := by
  unfold sel
  rw [List.range_succ, List.filter_append]
  by_cases h : c.testBit n = true
  · rw [if_pos h, List.filter_cons_of_pos h]; rfl
  · rw [if_neg h, List.filter_cons_of_neg h]; simp
theorem sel_len (c n : Nat) : (sel c n).length ≤ n := Nat.le_trans (List.length_filter_le _ _) (by rw [List.length_range]; exact Nat.le_refl _)
section
variable {prog : Program} {w : World} {A : Around} {X : Value → Shared → Prop} {g : Array GenState} {d : Drawn} {t : Nat} {o : OsState} {mg mb : Str → Option Value} {h₀ h : Heap} {N N' N'' T : List (Addr × Fact)} {env : Env}
  {L a c1 c2 c3 c4 c5 c6 c7 c8 : Addr} {cd : Value}
theorem ch_a {ma : Addr} {mv : List Value} {n tn c tc : Nat} {lg : Value} {v8 : Option Value} {mk : Nat → Nat} {Q : Flow → Shared → Prop} (hh : A.handled = none) (h6 : n ≤ 6)
    (im : IntsAre mv ((List.range n).map fun i => ((mk i : Nat) : Int)))
    (D : St mg mb h₀ ((L, .ns [("largest", lg), ("count", .int ((n : Nat) : Int) tn)]) :: (c8, .cell v8) :: (c7, .cell (some (.int ((c : Nat) : Int) tc))) :: (ma, .lst mv) :: (c4, .cell (some (.ref ma))) :: T) h)
    (hQ : ∀ wb wv h' t', IntsAre wv (((sel c n).map mk).map fun x => ((x : Nat) : Int)) →
      St mg mb h₀ ((wb, .lst wv) :: (L, .ns [("largest", lg), ("count", .int ((n : Nat) : Int) tn)]) :: (c8, .cell (some (.ref wb))) :: (c7, .cell (some (.int ((c : Nat) : Int) tc))) :: (ma, .lst mv) :: (c4, .cell (some (.ref ma))) :: T) h' →
      wpAny (model prog w) A (execs (chosB.drop 1) (lawE L a cd c1 c2 c3 c4 c5 c6 c7 c8)) Q X ⟨h', g, d, t', o⟩) :
    wpAny (model prog w) A (execs chosB (lawE L a cd c1 c2 c3 c4 c5 c6 c7 c8)) Q X ⟨h, g, d, t, o⟩ := by
  have lm := im.length
  rw [List.length_map, List.length_range] at lm
  refine wpAny_execs_cons ?_
  refine wpAny_Assign_Name ?_
  refine r_ListComp (cl := [("masks", c4), ("chosen", c7)]) (by rfl) ?_
  repeat walk_at "x1"
  have D := ‹St mg mb h₀ _ _›
  refine pi_range (n := n) D (by walk_at "mem") (by omega) fun I h' D => ?_
  refine compGo_of D (.head _) ⟨_, _, rfl⟩ fun C Dl h' t' D => ?_
  refine comp1 ⟨n, fun E => ?_⟩
  refine comp_range hh (D.perm (N' := (C, .ns []) :: (Dl, .lst []) :: (I, .obj (rgObj ((0 : Nat) : Int) ((n : Nat) : Int))) :: _) (List.Perm.refl _)) (P := fun k acc _ => IntsAre acc (((sel c k).map mk).map fun x => ((x : Nat) : Int)) ∧ acc.length ≤ k) ⟨.nil, Nat.le_refl _⟩ ?_ ?_
  · rintro j E' acc h t tk Q' hj ⟨pa, pl⟩ D hq
    obtain ⟨u, eu⟩ := ints_range im hj
    refine turn_one ?_
    repeat walk_at "x1"
    rw [sel_bit]
    by_cases hb : c.testBit j = true
    · rw [if_pos hb]
      repeat walk_at "x1"
      refine t_list_item (by walk_at "fact") (by omega) (by omega) (by rw [Int.toNat_natCast]; exact eu) ?_
      repeat walk_at "x1"
      have D := ‹St mg mb h₀ _ _›
      refine hq _ _ _ _ ⟨?_, by rw [List.length_append, List.length_singleton]; omega⟩ D
      rw [sel_succ, if_pos hb, List.map_append, List.map_append, List.map_singleton, List.map_singleton]
      exact intsAre_snoc pa
    · rw [if_neg hb]
      have D := ‹St mg mb h₀ _ _›
      refine hq acc _ _ _ ⟨?_, by omega⟩ D
      rw [sel_succ, if_neg hb]; exact pa
  · rintro acc E' h' t' ⟨pa, pl⟩ D
    refine cp_none (C := C) D (by walk_at "mem") (by walk_at "del") fun h' D => ?_
    refine r_stc D (by rfl) (by walk_at "upd") fun h' t' D => ?_
    exact hQ Dl acc h' _ pa (D.sub (by walk_at "subl"))
end
end Mine

end
section
open PySem PySem.Calls PySem.W PyProof.Rows
set_option maxRecDepth 100000
set_option maxHeartbeats 4000000
namespace Mine
local macro_rules | `(tactic| walk_at "mem") => `(tactic| first | exact List.Mem.head _ | (refine List.Mem.tail _ ?_; walk_at "mem"))
local macro_rules | `(tactic| walk_at "upd") => `(tactic| first | exact Upd.head | (apply Upd.tail; walk_at "upd"))
local macro_rules | `(tactic| walk_at "del") => `(tactic| first | exact Del.head | (apply Del.tail; walk_at "del"))
local macro_rules | `(tactic| walk_at "sees") => `(tactic| first | exact Sees.nil | (refine Sees.cons (by rfl) ?_; walk_at "sees"))
local macro_rules | `(tactic| walk_at "subl") => `(tactic| first | exact List.Sublist.slnil | (refine List.Sublist.cons_cons _ ?_; walk_at "subl") | (refine List.Sublist.cons _ ?_; walk_at "subl"))
local macro_rules | `(tactic| walk_at "fact") => `(tactic| first | exact St.get (by assumption) (by walk_at "mem") | exact St.oldf (by assumption) (by assumption) | assumption)
local macro_rules | `(tactic| walk_at "xname") => `(tactic| first
  | refine r_local (by assumption) (by walk_at "mem") (by rfl) ?_
  | refine r_blt (by assumption) (by rfl) ?_
  | refine r_cell (by assumption) (by rfl) (by walk_at "mem") ?_
  | refine r_glob (by assumption) (by first | assumption | exact FnAt.g (by assumption)) ?_)
local macro_rules | `(tactic| walk_at "xconst") => `(tactic| first
  | refine r_int fun _ _ => ?_
  | refine r_str fun _ _ => ?_
  | refine r_bytes fun _ _ => ?_
  | refine wpAny_Constant_bool ?_
  | refine wpAny_Constant_none ?_)
local macro_rules | `(tactic| walk_at "xeval") => `(tactic| first
  | ((with_reducible show wpAny _ _ (eval (Expr.Name _ _) _) _ _ _); walk_at "xname")
  | ((with_reducible show wpAny _ _ (eval (Expr.Constant _ _ _) _) _ _ _); walk_at "xconst")
  | ((with_reducible show wpAny _ _ (eval (Expr.Call (Expr.Attribute _ _ _) _ _ _) _) _ _ _); refine MethodCall_ ?_)
  | ((with_reducible show wpAny _ _ (eval (Expr.Call _ _ _ _) _) _ _ _); refine Call_ ?_)
  | with_reducible refine wpAny_BinOp ?_
  | ((with_reducible show wpAny _ _ (eval (Expr.Compare _ [_] [_] _) _) _ _ _); refine wpAny_Compare1 ?_)
  | ((with_reducible show wpAny _ _ (eval (Expr.Subscript _ _ _) _) _ _ _); refine Subscript_ ?_)
  | ((with_reducible show wpAny _ _ (eval (Expr.Slice none (some _) none _) _) _ _ _); refine e_slice_nu ?_)
  | ((with_reducible show wpAny _ _ (eval (Expr.IfExp _ _ _ _) _) _ _ _); refine wpAny_IfExp ?_)
  | ((with_reducible show wpAny _ _ (eval (Expr.Tuple _ _ _) _) _ _ _); refine Tuple_ ?_)
  | ((with_reducible show wpAny _ _ (eval (Expr.List _ _) _) _ _ _); refine List_ ?_)
  | ((with_reducible show wpAny _ _ (eval (Expr.UnaryOp _ _ _) _) _ _ _); refine wpAny_UnaryOp ?_))
local macro_rules | `(tactic| walk_at "xexec") => `(tactic| first
  | ((with_reducible show wpAny _ _ (exec (Stmt.Assign [Expr.Name _ _] _ _) _) _ _ _); refine wpAny_Assign_Name ?_)
  | ((with_reducible show wpAny _ _ (exec (Stmt.If _ _ _ _) _) _ _ _); refine wpAny_If ?_)
  | ((with_reducible show wpAny _ _ (exec (Stmt.Return (some _) _) _) _ _ _); refine wpAny_Return_some ?_)
  | ((with_reducible show wpAny _ _ (exec (Stmt.Break _) _) _ _ _); refine wpAny_Break ?_)
  | ((with_reducible show wpAny _ _ (exec (Stmt.Expr _ _) _) _ _ _); refine wpAny_Expr ?_)
  | ((with_reducible show wpAny _ _ (exec (Stmt.For _ _ _ _ _) _) _ _ _); refine r_For ?_)
  | ((with_reducible show wpAny _ _ (exec (Stmt.While _ _ _ _) _) _ _ _); refine r_While ?_)
  | ((with_reducible show wpAny _ _ (exec (Stmt.AugAssign (Expr.Name _ _) _ _ _) _) _ _ _); refine wpAny_AugAssign_Name ?_))
local macro_rules | `(tactic| walk_at "xtrue") => `(tactic| first
  | ((with_reducible show wpAny _ _ (isTrue (Expr.Compare _ [_] [_] _) _ _) _ _ _); refine wpAny_isTrue_Compare1 ?_)
  | ((with_reducible show wpAny _ _ (isTrue (Expr.BoolOp _ _ _) _ _) _ _ _); refine wpAny_isTrue_BoolOp ?_)
  | ((with_reducible show wpAny _ _ (isTrue (Expr.UnaryOp UnaryOp.Not _ _) _ _) _ _ _); refine wpAny_isTrue_Not ?_)
  | ((with_reducible show wpAny _ _ (isTrue (Expr.Call _ _ _ _) _ _) _ _ _); refine wpAny_isTrue_value ?_)
  | ((with_reducible show wpAny _ _ (isTrue (Expr.Name _ _) _ _) _ _ _); refine wpAny_isTrue_value ?_))
local macro_rules | `(tactic| walk_at "xcall") => `(tactic| first
  | ((with_reducible show wpAny _ _ (call (Value.type "range") [Value.int _ _]) _ _ _); refine r_range (by assumption) ?_; intro _ _ _ _ _ _)
  | ((with_reducible show wpAny _ _ (call (Value.builtin "list.append") [_, _]) _ _ _); refine r_append (by assumption) (by walk_at "upd") ?_; intro _ _)
  | ((with_reducible show wpAny _ _ (call (Value.builtin "len") [Value.ref _]) _ _ _); refine r_len_list (by walk_at "fact") (by first | assumption | decide | omega) ?_; intro _ _)
  | ((with_reducible show wpAny _ _ (call (Value.type "type") [Value.str _ _]) _ _ _); refine call_type_of (Tx := "str") rfl (by decide) ?_)
  | ((with_reducible show wpAny _ _ (call (Value.type "type") [Value.bytes _ _]) _ _ _); refine call_type_of (Tx := "bytes") rfl (by decide) ?_)
  | ((with_reducible show wpAny _ _ (call (Value.builtin "issubclass") [Value.type "str", _]) _ _ _); refine r_issub_str (by assumption) (by walk_at "mem") ?_)
  | ((with_reducible show wpAny _ _ (call (Value.builtin "issubclass") [Value.type "bytes", _]) _ _ _); refine r_issub_bytes (by assumption) (by walk_at "mem") ?_)
  | ((with_reducible show wpAny _ _ (call (Value.builtin "isinstance") [Value.str _ _, Value.type "bytes"]) _ _ _); refine IsiPair.str_bytes ?_)
  | ((with_reducible show wpAny _ _ (call (Value.builtin "isinstance") [Value.bytes _ _, Value.type "bytes"]) _ _ _); refine call_isinstance_yes (typeIs_bytes _ _ _) F.isi_meta_bytes F.isi_self_bytes ?_))
local macro_rules | `(tactic| walk_at "xop") => `(tactic| first
  | ((with_reducible show wpAny _ _ (binaryOp Operator.Add (Value.int _ _) (Value.int _ _)) _ _ _); refine r_add ?_; intro _ _)
  | ((with_reducible show wpAny _ _ (binaryOp Operator.Sub (Value.int _ _) (Value.int _ _)) _ _ _); refine r_sub ?_; intro _ _)
  | ((with_reducible show wpAny _ _ (binaryOp Operator.Mod (Value.int _ _) (Value.int _ _)) _ _ _); refine r_mod (by decide) ?_; intro _ _)
  | ((with_reducible show wpAny _ _ (binaryOp Operator.Mult (Value.int _ _) (Value.int _ _)) _ _ _); refine r_mul ?_; intro _ _)
  | ((with_reducible show wpAny _ _ (binaryOp Operator.FloorDiv (Value.int _ _) (Value.int _ _)) _ _ _); refine r_fdiv (by decide) (PyProof.noPylong_small (by decide)) ?_; intro _ _)
  | ((with_reducible show wpAny _ _ (binaryOp Operator.BitAnd (Value.int _ _) (Value.int _ _)) _ _ _); refine r_and ?_; intro _ _))
local macro_rules | `(tactic| walk_at "xcmp") => `(tactic| first
  | ((with_reducible show wpAny _ _ (compareOp CmpOp.Eq (Value.int _ _) (Value.int _ _)) _ _ _); refine r_eq ?_)
  | ((with_reducible show wpAny _ _ (compareOp CmpOp.NotEq (Value.int _ _) (Value.int _ _)) _ _ _); refine r_ne ?_)
  | ((with_reducible show wpAny _ _ (compareOp CmpOp.Lt (Value.int _ _) (Value.int _ _)) _ _ _); refine r_lt ?_))
local macro_rules | `(tactic| walk_at "x1") => `(tactic| first
  | ((with_reducible show wpAny _ _ (eval _ _) _ _ _); walk_at "xeval")
  | ((with_reducible show wpAny _ _ (spliced _) _ _ _); first
    | ((with_reducible show wpAny _ _ (spliced (backTo _ (starEach [] _))) _ _ _); refine args_nil ?_; (try simp only [List.nil_append, List.cons_append]))
    | ((with_reducible show wpAny _ _ (spliced (backTo _ (starEach (_ :: _) _))) _ _ _); refine args_cons ?_))
  | ((with_reducible show wpAny _ _ (callWith _ _ _ _ _) _ _ _); first
    | ((with_reducible show wpAny _ _ (callWith _ (Value.builtin _) _ _ _) _ _ _); refine cw_blt ?_)
    | ((with_reducible show wpAny _ _ (callWith _ (Value.ref _) _ _ _) _ _ _); refine cw_fn ?_)
    | ((with_reducible show wpAny _ _ (callWith _ (Value.type _) _ _ _) _ _ _); refine cw_type ?_))
  | ((with_reducible show wpAny _ _ (execs _ _) _ _ _); first
    | ((with_reducible show wpAny _ _ (execs (_ :: _) _) _ _ _); refine wpAny_execs_cons ?_)
    | ((with_reducible show wpAny _ _ (execs [] _) _ _ _); refine wpAny_execs_nil ?_))
  | ((with_reducible show wpAny _ _ (exec _ _) _ _ _); walk_at "xexec")
  | ((with_reducible show wpAny _ _ (storeName _ _ _) _ _ _); first | (refine r_st (by assumption) (by walk_at "upd") ?_; intro _ _ _) | (refine r_stc (by assumption) (by rfl) (by walk_at "upd") ?_; intro _ _ _))
  | ((with_reducible show wpAny _ _ (isTrue _ _ _) _ _ _); walk_at "xtrue")
  | ((with_reducible show wpAny _ _ (truthy (Value.bool _)) _ _ _); refine wpAny_truthy_bool ?_)
  | ((with_reducible show wpAny _ _ (call _ _ _) _ _ _); walk_at "xcall")
  | ((with_reducible show wpAny _ _ (binaryOp _ _ _) _ _ _); walk_at "xop")
  | ((with_reducible show wpAny _ _ (compareOp _ _ _) _ _ _); walk_at "xcmp")
  | ((with_reducible show wpAny _ _ (subscriptTail _ _ (Value.ref _) (Value.int _ _)) _ _ _); refine t_list_item (by walk_at "fact") (by decide) (by decide) (by rfl) ?_)
  | ((with_reducible show wpAny _ _ (inplaceOp Operator.Add (Value.int _ _) (Value.int _ _)) _ _ _); refine r_iadd ?_; intro _ _)
  | ((with_reducible show wpAny _ _ (loadName _ _) _ _ _); first
    | refine r_localN (by assumption) (by walk_at "mem") (by rfl) ?_
    | refine r_cellN (by assumption) (by rfl) (by walk_at "mem") ?_)
  | ((with_reducible show wpAny _ _ (forIn [] _ _) _ _ _); refine wpAny_tests_nil ?_)
  | ((with_reducible show wpAny _ _ (forIn [_] _ _) _ _ _); refine wpAny_tests_one ?_)
  | ((with_reducible show wpAny _ _ (emitL _ _ _) _ _ _); refine wp_emitL ?_)
  | ((with_reducible show wpAny _ _ (emitS _ _ _) _ _ _); refine wp_emitS ?_)
  | ((with_reducible show wpAny _ _ (assign (Expr.Name _ _) _ _) _ _ _); refine wpAny_assign_Name ?_)
  | ((with_reducible show wpAny _ _ (getMethod (Value.ref _) _ _) _ _ _); (with_reducible refine gm_append ?_ ?_); (· exact ⟨_, by walk_at "fact"⟩))
  | ((with_reducible show wpAny _ _ (letOwnedTupleGo (Expr.Name _ _) _ _) _ _ _); refine wpAny_pure ?_)
  | ((with_reducible show wpAny _ _ (newTuple _) _ _ _); refine r_newTuple (by assumption) ?_; intro _ _ _)
  | ((with_reducible show wpAny _ _ (newList _) _ _ _); refine r_newList (by assumption) ?_; intro _ _ _)
  | ((with_reducible show wpAny _ _ (newFields "slice" [_, _, Value.none]) _ _ _); refine r_newSlice (by assumption) ?_; intro _ _ _)
  | ((with_reducible show wpAny _ _ (allTrue _ _ _) _ _ _); first
    | ((with_reducible show wpAny _ _ (allTrue BoolOp.And (_ :: _) _) _ _ _); refine wpAny_allTrue_And_cons ?_)
    | ((with_reducible show wpAny _ _ (allTrue BoolOp.Or (_ :: _) _) _ _ _); refine wpAny_allTrue_Or_cons ?_)
    | refine wpAny_allTrue_And_nil ?_ | refine wpAny_allTrue_Or_nil ?_)
  | ((with_reducible show ite _ _ _); (first | rw [if_pos rfl] | rw [if_neg Bool.false_ne_true])))
local macro_rules | `(tactic| walk_at "subl") => `(tactic| with_reducible exact List.Sublist.refl _)
local macro_rules | `(tactic| walk_at "x1") => `(tactic| first
  | ((with_reducible show wpAny _ _ (binaryOp Operator.RShift (Value.int _ _) (Value.int _ _)) _ _ _); refine r_rshift (by omega) ?_; intro _ _)
  | ((with_reducible show wpAny _ _ (unaryOp UnaryOp.USub (Value.int _ _)) _ _ _); refine r_neg ?_; intro _ _)
  | ((with_reducible show wpAny _ _ (compareOp CmpOp.Is (Value.ref _) Value.none) _ _ _); refine is_ref_none ?_)
  | ((with_reducible show wpAny _ _ (getMethod (Value.ref _) "index" _) _ _ _); (with_reducible refine gm_index ?_ ?_); (· exact ⟨_, by walk_at "fact"⟩))
  | ((with_reducible show wpAny _ _ (eval (Expr.BoolOp BoolOp.And (_ :: _ :: _) _) _) _ _ _); refine BoolOp_and ?_)
  | ((with_reducible show wpAny _ _ (eval (Expr.BoolOp BoolOp.And [_] _) _) _ _ _); refine BoolOp_one ?_))
def crossB (w : List Nat) : Bool := w.all fun a => w.all fun b => decide (a &&& b ≠ 0)
theorem all_take_succ {α : Type} {w : List α} {p : α → Bool} {j : Nat} (hj : j < w.length) : (w.take (j + 1)).all p = ((w.take j).all p && p w[j]) := by
  rw [← List.take_append_getElem hj, List.all_append]; simp
theorem ints_at {vs : List Value} {w : List Nat} (s : IntsAre vs (w.map fun x => ((x : Nat) : Int))) {k : Nat} (hk : k < w.length) : ∃ u, vs[k]? = some (.int ((w[k] : Nat) : Int) u) :=
  s.get k _ (by rw [List.getElem?_map, List.getElem?_eq_getElem hk]; rfl)
theorem lt_of_some {α : Type} {vs : List α} {k : Nat} {v : α} (h : vs[k]? = some v) : k < vs.length := by
  rcases Nat.lt_or_ge k vs.length with q | q
  · exact q
  · rw [List.getElem?_eq_none q] at h; cases h
section
variable {prog : Program} {w : World} {A : Around} {X : Value → Shared → Prop} {g : Array GenState} {d : Drawn} {t : Nat} {o : OsState} {mg mb : Str → Option Value} {h₀ h : Heap} {N N' N'' T : List (Addr × Fact)} {env : Env}
  {L a c1 c2 c3 c4 c5 c6 c7 c8 : Addr} {cd : Value}
theorem ch_b {wb : Addr} {wv : List Value} {lg cn : Value} {ws : List Nat} {Q : Flow → Shared → Prop} (hh : A.handled = none) (hu : A.units < cLine) (h6 : ws.length ≤ 6)
    (iw : IntsAre wv (ws.map fun x => ((x : Nat) : Int)))
    (D : St mg mb h₀ ((wb, .lst wv) :: (L, .ns [("largest", lg), ("count", cn)]) :: (c8, .cell (some (.ref wb))) :: T) h)
    (hQ : ∀ h' t', St mg mb h₀ ((wb, .lst wv) :: (L, .ns [("meeting", .bool (crossB ws)), ("largest", lg), ("count", cn)]) :: (c8, .cell (some (.ref wb))) :: T) h' →
      wpAny (model prog w) A (execs (chosB.drop 2) (lawE L a cd c1 c2 c3 c4 c5 c6 c7 c8)) Q X ⟨h', g, d, t', o⟩) :
    wpAny (model prog w) A (execs (chosB.drop 1) (lawE L a cd c1 c2 c3 c4 c5 c6 c7 c8)) Q X ⟨h, g, d, t, o⟩ := by
  have lw := iw.length
  rw [List.length_map] at lw
  refine wpAny_execs_cons ?_
  repeat walk_at "x1"
  refine r_ListComp (cl := [("ways", c8)]) (by rfl) ?_
  repeat walk_at "x1"
  refine pi_list (xs := wv) D (by walk_at "fact") fun I h' D => ?_
  refine compGo_of D (.head _) trivial fun C Dl h' t' D => ?_
  refine comp20 ⟨wv.length, fun E => ?_⟩
  refine comp_list hh (D.perm (N' := (C, .ns []) :: (Dl, .lst []) :: (I, .li wb 0) :: _) (List.Perm.refl _)) (by walk_at "mem") (P := fun k acc _ => acc.isEmpty = ((ws.take k).all fun a => ws.all fun b => decide (a &&& b ≠ 0)) ∧ acc.length ≤ 6 * k) ⟨rfl, Nat.le_refl _⟩ ?_ ?_
  · rintro k E' acc h t v Q' hv1 ⟨pa, pl⟩ D hq
    have hk := lt_of_some hv1
    have hk' : k < ws.length := by omega
    obtain ⟨u, eu⟩ := ints_at iw hk'
    rw [eu] at hv1
    obtain rfl := Option.some.inj hv1
    refine turn_nil ?_
    refine wp_innerL ?_
    repeat walk_at "x1"
    refine pi_list (xs := wv) D (by walk_at "fact") fun I2 h' D => ?_
    intro R hR
    refine cstart1 (D.get (.head _)) trivial ?_
    refine comp21 ⟨wv.length, fun E2 => ?_⟩
    refine comp_list hh (D.perm (List.perm_middle (l₁ := [(C, _), (Dl, _)]))) (by walk_at "mem") (P := fun j acc' E'' => acc'.isEmpty = (acc.isEmpty && (ws.take j).all fun b => decide (ws[k] &&& b ≠ 0)) ∧ acc'.length ≤ 6 * k + j ∧ List.lookup ("a" : Str) E'' = some (Value.int ((ws[k] : Nat) : Int) u)) ⟨by simp, by omega, by rfl⟩ ?_ ?_
    · rintro j E'' acc' h t v Q'' hv2 ⟨pa', pl', pe⟩ D hq'
      have hj := lt_of_some hv2
      have hj' : j < ws.length := by omega
      obtain ⟨u2, eu2⟩ := ints_at iw hj'
      rw [eu2] at hv2
      obtain rfl := Option.some.inj hv2
      refine turn_one ?_
      refine wpAny_isTrue_Compare1 ?_
      refine wpAny_BinOp ?_
      refine r_local (v := .int ((ws[k] : Nat) : Int) u) D (.head _) pe ?_
      repeat walk_at "x1"
      rw [band_zero]
      refine ite_dec (fun hz => ?_) (fun hz => ?_)
      · repeat walk_at "x1"
        have D := ‹St mg mb h₀ _ _›
        refine (fun hp => hq' _ _ _ _ hp D) ⟨?_, by rw [List.length_append, List.length_singleton]; omega, pe⟩
        rw [all_take_succ hj', decide_eq_false (by simpa using hz), Bool.and_false, Bool.and_false]; simp
      · repeat walk_at "x1"
        have D := ‹St mg mb h₀ _ _›
        refine (fun hp => hq' _ _ _ _ hp D) ⟨?_, by omega, pe⟩
        rw [all_take_succ hj', decide_eq_true hz, Bool.and_true]; exact pa'
    · rintro acc' E'' h' t' ⟨pa', pl', pe⟩ D
      refine hR _ ?_
      refine hq acc' E'' h' t' ⟨?_, by omega⟩ D
      rw [all_take_succ hk', ← pa, pa', List.take_of_length_le (by omega)]
  · rintro acc E' h' t' ⟨pa, pl⟩ D
    refine cp_none (C := C) D (by walk_at "mem") (by walk_at "del") fun h' D => ?_
    repeat walk_at "x1"
    refine r_eq_nil (by walk_at "fact") (by walk_at "fact") hu ?_
    rw [pa, List.take_of_length_le (by omega)]
    refine r_st (by assumption) (by walk_at "upd") fun h' t' D => ?_
    exact hQ _ _ (D.sub (by walk_at "subl"))
end
end Mine

end
section
open PySem PySem.Calls PySem.W PyProof.Rows
set_option maxRecDepth 100000
set_option maxHeartbeats 4000000
namespace Mine
local macro_rules | `(tactic| walk_at "mem") => `(tactic| first | exact List.Mem.head _ | (refine List.Mem.tail _ ?_; walk_at "mem"))
local macro_rules | `(tactic| walk_at "upd") => `(tactic| first | exact Upd.head | (apply Upd.tail; walk_at "upd"))
local macro_rules | `(tactic| walk_at "del") => `(tactic| first | exact Del.head | (apply Del.tail; walk_at "del"))
local macro_rules | `(tactic| walk_at "sees") => `(tactic| first | exact Sees.nil | (refine Sees.cons (by rfl) ?_; walk_at "sees"))
local macro_rules | `(tactic| walk_at "subl") => `(tactic| first | exact List.Sublist.slnil | (refine List.Sublist.cons_cons _ ?_; walk_at "subl") | (refine List.Sublist.cons _ ?_; walk_at "subl"))
local macro_rules | `(tactic| walk_at "fact") => `(tactic| first | exact St.get (by assumption) (by walk_at "mem") | exact St.oldf (by assumption) (by assumption) | assumption)
local macro_rules | `(tactic| walk_at "xname") => `(tactic| first
  | refine r_local (by assumption) (by walk_at "mem") (by rfl) ?_
  | refine r_blt (by assumption) (by rfl) ?_
  | refine r_cell (by assumption) (by rfl) (by walk_at "mem") ?_
  | refine r_glob (by assumption) (by first | assumption | exact FnAt.g (by assumption)) ?_)
local macro_rules | `(tactic| walk_at "xconst") => `(tactic| first
  | refine r_int fun _ _ => ?_
  | refine r_str fun _ _ => ?_
  | refine r_bytes fun _ _ => ?_
  | refine wpAny_Constant_bool ?_
  | refine wpAny_Constant_none ?_)
local macro_rules | `(tactic| walk_at "xeval") => `(tactic| first
  | ((with_reducible show wpAny _ _ (eval (Expr.Name _ _) _) _ _ _); walk_at "xname")
  | ((with_reducible show wpAny _ _ (eval (Expr.Constant _ _ _) _) _ _ _); walk_at "xconst")
  | ((with_reducible show wpAny _ _ (eval (Expr.Call (Expr.Attribute _ _ _) _ _ _) _) _ _ _); refine MethodCall_ ?_)
  | ((with_reducible show wpAny _ _ (eval (Expr.Call _ _ _ _) _) _ _ _); refine Call_ ?_)
  | with_reducible refine wpAny_BinOp ?_
  | ((with_reducible show wpAny _ _ (eval (Expr.Compare _ [_] [_] _) _) _ _ _); refine wpAny_Compare1 ?_)
  | ((with_reducible show wpAny _ _ (eval (Expr.Subscript _ _ _) _) _ _ _); refine Subscript_ ?_)
  | ((with_reducible show wpAny _ _ (eval (Expr.Slice none (some _) none _) _) _ _ _); refine e_slice_nu ?_)
  | ((with_reducible show wpAny _ _ (eval (Expr.IfExp _ _ _ _) _) _ _ _); refine wpAny_IfExp ?_)
  | ((with_reducible show wpAny _ _ (eval (Expr.Tuple _ _ _) _) _ _ _); refine Tuple_ ?_)
  | ((with_reducible show wpAny _ _ (eval (Expr.List _ _) _) _ _ _); refine List_ ?_)
  | ((with_reducible show wpAny _ _ (eval (Expr.UnaryOp _ _ _) _) _ _ _); refine wpAny_UnaryOp ?_))
local macro_rules | `(tactic| walk_at "xexec") => `(tactic| first
  | ((with_reducible show wpAny _ _ (exec (Stmt.Assign [Expr.Name _ _] _ _) _) _ _ _); refine wpAny_Assign_Name ?_)
  | ((with_reducible show wpAny _ _ (exec (Stmt.If _ _ _ _) _) _ _ _); refine wpAny_If ?_)
  | ((with_reducible show wpAny _ _ (exec (Stmt.Return (some _) _) _) _ _ _); refine wpAny_Return_some ?_)
  | ((with_reducible show wpAny _ _ (exec (Stmt.Break _) _) _ _ _); refine wpAny_Break ?_)
  | ((with_reducible show wpAny _ _ (exec (Stmt.Expr _ _) _) _ _ _); refine wpAny_Expr ?_)
  | ((with_reducible show wpAny _ _ (exec (Stmt.For _ _ _ _ _) _) _ _ _); refine r_For ?_)
  | ((with_reducible show wpAny _ _ (exec (Stmt.While _ _ _ _) _) _ _ _); refine r_While ?_)
  | ((with_reducible show wpAny _ _ (exec (Stmt.AugAssign (Expr.Name _ _) _ _ _) _) _ _ _); refine wpAny_AugAssign_Name ?_))
local macro_rules | `(tactic| walk_at "xtrue") => `(tactic| first
  | ((with_reducible show wpAny _ _ (isTrue (Expr.Compare _ [_] [_] _) _ _) _ _ _); refine wpAny_isTrue_Compare1 ?_)
  | ((with_reducible show wpAny _ _ (isTrue (Expr.BoolOp _ _ _) _ _) _ _ _); refine wpAny_isTrue_BoolOp ?_)
  | ((with_reducible show wpAny _ _ (isTrue (Expr.UnaryOp UnaryOp.Not _ _) _ _) _ _ _); refine wpAny_isTrue_Not ?_)
  | ((with_reducible show wpAny _ _ (isTrue (Expr.Call _ _ _ _) _ _) _ _ _); refine wpAny_isTrue_value ?_)
  | ((with_reducible show wpAny _ _ (isTrue (Expr.Name _ _) _ _) _ _ _); refine wpAny_isTrue_value ?_))
local macro_rules | `(tactic| walk_at "xcall") => `(tactic| first
  | ((with_reducible show wpAny _ _ (call (Value.type "range") [Value.int _ _]) _ _ _); refine r_range (by assumption) ?_; intro _ _ _ _ _ _)
  | ((with_reducible show wpAny _ _ (call (Value.builtin "list.append") [_, _]) _ _ _); refine r_append (by assumption) (by walk_at "upd") ?_; intro _ _)
  | ((with_reducible show wpAny _ _ (call (Value.builtin "len") [Value.ref _]) _ _ _); refine r_len_list (by walk_at "fact") (by first | assumption | decide | omega) ?_; intro _ _)
  | ((with_reducible show wpAny _ _ (call (Value.type "type") [Value.str _ _]) _ _ _); refine call_type_of (Tx := "str") rfl (by decide) ?_)
  | ((with_reducible show wpAny _ _ (call (Value.type "type") [Value.bytes _ _]) _ _ _); refine call_type_of (Tx := "bytes") rfl (by decide) ?_)
  | ((with_reducible show wpAny _ _ (call (Value.builtin "issubclass") [Value.type "str", _]) _ _ _); refine r_issub_str (by assumption) (by walk_at "mem") ?_)
  | ((with_reducible show wpAny _ _ (call (Value.builtin "issubclass") [Value.type "bytes", _]) _ _ _); refine r_issub_bytes (by assumption) (by walk_at "mem") ?_)
  | ((with_reducible show wpAny _ _ (call (Value.builtin "isinstance") [Value.str _ _, Value.type "bytes"]) _ _ _); refine IsiPair.str_bytes ?_)
  | ((with_reducible show wpAny _ _ (call (Value.builtin "isinstance") [Value.bytes _ _, Value.type "bytes"]) _ _ _); refine call_isinstance_yes (typeIs_bytes _ _ _) F.isi_meta_bytes F.isi_self_bytes ?_))
local macro_rules | `(tactic| walk_at "xop") => `(tactic| first
  | ((with_reducible show wpAny _ _ (binaryOp Operator.Add (Value.int _ _) (Value.int _ _)) _ _ _); refine r_add ?_; intro _ _)
  | ((with_reducible show wpAny _ _ (binaryOp Operator.Sub (Value.int _ _) (Value.int _ _)) _ _ _); refine r_sub ?_; intro _ _)
  | ((with_reducible show wpAny _ _ (binaryOp Operator.Mod (Value.int _ _) (Value.int _ _)) _ _ _); refine r_mod (by decide) ?_; intro _ _)
  | ((with_reducible show wpAny _ _ (binaryOp Operator.Mult (Value.int _ _) (Value.int _ _)) _ _ _); refine r_mul ?_; intro _ _)
  | ((with_reducible show wpAny _ _ (binaryOp Operator.FloorDiv (Value.int _ _) (Value.int _ _)) _ _ _); refine r_fdiv (by decide) (PyProof.noPylong_small (by decide)) ?_; intro _ _)
  | ((with_reducible show wpAny _ _ (binaryOp Operator.BitAnd (Value.int _ _) (Value.int _ _)) _ _ _); refine r_and ?_; intro _ _))
local macro_rules | `(tactic| walk_at "xcmp") => `(tactic| first
  | ((with_reducible show wpAny _ _ (compareOp CmpOp.Eq (Value.int _ _) (Value.int _ _)) _ _ _); refine r_eq ?_)
  | ((with_reducible show wpAny _ _ (compareOp CmpOp.NotEq (Value.int _ _) (Value.int _ _)) _ _ _); refine r_ne ?_)
  | ((with_reducible show wpAny _ _ (compareOp CmpOp.Lt (Value.int _ _) (Value.int _ _)) _ _ _); refine r_lt ?_))
local macro_rules | `(tactic| walk_at "x1") => `(tactic| first
  | ((with_reducible show wpAny _ _ (eval _ _) _ _ _); walk_at "xeval")
  | ((with_reducible show wpAny _ _ (spliced _) _ _ _); first
    | ((with_reducible show wpAny _ _ (spliced (backTo _ (starEach [] _))) _ _ _); refine args_nil ?_; (try simp only [List.nil_append, List.cons_append]))
    | ((with_reducible show wpAny _ _ (spliced (backTo _ (starEach (_ :: _) _))) _ _ _); refine args_cons ?_))
  | ((with_reducible show wpAny _ _ (callWith _ _ _ _ _) _ _ _); first
    | ((with_reducible show wpAny _ _ (callWith _ (Value.builtin _) _ _ _) _ _ _); refine cw_blt ?_)
    | ((with_reducible show wpAny _ _ (callWith _ (Value.ref _) _ _ _) _ _ _); refine cw_fn ?_)
    | ((with_reducible show wpAny _ _ (callWith _ (Value.type _) _ _ _) _ _ _); refine cw_type ?_))
  | ((with_reducible show wpAny _ _ (execs _ _) _ _ _); first
    | ((with_reducible show wpAny _ _ (execs (_ :: _) _) _ _ _); refine wpAny_execs_cons ?_)
    | ((with_reducible show wpAny _ _ (execs [] _) _ _ _); refine wpAny_execs_nil ?_))
  | ((with_reducible show wpAny _ _ (exec _ _) _ _ _); walk_at "xexec")
  | ((with_reducible show wpAny _ _ (storeName _ _ _) _ _ _); first | (refine r_st (by assumption) (by walk_at "upd") ?_; intro _ _ _) | (refine r_stc (by assumption) (by rfl) (by walk_at "upd") ?_; intro _ _ _))
  | ((with_reducible show wpAny _ _ (isTrue _ _ _) _ _ _); walk_at "xtrue")
  | ((with_reducible show wpAny _ _ (truthy (Value.bool _)) _ _ _); refine wpAny_truthy_bool ?_)
  | ((with_reducible show wpAny _ _ (call _ _ _) _ _ _); walk_at "xcall")
  | ((with_reducible show wpAny _ _ (binaryOp _ _ _) _ _ _); walk_at "xop")
  | ((with_reducible show wpAny _ _ (compareOp _ _ _) _ _ _); walk_at "xcmp")
  | ((with_reducible show wpAny _ _ (subscriptTail _ _ (Value.ref _) (Value.int _ _)) _ _ _); refine t_list_item (by walk_at "fact") (by decide) (by decide) (by rfl) ?_)
  | ((with_reducible show wpAny _ _ (inplaceOp Operator.Add (Value.int _ _) (Value.int _ _)) _ _ _); refine r_iadd ?_; intro _ _)
  | ((with_reducible show wpAny _ _ (loadName _ _) _ _ _); first
    | refine r_localN (by assumption) (by walk_at "mem") (by rfl) ?_
    | refine r_cellN (by assumption) (by rfl) (by walk_at "mem") ?_)
  | ((with_reducible show wpAny _ _ (forIn [] _ _) _ _ _); refine wpAny_tests_nil ?_)
  | ((with_reducible show wpAny _ _ (forIn [_] _ _) _ _ _); refine wpAny_tests_one ?_)
  | ((with_reducible show wpAny _ _ (emitL _ _ _) _ _ _); refine wp_emitL ?_)
  | ((with_reducible show wpAny _ _ (emitS _ _ _) _ _ _); refine wp_emitS ?_)
  | ((with_reducible show wpAny _ _ (assign (Expr.Name _ _) _ _) _ _ _); refine wpAny_assign_Name ?_)
  | ((with_reducible show wpAny _ _ (getMethod (Value.ref _) _ _) _ _ _); (with_reducible refine gm_append ?_ ?_); (· exact ⟨_, by walk_at "fact"⟩))
  | ((with_reducible show wpAny _ _ (letOwnedTupleGo (Expr.Name _ _) _ _) _ _ _); refine wpAny_pure ?_)
  | ((with_reducible show wpAny _ _ (newTuple _) _ _ _); refine r_newTuple (by assumption) ?_; intro _ _ _)
  | ((with_reducible show wpAny _ _ (newList _) _ _ _); refine r_newList (by assumption) ?_; intro _ _ _)
  | ((with_reducible show wpAny _ _ (newFields "slice" [_, _, Value.none]) _ _ _); refine r_newSlice (by assumption) ?_; intro _ _ _)
  | ((with_reducible show wpAny _ _ (allTrue _ _ _) _ _ _); first
    | ((with_reducible show wpAny _ _ (allTrue BoolOp.And (_ :: _) _) _ _ _); refine wpAny_allTrue_And_cons ?_)
    | ((with_reducible show wpAny _ _ (allTrue BoolOp.Or (_ :: _) _) _ _ _); refine wpAny_allTrue_Or_cons ?_)
    | refine wpAny_allTrue_And_nil ?_ | refine wpAny_allTrue_Or_nil ?_)
  | ((with_reducible show ite _ _ _); (first | rw [if_pos rfl] | rw [if_neg Bool.false_ne_true])))
local macro_rules | `(tactic| walk_at "subl") => `(tactic| with_reducible exact List.Sublist.refl _)
local macro_rules | `(tactic| walk_at "x1") => `(tactic| first
  | ((with_reducible show wpAny _ _ (binaryOp Operator.RShift (Value.int _ _) (Value.int _ _)) _ _ _); refine r_rshift (by omega) ?_; intro _ _)
  | ((with_reducible show wpAny _ _ (unaryOp UnaryOp.USub (Value.int _ _)) _ _ _); refine r_neg ?_; intro _ _)
  | ((with_reducible show wpAny _ _ (compareOp CmpOp.Is (Value.ref _) Value.none) _ _ _); refine is_ref_none ?_)
  | ((with_reducible show wpAny _ _ (getMethod (Value.ref _) "index" _) _ _ _); (with_reducible refine gm_index ?_ ?_); (· exact ⟨_, by walk_at "fact"⟩))
  | ((with_reducible show wpAny _ _ (eval (Expr.BoolOp BoolOp.And (_ :: _ :: _) _) _) _ _ _); refine BoolOp_and ?_)
  | ((with_reducible show wpAny _ _ (eval (Expr.BoolOp BoolOp.And [_] _) _) _ _ _); refine BoolOp_one ?_))
def apartB (ws : List Nat) : Bool := (List.range ws.length).all fun i => (List.range i).all fun j => decide (ws.getD i 0 &&& ws.getD j 0 = 0)
theorem all_range_succ {p : Nat → Bool} {j : Nat} : (List.range (j + 1)).all p = ((List.range j).all p && p j) := by
  rw [List.range_succ, List.all_append]; simp
theorem ints_getDn {vs : List Value} {w : List Nat} (s : IntsAre vs (w.map fun x => ((x : Nat) : Int))) {k : Nat} (hk : k < w.length) : ∃ u, vs[k]? = some (.int ((w.getD k 0 : Nat) : Int) u) := by
  obtain ⟨u, e⟩ := ints_at s hk
  refine ⟨u, ?_⟩
  rw [e, List.getD_eq_getElem?_getD, List.getElem?_eq_getElem hk]; rfl
section
variable {prog : Program} {w : World} {A : Around} {X : Value → Shared → Prop} {g : Array GenState} {d : Drawn} {t : Nat} {o : OsState} {mg mb : Str → Option Value} {h₀ h : Heap} {N N' N'' T : List (Addr × Fact)} {env : Env}
  {L a c1 c2 c3 c4 c5 c6 c7 c8 : Addr} {cd : Value}
theorem ch_c {wb : Addr} {wv : List Value} {mt lg cn : Value} {ws : List Nat} {Q : Flow → Shared → Prop} (hh : A.handled = none) (hu : A.units < cLine) (h6 : ws.length ≤ 6)
    (iw : IntsAre wv (ws.map fun x => ((x : Nat) : Int)))
    (D : St mg mb h₀ ((wb, .lst wv) :: (L, .ns [("meeting", mt), ("largest", lg), ("count", cn)]) :: (c8, .cell (some (.ref wb))) :: T) h)
    (hQ : ∀ h' t', St mg mb h₀ ((wb, .lst wv) :: (L, .ns [("apart", .bool (apartB ws)), ("meeting", mt), ("largest", lg), ("count", cn)]) :: (c8, .cell (some (.ref wb))) :: T) h' →
      wpAny (model prog w) A (execs (chosB.drop 3) (lawE L a cd c1 c2 c3 c4 c5 c6 c7 c8)) Q X ⟨h', g, d, t', o⟩) :
    wpAny (model prog w) A (execs (chosB.drop 2) (lawE L a cd c1 c2 c3 c4 c5 c6 c7 c8)) Q X ⟨h, g, d, t, o⟩ := by
  have lw := iw.length
  rw [List.length_map] at lw
  have lw' : wv.length ≤ 1000 := by omega
  refine wpAny_execs_cons ?_
  repeat walk_at "x1"
  refine r_ListComp (cl := [("ways", c8)]) (by rfl) ?_
  repeat walk_at "x1"
  refine pi_range (n := wv.length) (by assumption) (by walk_at "mem") (by omega) fun I h' D => ?_
  refine compGo_of D (.head _) ⟨_, _, rfl⟩ fun C Dl h' t' D => ?_
  have D := D.sub (N' := (C, .ns []) :: (Dl, .lst []) :: (I, .obj (rgObj ((0 : Nat) : Int) ((wv.length : Nat) : Int))) :: (wb, .lst wv) :: (L, .ns [("meeting", mt), ("largest", lg), ("count", cn)]) :: (c8, .cell (some (.ref wb))) :: T) (by walk_at "subl")
  refine comp20 ⟨wv.length, fun E => ?_⟩
  refine comp_range hh D (P := fun k acc _ => acc.isEmpty = ((List.range k).all fun i => (List.range i).all fun j => decide (ws.getD i 0 &&& ws.getD j 0 = 0)) ∧ acc.length ≤ 6 * k) ⟨rfl, Nat.le_refl _⟩ ?_ ?_
  · rintro k E' acc h t tk Q' hk ⟨pa, pl⟩ D hq
    have hk' : k < ws.length := by omega
    obtain ⟨u, eu⟩ := ints_getDn iw hk'
    refine turn_nil ?_
    refine wp_innerL ?_
    repeat walk_at "x1"
    refine pi_range (n := k) (by assumption) (by walk_at "mem") (by omega) fun I2 h' D => ?_
    intro R hR
    refine cstart1 (D.get (.head _)) ⟨_, _, rfl⟩ ?_
    have D := D.sub (N' := (I2, .obj (rgObj ((0 : Nat) : Int) ((k : Nat) : Int))) :: (C, .ns (("i", .int ((k : Nat) : Int) tk) :: E')) :: (Dl, .lst acc) :: (I, .obj (rgObj ((k + 1 : Nat) : Int) ((wv.length - (k + 1) : Nat) : Int))) :: (wb, .lst wv) :: (L, .ns [("meeting", mt), ("largest", lg), ("count", cn)]) :: (c8, .cell (some (.ref wb))) :: T) (by walk_at "subl")
    refine comp21 ⟨k, fun E2 => ?_⟩
    refine comp_range hh (D.perm (List.perm_middle (l₁ := [(C, _), (Dl, _)]))) (P := fun j acc' E'' => acc'.isEmpty = (acc.isEmpty && (List.range j).all fun j => decide (ws.getD k 0 &&& ws.getD j 0 = 0)) ∧ acc'.length ≤ 6 * k + j ∧ List.lookup ("i" : Str) E'' = some (Value.int ((k : Nat) : Int) tk)) ⟨by simp, by omega, by rfl⟩ ?_ ?_
    · rintro j E'' acc' h t tk2 Q'' hj ⟨pa', pl', pe⟩ D hq'
      have hj' : j < ws.length := by omega
      obtain ⟨u2, eu2⟩ := ints_getDn iw hj'
      refine turn_one ?_
      repeat walk_at "x1"
      refine r_local (v := .int ((k : Nat) : Int) tk) D (.head _) pe ?_
      refine t_list_item (by walk_at "fact") (by omega) (by omega) (by rw [Int.toNat_natCast]; exact eu) ?_
      repeat walk_at "x1"
      refine t_list_item (by walk_at "fact") (by omega) (by omega) (by rw [Int.toNat_natCast]; exact eu2) ?_
      repeat walk_at "x1"
      rw [band_nz]
      refine ite_dec (fun hz => ?_) (fun hz => ?_)
      · repeat walk_at "x1"
        have D := ‹St mg mb h₀ _ _›
        refine (fun hp => hq' _ _ _ _ hp D) ⟨?_, by rw [List.length_append, List.length_singleton]; omega, pe⟩
        rw [all_range_succ, decide_eq_false hz, Bool.and_false, Bool.and_false]; simp
      · repeat walk_at "x1"
        have D := ‹St mg mb h₀ _ _›
        refine (fun hp => hq' _ _ _ _ hp D) ⟨?_, by omega, pe⟩
        rw [all_range_succ, decide_eq_true (Classical.not_not.mp hz), Bool.and_true]; exact pa'
    · rintro acc' E'' h' t' ⟨pa', pl', pe⟩ D
      refine hR _ ?_
      refine hq acc' E'' h' t' ⟨?_, by omega⟩ D
      rw [all_range_succ, ← pa, pa']
  · rintro acc E' h' t' ⟨pa, pl⟩ D
    refine cp_none (C := C) D (by walk_at "mem") (by walk_at "del") fun h' D => ?_
    repeat walk_at "x1"
    refine r_eq_nil (by walk_at "fact") (by walk_at "fact") hu ?_
    rw [pa, lw]
    refine r_st (by assumption) (by walk_at "upd") fun h' t' D => ?_
    exact hQ _ _ (D.sub (by walk_at "subl"))
end
end Mine

end
section
open PySem PySem.Calls PySem.W PyProof.Rows
set_option maxRecDepth 100000
set_option maxHeartbeats 4000000
namespace Mine
local macro_rules | `(tactic| walk_at "mem") => `(tactic| first | exact List.Mem.head _ | (refine List.Mem.tail _ ?_; walk_at "mem"))
local macro_rules | `(tactic| walk_at "upd") => `(tactic| first | exact Upd.head | (apply Upd.tail; walk_at "upd"))
local macro_rules | `(tactic| walk_at "del") => `(tactic| first | exact Del.head | (apply Del.tail; walk_at "del"))
local macro_rules | `(tactic| walk_at "sees") => `(tactic| first | exact Sees.nil | (refine Sees.cons (by rfl) ?_; walk_at "sees"))
local macro_rules | `(tactic| walk_at "subl") => `(tactic| first | exact List.Sublist.slnil | (refine List.Sublist.cons_cons _ ?_; walk_at "subl") | (refine List.Sublist.cons _ ?_; walk_at "subl"))
local macro_rules | `(tactic| walk_at "fact") => `(tactic| first | exact St.get (by assumption) (by walk_at "mem") | exact St.oldf (by assumption) (by assumption) | assumption)
local macro_rules | `(tactic| walk_at "xname") => `(tactic| first
  | refine r_local (by assumption) (by walk_at "mem") (by rfl) ?_
  | refine r_blt (by assumption) (by rfl) ?_
  | refine r_cell (by assumption) (by rfl) (by walk_at "mem") ?_
  | refine r_glob (by assumption) (by first | assumption | exact FnAt.g (by assumption)) ?_)
local macro_rules | `(tactic| walk_at "xconst") => `(tactic| first
  | refine r_int fun _ _ => ?_
  | refine r_str fun _ _ => ?_
  | refine r_bytes fun _ _ => ?_
  | refine wpAny_Constant_bool ?_
  | refine wpAny_Constant_none ?_)
local macro_rules | `(tactic| walk_at "xeval") => `(tactic| first
  | ((with_reducible show wpAny _ _ (eval (Expr.Name _ _) _) _ _ _); walk_at "xname")
  | ((with_reducible show wpAny _ _ (eval (Expr.Constant _ _ _) _) _ _ _); walk_at "xconst")
  | ((with_reducible show wpAny _ _ (eval (Expr.Call (Expr.Attribute _ _ _) _ _ _) _) _ _ _); refine MethodCall_ ?_)
  | ((with_reducible show wpAny _ _ (eval (Expr.Call _ _ _ _) _) _ _ _); refine Call_ ?_)
  | with_reducible refine wpAny_BinOp ?_
  | ((with_reducible show wpAny _ _ (eval (Expr.Compare _ [_] [_] _) _) _ _ _); refine wpAny_Compare1 ?_)
  | ((with_reducible show wpAny _ _ (eval (Expr.Subscript _ _ _) _) _ _ _); refine Subscript_ ?_)
  | ((with_reducible show wpAny _ _ (eval (Expr.Slice none (some _) none _) _) _ _ _); refine e_slice_nu ?_)
  | ((with_reducible show wpAny _ _ (eval (Expr.IfExp _ _ _ _) _) _ _ _); refine wpAny_IfExp ?_)
  | ((with_reducible show wpAny _ _ (eval (Expr.Tuple _ _ _) _) _ _ _); refine Tuple_ ?_)
  | ((with_reducible show wpAny _ _ (eval (Expr.List _ _) _) _ _ _); refine List_ ?_)
  | ((with_reducible show wpAny _ _ (eval (Expr.UnaryOp _ _ _) _) _ _ _); refine wpAny_UnaryOp ?_))
local macro_rules | `(tactic| walk_at "xexec") => `(tactic| first
  | ((with_reducible show wpAny _ _ (exec (Stmt.Assign [Expr.Name _ _] _ _) _) _ _ _); refine wpAny_Assign_Name ?_)
  | ((with_reducible show wpAny _ _ (exec (Stmt.If _ _ _ _) _) _ _ _); refine wpAny_If ?_)
  | ((with_reducible show wpAny _ _ (exec (Stmt.Return (some _) _) _) _ _ _); refine wpAny_Return_some ?_)
  | ((with_reducible show wpAny _ _ (exec (Stmt.Break _) _) _ _ _); refine wpAny_Break ?_)
  | ((with_reducible show wpAny _ _ (exec (Stmt.Expr _ _) _) _ _ _); refine wpAny_Expr ?_)
  | ((with_reducible show wpAny _ _ (exec (Stmt.For _ _ _ _ _) _) _ _ _); refine r_For ?_)
  | ((with_reducible show wpAny _ _ (exec (Stmt.While _ _ _ _) _) _ _ _); refine r_While ?_)
  | ((with_reducible show wpAny _ _ (exec (Stmt.AugAssign (Expr.Name _ _) _ _ _) _) _ _ _); refine wpAny_AugAssign_Name ?_))
local macro_rules | `(tactic| walk_at "xtrue") => `(tactic| first
  | ((with_reducible show wpAny _ _ (isTrue (Expr.Compare _ [_] [_] _) _ _) _ _ _); refine wpAny_isTrue_Compare1 ?_)
  | ((with_reducible show wpAny _ _ (isTrue (Expr.BoolOp _ _ _) _ _) _ _ _); refine wpAny_isTrue_BoolOp ?_)
  | ((with_reducible show wpAny _ _ (isTrue (Expr.UnaryOp UnaryOp.Not _ _) _ _) _ _ _); refine wpAny_isTrue_Not ?_)
  | ((with_reducible show wpAny _ _ (isTrue (Expr.Call _ _ _ _) _ _) _ _ _); refine wpAny_isTrue_value ?_)
  | ((with_reducible show wpAny _ _ (isTrue (Expr.Name _ _) _ _) _ _ _); refine wpAny_isTrue_value ?_))
local macro_rules | `(tactic| walk_at "xcall") => `(tactic| first
  | ((with_reducible show wpAny _ _ (call (Value.type "range") [Value.int _ _]) _ _ _); refine r_range (by assumption) ?_; intro _ _ _ _ _ _)
  | ((with_reducible show wpAny _ _ (call (Value.builtin "list.append") [_, _]) _ _ _); refine r_append (by assumption) (by walk_at "upd") ?_; intro _ _)
  | ((with_reducible show wpAny _ _ (call (Value.builtin "len") [Value.ref _]) _ _ _); refine r_len_list (by walk_at "fact") (by first | assumption | decide | omega) ?_; intro _ _)
  | ((with_reducible show wpAny _ _ (call (Value.type "type") [Value.str _ _]) _ _ _); refine call_type_of (Tx := "str") rfl (by decide) ?_)
  | ((with_reducible show wpAny _ _ (call (Value.type "type") [Value.bytes _ _]) _ _ _); refine call_type_of (Tx := "bytes") rfl (by decide) ?_)
  | ((with_reducible show wpAny _ _ (call (Value.builtin "issubclass") [Value.type "str", _]) _ _ _); refine r_issub_str (by assumption) (by walk_at "mem") ?_)
  | ((with_reducible show wpAny _ _ (call (Value.builtin "issubclass") [Value.type "bytes", _]) _ _ _); refine r_issub_bytes (by assumption) (by walk_at "mem") ?_)
  | ((with_reducible show wpAny _ _ (call (Value.builtin "isinstance") [Value.str _ _, Value.type "bytes"]) _ _ _); refine IsiPair.str_bytes ?_)
  | ((with_reducible show wpAny _ _ (call (Value.builtin "isinstance") [Value.bytes _ _, Value.type "bytes"]) _ _ _); refine call_isinstance_yes (typeIs_bytes _ _ _) F.isi_meta_bytes F.isi_self_bytes ?_))
local macro_rules | `(tactic| walk_at "xop") => `(tactic| first
  | ((with_reducible show wpAny _ _ (binaryOp Operator.Add (Value.int _ _) (Value.int _ _)) _ _ _); refine r_add ?_; intro _ _)
  | ((with_reducible show wpAny _ _ (binaryOp Operator.Sub (Value.int _ _) (Value.int _ _)) _ _ _); refine r_sub ?_; intro _ _)
  | ((with_reducible show wpAny _ _ (binaryOp Operator.Mod (Value.int _ _) (Value.int _ _)) _ _ _); refine r_mod (by decide) ?_; intro _ _)
  | ((with_reducible show wpAny _ _ (binaryOp Operator.Mult (Value.int _ _) (Value.int _ _)) _ _ _); refine r_mul ?_; intro _ _)
  | ((with_reducible show wpAny _ _ (binaryOp Operator.FloorDiv (Value.int _ _) (Value.int _ _)) _ _ _); refine r_fdiv (by decide) (PyProof.noPylong_small (by decide)) ?_; intro _ _)
  | ((with_reducible show wpAny _ _ (binaryOp Operator.BitAnd (Value.int _ _) (Value.int _ _)) _ _ _); refine r_and ?_; intro _ _))
local macro_rules | `(tactic| walk_at "xcmp") => `(tactic| first
  | ((with_reducible show wpAny _ _ (compareOp CmpOp.Eq (Value.int _ _) (Value.int _ _)) _ _ _); refine r_eq ?_)
  | ((with_reducible show wpAny _ _ (compareOp CmpOp.NotEq (Value.int _ _) (Value.int _ _)) _ _ _); refine r_ne ?_)
  | ((with_reducible show wpAny _ _ (compareOp CmpOp.Lt (Value.int _ _) (Value.int _ _)) _ _ _); refine r_lt ?_))
local macro_rules | `(tactic| walk_at "x1") => `(tactic| first
  | ((with_reducible show wpAny _ _ (eval _ _) _ _ _); walk_at "xeval")
  | ((with_reducible show wpAny _ _ (spliced _) _ _ _); first
    | ((with_reducible show wpAny _ _ (spliced (backTo _ (starEach [] _))) _ _ _); refine args_nil ?_; (try simp only [List.nil_append, List.cons_append]))
    | ((with_reducible show wpAny _ _ (spliced (backTo _ (starEach (_ :: _) _))) _ _ _); refine args_cons ?_))
  | ((with_reducible show wpAny _ _ (callWith _ _ _ _ _) _ _ _); first
    | ((with_reducible show wpAny _ _ (callWith _ (Value.builtin _) _ _ _) _ _ _); refine cw_blt ?_)
    | ((with_reducible show wpAny _ _ (callWith _ (Value.ref _) _ _ _) _ _ _); refine cw_fn ?_)
    | ((with_reducible show wpAny _ _ (callWith _ (Value.type _) _ _ _) _ _ _); refine cw_type ?_))
  | ((with_reducible show wpAny _ _ (execs _ _) _ _ _); first
    | ((with_reducible show wpAny _ _ (execs (_ :: _) _) _ _ _); refine wpAny_execs_cons ?_)
    | ((with_reducible show wpAny _ _ (execs [] _) _ _ _); refine wpAny_execs_nil ?_))
  | ((with_reducible show wpAny _ _ (exec _ _) _ _ _); walk_at "xexec")
  | ((with_reducible show wpAny _ _ (storeName _ _ _) _ _ _); first | (refine r_st (by assumption) (by walk_at "upd") ?_; intro _ _ _) | (refine r_stc (by assumption) (by rfl) (by walk_at "upd") ?_; intro _ _ _))
  | ((with_reducible show wpAny _ _ (isTrue _ _ _) _ _ _); walk_at "xtrue")
  | ((with_reducible show wpAny _ _ (truthy (Value.bool _)) _ _ _); refine wpAny_truthy_bool ?_)
  | ((with_reducible show wpAny _ _ (call _ _ _) _ _ _); walk_at "xcall")
  | ((with_reducible show wpAny _ _ (binaryOp _ _ _) _ _ _); walk_at "xop")
  | ((with_reducible show wpAny _ _ (compareOp _ _ _) _ _ _); walk_at "xcmp")
  | ((with_reducible show wpAny _ _ (subscriptTail _ _ (Value.ref _) (Value.int _ _)) _ _ _); refine t_list_item (by walk_at "fact") (by decide) (by decide) (by rfl) ?_)
  | ((with_reducible show wpAny _ _ (inplaceOp Operator.Add (Value.int _ _) (Value.int _ _)) _ _ _); refine r_iadd ?_; intro _ _)
  | ((with_reducible show wpAny _ _ (loadName _ _) _ _ _); first
    | refine r_localN (by assumption) (by walk_at "mem") (by rfl) ?_
    | refine r_cellN (by assumption) (by rfl) (by walk_at "mem") ?_)
  | ((with_reducible show wpAny _ _ (forIn [] _ _) _ _ _); refine wpAny_tests_nil ?_)
  | ((with_reducible show wpAny _ _ (forIn [_] _ _) _ _ _); refine wpAny_tests_one ?_)
  | ((with_reducible show wpAny _ _ (emitL _ _ _) _ _ _); refine wp_emitL ?_)
  | ((with_reducible show wpAny _ _ (emitS _ _ _) _ _ _); refine wp_emitS ?_)
  | ((with_reducible show wpAny _ _ (assign (Expr.Name _ _) _ _) _ _ _); refine wpAny_assign_Name ?_)
  | ((with_reducible show wpAny _ _ (getMethod (Value.ref _) _ _) _ _ _); (with_reducible refine gm_append ?_ ?_); (· exact ⟨_, by walk_at "fact"⟩))
  | ((with_reducible show wpAny _ _ (letOwnedTupleGo (Expr.Name _ _) _ _) _ _ _); refine wpAny_pure ?_)
  | ((with_reducible show wpAny _ _ (newTuple _) _ _ _); refine r_newTuple (by assumption) ?_; intro _ _ _)
  | ((with_reducible show wpAny _ _ (newList _) _ _ _); refine r_newList (by assumption) ?_; intro _ _ _)
  | ((with_reducible show wpAny _ _ (newFields "slice" [_, _, Value.none]) _ _ _); refine r_newSlice (by assumption) ?_; intro _ _ _)
  | ((with_reducible show wpAny _ _ (allTrue _ _ _) _ _ _); first
    | ((with_reducible show wpAny _ _ (allTrue BoolOp.And (_ :: _) _) _ _ _); refine wpAny_allTrue_And_cons ?_)
    | ((with_reducible show wpAny _ _ (allTrue BoolOp.Or (_ :: _) _) _ _ _); refine wpAny_allTrue_Or_cons ?_)
    | refine wpAny_allTrue_And_nil ?_ | refine wpAny_allTrue_Or_nil ?_)
  | ((with_reducible show ite _ _ _); (first | rw [if_pos rfl] | rw [if_neg Bool.false_ne_true])))
local macro_rules | `(tactic| walk_at "subl") => `(tactic| with_reducible exact List.Sublist.refl _)
local macro_rules | `(tactic| walk_at "x1") => `(tactic| first
  | ((with_reducible show wpAny _ _ (binaryOp Operator.RShift (Value.int _ _) (Value.int _ _)) _ _ _); refine r_rshift (by omega) ?_; intro _ _)
  | ((with_reducible show wpAny _ _ (unaryOp UnaryOp.USub (Value.int _ _)) _ _ _); refine r_neg ?_; intro _ _)
  | ((with_reducible show wpAny _ _ (compareOp CmpOp.Is (Value.ref _) Value.none) _ _ _); refine is_ref_none ?_)
  | ((with_reducible show wpAny _ _ (getMethod (Value.ref _) "index" _) _ _ _); (with_reducible refine gm_index ?_ ?_); (· exact ⟨_, by walk_at "fact"⟩))
  | ((with_reducible show wpAny _ _ (eval (Expr.BoolOp BoolOp.And (_ :: _ :: _) _) _) _ _ _); refine BoolOp_and ?_)
  | ((with_reducible show wpAny _ _ (eval (Expr.BoolOp BoolOp.And [_] _) _) _ _ _); refine BoolOp_one ?_))
def comF (ws : List Nat) : Nat := ws.foldl (fun x y => x &&& y) (ws.getD 0 0)
section
variable {prog : Program} {w : World} {A : Around} {X : Value → Shared → Prop} {g : Array GenState} {d : Drawn} {t : Nat} {o : OsState} {mg mb : Str → Option Value} {h₀ h : Heap} {N N' N'' T : List (Addr × Fact)} {env : Env}
  {L a c1 c2 c3 c4 c5 c6 c7 c8 : Addr} {cd : Value}
theorem ch_d {wb : Addr} {wv : List Value} {ap mt lg cn : Value} {ws : List Nat} {Q : Flow → Shared → Prop} (hh : A.handled = none) (h1 : 1 ≤ ws.length)
    (iw : IntsAre wv (ws.map fun x => ((x : Nat) : Int)))
    (D : St mg mb h₀ ((wb, .lst wv) :: (L, .ns [("apart", ap), ("meeting", mt), ("largest", lg), ("count", cn)]) :: (c8, .cell (some (.ref wb))) :: T) h)
    (hQ : ∀ tc h' t', St mg mb h₀ ((wb, .lst wv) :: (L, .ns [("common", .int ((comF ws : Nat) : Int) tc), ("apart", ap), ("meeting", mt), ("largest", lg), ("count", cn)]) :: (c8, .cell (some (.ref wb))) :: T) h' →
      wpAny (model prog w) A (execs (chosB.drop 5) (lawE L a cd c1 c2 c3 c4 c5 c6 c7 c8)) Q X ⟨h', g, d, t', o⟩) :
    wpAny (model prog w) A (execs (chosB.drop 3) (lawE L a cd c1 c2 c3 c4 c5 c6 c7 c8)) Q X ⟨h, g, d, t, o⟩ := by
  have lw := iw.length
  rw [List.length_map] at lw
  obtain ⟨u0, e0⟩ := ints_getDn iw (k := 0) (by omega)
  refine wpAny_execs_cons ?_
  repeat ((fail_if_success (with_reducible show wpAny _ _ (subscriptTail _ _ _ _) _ _ _)); walk_at "x1")
  refine t_list_item (by walk_at "fact") (by omega) (by omega) e0 ?_
  repeat walk_at "x1"
  refine pi_list (xs := wv) (by assumption) (by walk_at "fact") fun I h' D => ?_
  refine ⟨ws.length, fun E => ?_⟩
  have D := D.see (E' := [("common", .int ((ws.getD 0 0 : Nat) : Int) u0), ("apart", ap), ("meeting", mt), ("largest", lg), ("count", cn)]) (by walk_at "upd") (by walk_at "sees")
  refine (fun (key : ∀ (r j cv tc : Nat) (h' : Heap) (t' : Nat), St mg mb h₀ ((I, .li wb j) :: (wb, .lst wv) :: (L, .ns [("common", .int ((cv : Nat) : Int) tc), ("apart", ap), ("meeting", mt), ("largest", lg), ("count", cn)]) :: (c8, .cell (some (.ref wb))) :: T) h' →
      j + r = ws.length → (ws.drop j).foldl (fun x y => x &&& y) cv = comF ws → ForT prog w _ E _ _ _ _ _ _ r ⟨h', g, d, t', o⟩) => key ws.length 0 _ _ h' _ D (Nat.zero_add _) rfl) ?_
  intro r
  induction r with
  | zero =>
    intro j cv tc h' t' D hj hc
    refine pn_list_end hh D (by walk_at "mem") (by walk_at "fact") (by omega) (by walk_at "del") fun h' D => ?_
    show wpAny _ _ (execs [] _) _ _ _
    refine wpAny_execs_nil ?_
    rw [List.drop_eq_nil_of_le (by omega), List.foldl_nil] at hc
    rw [← hc] at hQ
    exact hQ tc h' _ D
  | succ r ih =>
    intro j cv tc h' t' D hj hc
    have hj1 : j < ws.length := by omega
    obtain ⟨u, eu⟩ := ints_at iw hj1
    rw [List.drop_eq_getElem_cons hj1, List.foldl_cons] at hc
    refine pn_list D (by walk_at "upd") (by walk_at "fact") eu fun h' D => ?_
    show wpAny _ _ (letOwnedTupleGo _ _ _) _ _ _
    repeat ((fail_if_success (with_reducible show wpAny _ _ (binaryOp _ _ _) _ _ _)); walk_at "x1")
    refine r_and fun _ _ => ?_
    rw [band_nat]
    repeat walk_at "x1"
    show ForT _ _ _ _ _ _ _ _ _ _ _ _
    have D := ‹St mg mb h₀ _ _›
    exact ih (j + 1) _ _ _ _ (D.see (by walk_at "upd") (by walk_at "sees")) (by omega) hc
theorem ch_e {wb : Addr} {wv : List Value} {cn : Value} {lg tl tc : Nat} {ws : List Nat} {Q : Flow → Shared → Prop} (hh : A.handled = none) (h6 : ws.length ≤ 6)
    (lw : wv.length = ws.length) (hm : crossB ws = true → comF ws ≠ 0)
    (D : St mg mb h₀ ((wb, .lst wv) :: (L, .ns [("common", .int ((comF ws : Nat) : Int) tc), ("apart", .bool (apartB ws)), ("meeting", .bool (crossB ws)), ("largest", .int ((lg : Nat) : Int) tl), ("count", cn)]) :: (c8, .cell (some (.ref wb))) :: T) h)
    (hQ : ∀ tl' h' t', St mg mb h₀ ((L, .ns [("largest", .int (((if apartB ws = true then max lg ws.length else lg) : Nat) : Int) tl'), ("count", cn)]) :: (c8, .cell (some (.ref wb))) :: T) h' → Q .next ⟨h', g, d, t', o⟩) :
    wpAny (model prog w) A (execs (chosB.drop 5) (lawE L a cd c1 c2 c3 c4 c5 c6 c7 c8)) Q X ⟨h, g, d, t, o⟩ := by
  have lw' : wv.length ≤ 1000 := by omega
  refine wpAny_execs_cons ?_
  refine wpAny_mono (Q := fun f' s' => f' = .next ∧ ∃ h' t', s' = ⟨h', g, d, t', o⟩ ∧ St mg mb h₀ ((wb, .lst wv) :: (L, .ns [("common", .int ((comF ws : Nat) : Int) tc), ("apart", .bool (apartB ws)), ("meeting", .bool (crossB ws)), ("largest", .int ((lg : Nat) : Int) tl), ("count", cn)]) :: (c8, .cell (some (.ref wb))) :: T) h') ?_ ?_ (fun _ _ e => e)
  · repeat walk_at "x1"
    by_cases hc : crossB ws = true
    · rw [if_pos hc]
      repeat walk_at "x1"
      refine ite_dec (fun hz => absurd hz (by have := hm hc; omega)) (fun _ => ?_)
      repeat walk_at "x1"
      exact ⟨rfl, _, _, rfl, by assumption⟩
    · rw [if_neg hc]
      repeat walk_at "x1"
      exact ⟨rfl, _, _, rfl, by assumption⟩
  · rintro f' s' ⟨rfl, h', t', rfl, D⟩
    show wpAny _ _ (execs _ _) _ _ _
    refine wpAny_execs_cons ?_
    repeat walk_at "x1"
    by_cases hc : apartB ws = true
    · rw [if_pos hc] at hQ ⊢
      repeat walk_at "x1"
      refine r_max2 hh (by assumption) fun h' t' _ D => ?_
      repeat ((fail_if_success (with_reducible show wpAny _ _ (storeName _ _ _) _ _ _)); walk_at "x1")
      rw [show max ((lg : Nat) : Int) ((wv.length : Nat) : Int) = ((max lg ws.length : Nat) : Int) by omega]
      repeat walk_at "x1"
      have D := ‹St mg mb h₀ _ _›
      have D := (D.sub (N' := (L, _) :: (c8, _) :: T) (by walk_at "subl")).see (E' := [("largest", .int ((max lg ws.length : Nat) : Int) _), ("count", cn)]) (by walk_at "upd") (by walk_at "sees")
      exact hQ _ _ _ D
    · rw [if_neg hc] at hQ ⊢
      repeat walk_at "x1"
      have D := (D.sub (N' := (L, _) :: (c8, _) :: T) (by walk_at "subl")).see (E' := [("largest", .int ((lg : Nat) : Int) _), ("count", cn)]) (by walk_at "upd") (by walk_at "sees")
      exact hQ _ _ _ D
end
end Mine

end
section
open PySem PySem.Calls PySem.W PyProof.Rows
set_option maxRecDepth 100000
set_option maxHeartbeats 4000000
namespace Mine
local macro_rules | `(tactic| walk_at "mem") => `(tactic| first | exact List.Mem.head _ | (refine List.Mem.tail _ ?_; walk_at "mem"))
local macro_rules | `(tactic| walk_at "upd") => `(tactic| first | exact Upd.head | (apply Upd.tail; walk_at "upd"))
local macro_rules | `(tactic| walk_at "del") => `(tactic| first | exact Del.head | (apply Del.tail; walk_at "del"))
local macro_rules | `(tactic| walk_at "sees") => `(tactic| first | exact Sees.nil | (refine Sees.cons (by rfl) ?_; walk_at "sees"))
local macro_rules | `(tactic| walk_at "subl") => `(tactic| first | exact List.Sublist.slnil | (refine List.Sublist.cons_cons _ ?_; walk_at "subl") | (refine List.Sublist.cons _ ?_; walk_at "subl"))
local macro_rules | `(tactic| walk_at "fact") => `(tactic| first | exact St.get (by assumption) (by walk_at "mem") | exact St.oldf (by assumption) (by assumption) | assumption)
local macro_rules | `(tactic| walk_at "xname") => `(tactic| first
  | refine r_local (by assumption) (by walk_at "mem") (by rfl) ?_
  | refine r_blt (by assumption) (by rfl) ?_
  | refine r_cell (by assumption) (by rfl) (by walk_at "mem") ?_
  | refine r_glob (by assumption) (by first | assumption | exact FnAt.g (by assumption)) ?_)
local macro_rules | `(tactic| walk_at "xconst") => `(tactic| first
  | refine r_int fun _ _ => ?_
  | refine r_str fun _ _ => ?_
  | refine r_bytes fun _ _ => ?_
  | refine wpAny_Constant_bool ?_
  | refine wpAny_Constant_none ?_)
local macro_rules | `(tactic| walk_at "xeval") => `(tactic| first
  | ((with_reducible show wpAny _ _ (eval (Expr.Name _ _) _) _ _ _); walk_at "xname")
  | ((with_reducible show wpAny _ _ (eval (Expr.Constant _ _ _) _) _ _ _); walk_at "xconst")
  | ((with_reducible show wpAny _ _ (eval (Expr.Call (Expr.Attribute _ _ _) _ _ _) _) _ _ _); refine MethodCall_ ?_)
  | ((with_reducible show wpAny _ _ (eval (Expr.Call _ _ _ _) _) _ _ _); refine Call_ ?_)
  | with_reducible refine wpAny_BinOp ?_
  | ((with_reducible show wpAny _ _ (eval (Expr.Compare _ [_] [_] _) _) _ _ _); refine wpAny_Compare1 ?_)
  | ((with_reducible show wpAny _ _ (eval (Expr.Subscript _ _ _) _) _ _ _); refine Subscript_ ?_)
  | ((with_reducible show wpAny _ _ (eval (Expr.Slice none (some _) none _) _) _ _ _); refine e_slice_nu ?_)
  | ((with_reducible show wpAny _ _ (eval (Expr.IfExp _ _ _ _) _) _ _ _); refine wpAny_IfExp ?_)
  | ((with_reducible show wpAny _ _ (eval (Expr.Tuple _ _ _) _) _ _ _); refine Tuple_ ?_)
  | ((with_reducible show wpAny _ _ (eval (Expr.List _ _) _) _ _ _); refine List_ ?_)
  | ((with_reducible show wpAny _ _ (eval (Expr.UnaryOp _ _ _) _) _ _ _); refine wpAny_UnaryOp ?_))
local macro_rules | `(tactic| walk_at "xexec") => `(tactic| first
  | ((with_reducible show wpAny _ _ (exec (Stmt.Assign [Expr.Name _ _] _ _) _) _ _ _); refine wpAny_Assign_Name ?_)
  | ((with_reducible show wpAny _ _ (exec (Stmt.If _ _ _ _) _) _ _ _); refine wpAny_If ?_)
  | ((with_reducible show wpAny _ _ (exec (Stmt.Return (some _) _) _) _ _ _); refine wpAny_Return_some ?_)
  | ((with_reducible show wpAny _ _ (exec (Stmt.Break _) _) _ _ _); refine wpAny_Break ?_)
  | ((with_reducible show wpAny _ _ (exec (Stmt.Expr _ _) _) _ _ _); refine wpAny_Expr ?_)
  | ((with_reducible show wpAny _ _ (exec (Stmt.For _ _ _ _ _) _) _ _ _); refine r_For ?_)
  | ((with_reducible show wpAny _ _ (exec (Stmt.While _ _ _ _) _) _ _ _); refine r_While ?_)
  | ((with_reducible show wpAny _ _ (exec (Stmt.AugAssign (Expr.Name _ _) _ _ _) _) _ _ _); refine wpAny_AugAssign_Name ?_))
local macro_rules | `(tactic| walk_at "xtrue") => `(tactic| first
  | ((with_reducible show wpAny _ _ (isTrue (Expr.Compare _ [_] [_] _) _ _) _ _ _); refine wpAny_isTrue_Compare1 ?_)
  | ((with_reducible show wpAny _ _ (isTrue (Expr.BoolOp _ _ _) _ _) _ _ _); refine wpAny_isTrue_BoolOp ?_)
  | ((with_reducible show wpAny _ _ (isTrue (Expr.UnaryOp UnaryOp.Not _ _) _ _) _ _ _); refine wpAny_isTrue_Not ?_)
  | ((with_reducible show wpAny _ _ (isTrue (Expr.Call _ _ _ _) _ _) _ _ _); refine wpAny_isTrue_value ?_)
  | ((with_reducible show wpAny _ _ (isTrue (Expr.Name _ _) _ _) _ _ _); refine wpAny_isTrue_value ?_))
local macro_rules | `(tactic| walk_at "xcall") => `(tactic| first
  | ((with_reducible show wpAny _ _ (call (Value.type "range") [Value.int _ _]) _ _ _); refine r_range (by assumption) ?_; intro _ _ _ _ _ _)
  | ((with_reducible show wpAny _ _ (call (Value.builtin "list.append") [_, _]) _ _ _); refine r_append (by assumption) (by walk_at "upd") ?_; intro _ _)
  | ((with_reducible show wpAny _ _ (call (Value.builtin "len") [Value.ref _]) _ _ _); refine r_len_list (by walk_at "fact") (by first | assumption | decide | omega) ?_; intro _ _)
  | ((with_reducible show wpAny _ _ (call (Value.type "type") [Value.str _ _]) _ _ _); refine call_type_of (Tx := "str") rfl (by decide) ?_)
  | ((with_reducible show wpAny _ _ (call (Value.type "type") [Value.bytes _ _]) _ _ _); refine call_type_of (Tx := "bytes") rfl (by decide) ?_)
  | ((with_reducible show wpAny _ _ (call (Value.builtin "issubclass") [Value.type "str", _]) _ _ _); refine r_issub_str (by assumption) (by walk_at "mem") ?_)
  | ((with_reducible show wpAny _ _ (call (Value.builtin "issubclass") [Value.type "bytes", _]) _ _ _); refine r_issub_bytes (by assumption) (by walk_at "mem") ?_)
  | ((with_reducible show wpAny _ _ (call (Value.builtin "isinstance") [Value.str _ _, Value.type "bytes"]) _ _ _); refine IsiPair.str_bytes ?_)
  | ((with_reducible show wpAny _ _ (call (Value.builtin "isinstance") [Value.bytes _ _, Value.type "bytes"]) _ _ _); refine call_isinstance_yes (typeIs_bytes _ _ _) F.isi_meta_bytes F.isi_self_bytes ?_))
local macro_rules | `(tactic| walk_at "xop") => `(tactic| first
  | ((with_reducible show wpAny _ _ (binaryOp Operator.Add (Value.int _ _) (Value.int _ _)) _ _ _); refine r_add ?_; intro _ _)
  | ((with_reducible show wpAny _ _ (binaryOp Operator.Sub (Value.int _ _) (Value.int _ _)) _ _ _); refine r_sub ?_; intro _ _)
  | ((with_reducible show wpAny _ _ (binaryOp Operator.Mod (Value.int _ _) (Value.int _ _)) _ _ _); refine r_mod (by decide) ?_; intro _ _)
  | ((with_reducible show wpAny _ _ (binaryOp Operator.Mult (Value.int _ _) (Value.int _ _)) _ _ _); refine r_mul ?_; intro _ _)
  | ((with_reducible show wpAny _ _ (binaryOp Operator.FloorDiv (Value.int _ _) (Value.int _ _)) _ _ _); refine r_fdiv (by decide) (PyProof.noPylong_small (by decide)) ?_; intro _ _)
  | ((with_reducible show wpAny _ _ (binaryOp Operator.BitAnd (Value.int _ _) (Value.int _ _)) _ _ _); refine r_and ?_; intro _ _))
local macro_rules | `(tactic| walk_at "xcmp") => `(tactic| first
  | ((with_reducible show wpAny _ _ (compareOp CmpOp.Eq (Value.int _ _) (Value.int _ _)) _ _ _); refine r_eq ?_)
  | ((with_reducible show wpAny _ _ (compareOp CmpOp.NotEq (Value.int _ _) (Value.int _ _)) _ _ _); refine r_ne ?_)
  | ((with_reducible show wpAny _ _ (compareOp CmpOp.Lt (Value.int _ _) (Value.int _ _)) _ _ _); refine r_lt ?_))
local macro_rules | `(tactic| walk_at "x1") => `(tactic| first
  | ((with_reducible show wpAny _ _ (eval _ _) _ _ _); walk_at "xeval")
  | ((with_reducible show wpAny _ _ (spliced _) _ _ _); first
    | ((with_reducible show wpAny _ _ (spliced (backTo _ (starEach [] _))) _ _ _); refine args_nil ?_; (try simp only [List.nil_append, List.cons_append]))
    | ((with_reducible show wpAny _ _ (spliced (backTo _ (starEach (_ :: _) _))) _ _ _); refine args_cons ?_))
  | ((with_reducible show wpAny _ _ (callWith _ _ _ _ _) _ _ _); first
    | ((with_reducible show wpAny _ _ (callWith _ (Value.builtin _) _ _ _) _ _ _); refine cw_blt ?_)
    | ((with_reducible show wpAny _ _ (callWith _ (Value.ref _) _ _ _) _ _ _); refine cw_fn ?_)
    | ((with_reducible show wpAny _ _ (callWith _ (Value.type _) _ _ _) _ _ _); refine cw_type ?_))
  | ((with_reducible show wpAny _ _ (execs _ _) _ _ _); first
    | ((with_reducible show wpAny _ _ (execs (_ :: _) _) _ _ _); refine wpAny_execs_cons ?_)
    | ((with_reducible show wpAny _ _ (execs [] _) _ _ _); refine wpAny_execs_nil ?_))
  | ((with_reducible show wpAny _ _ (exec _ _) _ _ _); walk_at "xexec")
  | ((with_reducible show wpAny _ _ (storeName _ _ _) _ _ _); first | (refine r_st (by assumption) (by walk_at "upd") ?_; intro _ _ _) | (refine r_stc (by assumption) (by rfl) (by walk_at "upd") ?_; intro _ _ _))
  | ((with_reducible show wpAny _ _ (isTrue _ _ _) _ _ _); walk_at "xtrue")
  | ((with_reducible show wpAny _ _ (truthy (Value.bool _)) _ _ _); refine wpAny_truthy_bool ?_)
  | ((with_reducible show wpAny _ _ (call _ _ _) _ _ _); walk_at "xcall")
  | ((with_reducible show wpAny _ _ (binaryOp _ _ _) _ _ _); walk_at "xop")
  | ((with_reducible show wpAny _ _ (compareOp _ _ _) _ _ _); walk_at "xcmp")
  | ((with_reducible show wpAny _ _ (subscriptTail _ _ (Value.ref _) (Value.int _ _)) _ _ _); refine t_list_item (by walk_at "fact") (by decide) (by decide) (by rfl) ?_)
  | ((with_reducible show wpAny _ _ (inplaceOp Operator.Add (Value.int _ _) (Value.int _ _)) _ _ _); refine r_iadd ?_; intro _ _)
  | ((with_reducible show wpAny _ _ (loadName _ _) _ _ _); first
    | refine r_localN (by assumption) (by walk_at "mem") (by rfl) ?_
    | refine r_cellN (by assumption) (by rfl) (by walk_at "mem") ?_)
  | ((with_reducible show wpAny _ _ (forIn [] _ _) _ _ _); refine wpAny_tests_nil ?_)
  | ((with_reducible show wpAny _ _ (forIn [_] _ _) _ _ _); refine wpAny_tests_one ?_)
  | ((with_reducible show wpAny _ _ (emitL _ _ _) _ _ _); refine wp_emitL ?_)
  | ((with_reducible show wpAny _ _ (emitS _ _ _) _ _ _); refine wp_emitS ?_)
  | ((with_reducible show wpAny _ _ (assign (Expr.Name _ _) _ _) _ _ _); refine wpAny_assign_Name ?_)
  | ((with_reducible show wpAny _ _ (getMethod (Value.ref _) _ _) _ _ _); (with_reducible refine gm_append ?_ ?_); (· exact ⟨_, by walk_at "fact"⟩))
  | ((with_reducible show wpAny _ _ (letOwnedTupleGo (Expr.Name _ _) _ _) _ _ _); refine wpAny_pure ?_)
  | ((with_reducible show wpAny _ _ (newTuple _) _ _ _); refine r_newTuple (by assumption) ?_; intro _ _ _)
  | ((with_reducible show wpAny _ _ (newList _) _ _ _); refine r_newList (by assumption) ?_; intro _ _ _)
  | ((with_reducible show wpAny _ _ (newFields "slice" [_, _, Value.none]) _ _ _); refine r_newSlice (by assumption) ?_; intro _ _ _)
  | ((with_reducible show wpAny _ _ (allTrue _ _ _) _ _ _); first
    | ((with_reducible show wpAny _ _ (allTrue BoolOp.And (_ :: _) _) _ _ _); refine wpAny_allTrue_And_cons ?_)
    | ((with_reducible show wpAny _ _ (allTrue BoolOp.Or (_ :: _) _) _ _ _); refine wpAny_allTrue_Or_cons ?_)
    | refine wpAny_allTrue_And_nil ?_ | refine wpAny_allTrue_Or_nil ?_)
  | ((with_reducible show ite _ _ _); (first | rw [if_pos rfl] | rw [if_neg Bool.false_ne_true])))
local macro_rules | `(tactic| walk_at "subl") => `(tactic| with_reducible exact List.Sublist.refl _)
local macro_rules | `(tactic| walk_at "x1") => `(tactic| first
  | ((with_reducible show wpAny _ _ (binaryOp Operator.RShift (Value.int _ _) (Value.int _ _)) _ _ _); refine r_rshift (by omega) ?_; intro _ _)
  | ((with_reducible show wpAny _ _ (unaryOp UnaryOp.USub (Value.int _ _)) _ _ _); refine r_neg ?_; intro _ _)
  | ((with_reducible show wpAny _ _ (compareOp CmpOp.Is (Value.ref _) Value.none) _ _ _); refine is_ref_none ?_)
  | ((with_reducible show wpAny _ _ (getMethod (Value.ref _) "index" _) _ _ _); (with_reducible refine gm_index ?_ ?_); (· exact ⟨_, by walk_at "fact"⟩))
  | ((with_reducible show wpAny _ _ (eval (Expr.BoolOp BoolOp.And (_ :: _ :: _) _) _) _ _ _); refine BoolOp_and ?_)
  | ((with_reducible show wpAny _ _ (eval (Expr.BoolOp BoolOp.And [_] _) _) _ _ _); refine BoolOp_one ?_))
section
variable {prog : Program} {w : World} {A : Around} {X : Value → Shared → Prop} {g : Array GenState} {d : Drawn} {t : Nat} {o : OsState} {mg mb : Str → Option Value} {h₀ h : Heap} {N N' N'' T : List (Addr × Fact)} {env : Env}
  {L a c1 c2 c3 c4 c5 c6 c7 c8 : Addr} {cd : Value}
theorem loop13 {ma kb : Addr} {mv kv : List Value} {n tn tl K : Nat} {v6 : Value} {mk : Nat → Nat} {Q : Flow → Shared → Prop} (hh : A.handled = none) (hu : A.units < cLine) (h6 : n ≤ 6)
    (im : IntsAre mv ((List.range n).map fun i => ((mk i : Nat) : Int)))
    (hne : ∀ c, 1 ≤ c → c < 2 ^ n → 1 ≤ (sel c n).length) (hcross : ∀ c, 1 ≤ c → c < 2 ^ n → crossB ((sel c n).map mk) = true → comF ((sel c n).map mk) ≠ 0)
    (happ : ∀ c, apartB ((sel c n).map mk) = true → (sel c n).length ≤ K) (hex : ∃ c, 1 ≤ c ∧ c < 2 ^ n ∧ apartB ((sel c n).map mk) = true ∧ (sel c n).length = K)
    (D : St mg mb h₀ [(kb, .lst kv), (ma, .lst mv), (c4, .cell (some (.ref ma))), (L, .ns [("largest", .int ((0 : Nat) : Int) tl), ("count", .int ((n : Nat) : Int) tn)]), (c8, .cell none), (c7, .cell none), (c6, .cell (some v6)), (c5, .cell (some (.ref kb)))] h)
    (hQ : ∀ tl' h' t', St mg mb h₀ [(L, .ns [("largest", .int ((K : Nat) : Int) tl'), ("count", .int ((n : Nat) : Int) tn)]), (ma, .lst mv), (c4, .cell (some (.ref ma))), (kb, .lst kv), (c5, .cell (some (.ref kb)))] h' →
      wpAny (model prog w) A (execs ((fBody 20).drop 14) (lawE L a cd c1 c2 c3 c4 c5 c6 c7 c8)) Q X ⟨h', g, d, t', o⟩) :
    wpAny (model prog w) A (execs ((fBody 20).drop 13) (lawE L a cd c1 c2 c3 c4 c5 c6 c7 c8)) Q X ⟨h, g, d, t, o⟩ := by
  have hp1 : 1 ≤ 2 ^ n := Nat.one_le_two_pow
  have hp64 : 2 ^ n ≤ 64 := Nat.le_trans (Nat.pow_le_pow_right (by decide) h6) (by decide)
  refine wpAny_execs_cons ?_
  repeat walk_at "x1"
  refine r_pow (by omega) (by omega) (by decide) fun _ _ => ?_
  rw [pow_nat]
  repeat walk_at "x1"
  refine r_range2 (by assumption) fun ra y h' t' D => ?_
  refine pi_range2 (m := 1) (n := 2 ^ n) D (by walk_at "mem") hp1 (by omega) fun I h' D => ?_
  have D := D.sub (N' := [(I, .obj (rgObj ((1 : Nat) : Int) ((2 ^ n - 1 : Nat) : Int))), (kb, .lst kv), (ma, .lst mv), (c4, .cell (some (.ref ma))), (L, .ns [("largest", .int ((0 : Nat) : Int) tl), ("count", .int ((n : Nat) : Int) tn)]), (c8, .cell none), (c7, .cell none), (c5, .cell (some (.ref kb)))]) (by walk_at "subl")
  have D := D.perm (N' := [(I, .obj (rgObj ((1 : Nat) : Int) ((2 ^ n - 1 : Nat) : Int))), (L, .ns [("largest", .int ((0 : Nat) : Int) tl), ("count", .int ((n : Nat) : Int) tn)]), (c8, .cell none), (c7, .cell none), (ma, .lst mv), (c4, .cell (some (.ref ma))), (kb, .lst kv), (c5, .cell (some (.ref kb)))]) (by
    refine List.Perm.cons _ ?_
    have p1 := (List.perm_append_comm (l₁ := [(L, Fact.ns [("largest", .int ((0 : Nat) : Int) tl), ("count", .int ((n : Nat) : Int) tn)]), (c8, Fact.cell none), (c7, Fact.cell none), (ma, Fact.lst mv), (c4, Fact.cell (some (.ref ma)))]) (l₂ := [(kb, Fact.lst kv)])).append_right [(c5, Fact.cell (some (.ref kb)))]
    refine p1.trans ?_
    refine List.Perm.cons _ ?_
    exact (List.perm_append_comm (l₁ := [(L, Fact.ns [("largest", .int ((0 : Nat) : Int) tl), ("count", .int ((n : Nat) : Int) tn)]), (c8, Fact.cell none), (c7, Fact.cell none)]) (l₂ := [(ma, Fact.lst mv), (c4, Fact.cell (some (.ref ma)))])).append_right [(c5, Fact.cell (some (.ref kb)))])
  refine ⟨2 ^ n - 1, fun E => ?_⟩
  refine (fun (key : ∀ (r c lg tl : Nat) (v8 v7 : Option Value) (h' : Heap) (t' : Nat), St mg mb h₀ [(I, .obj (rgObj ((c : Nat) : Int) ((r : Nat) : Int))), (L, .ns [("largest", .int ((lg : Nat) : Int) tl), ("count", .int ((n : Nat) : Int) tn)]), (c8, .cell v8), (c7, .cell v7), (ma, .lst mv), (c4, .cell (some (.ref ma))), (kb, .lst kv), (c5, .cell (some (.ref kb)))] h' →
      1 ≤ c → c + r = 2 ^ n → lg ≤ K → (∀ c', 1 ≤ c' → c' < c → apartB ((sel c' n).map mk) = true → (sel c' n).length ≤ lg) → ForT prog w _ E _ _ _ _ _ _ r ⟨h', g, d, t', o⟩) => key (2 ^ n - 1) 1 0 tl none none h' _ D (Nat.le_refl 1) (by omega) (Nat.zero_le _) (fun c' a1 a2 => by omega)) ?_
  intro r
  induction r with
  | zero =>
    intro c lg tl v8 v7 h' t' D h1c hc hlg hall
    refine pn_range_end hh D (by walk_at "mem") (by walk_at "del") fun h' D => ?_
    show wpAny _ _ (execs [] _) _ _ _
    refine wpAny_execs_nil ?_
    obtain ⟨cx, x1, x2, x3, x4⟩ := hex
    have := hall cx x1 (by omega) x3
    have e : lg = K := by omega
    rw [e] at D
    exact hQ tl h' _ (D.sub (by walk_at "subl"))
  | succ r ih =>
    intro c lg tl v8 v7 h' t' D h1c hc hlg hall
    have hcn : c < 2 ^ n := by omega
    refine pn_range D .head fun h' t' tk D => ?_
    show wpAny _ _ (letOwnedTupleGo _ _ _) _ _ _
    repeat ((fail_if_success (with_reducible show wpAny _ _ (execs _ _) _ _ _)); walk_at "x1")
    have D := ‹St mg mb h₀ _ _›
    have D := D.perm (List.perm_middle (l₁ := [(L, _), (c8, _), (c7, _), (ma, _), (c4, _)]))
    show wpAny _ _ (execs chosB _) _ _ _
    have ls := sel_len c n
    have lsm : ((sel c n).map mk).length = (sel c n).length := List.length_map _
    refine ch_a hh h6 im D fun wb wv h' t' iw D => ?_
    have lw := iw.length
    rw [List.length_map] at lw
    refine ch_b hh hu (by omega) iw D fun h' t' D => ?_
    refine ch_c hh hu (by omega) iw D fun h' t' D => ?_
    refine ch_d hh (by rw [lsm]; exact hne c h1c hcn) iw D fun tc h' t' D => ?_
    refine ch_e hh (by omega) lw (hcross c h1c hcn) D fun tl' h' t' D => ?_
    show ForT _ _ _ _ _ _ _ _ _ _ _ _
    have D := D.perm (List.perm_middle (l₁ := [(L, _), (c8, _), (c7, _), (ma, _), (c4, _)])).symm
    refine ih (c + 1) _ tl' _ _ h' _ D (by omega) (by omega) ?_ ?_
    · split
      · rename_i q
        have := happ c q
        rw [lsm]; omega
      · exact hlg
    · intro c' a1 a2 a3
      rcases Nat.lt_or_ge c' c with q | q
      · have := hall c' a1 q a3
        split
        · exact Nat.le_trans this (Nat.le_max_left _ _)
        · exact this
      · have e : c' = c := by omega
        subst e
        rw [if_pos a3, lsm]; exact Nat.le_max_right _ _
end
end Mine

end
section
open PySem PySem.Calls PySem.W PyProof.Rows
set_option maxRecDepth 100000
set_option maxHeartbeats 4000000
namespace Mine
local macro_rules | `(tactic| walk_at "mem") => `(tactic| first | exact List.Mem.head _ | (refine List.Mem.tail _ ?_; walk_at "mem"))
local macro_rules | `(tactic| walk_at "upd") => `(tactic| first | exact Upd.head | (apply Upd.tail; walk_at "upd"))
local macro_rules | `(tactic| walk_at "del") => `(tactic| first | exact Del.head | (apply Del.tail; walk_at "del"))
local macro_rules | `(tactic| walk_at "sees") => `(tactic| first | exact Sees.nil | (refine Sees.cons (by rfl) ?_; walk_at "sees"))
local macro_rules | `(tactic| walk_at "subl") => `(tactic| first | exact List.Sublist.slnil | (refine List.Sublist.cons_cons _ ?_; walk_at "subl") | (refine List.Sublist.cons _ ?_; walk_at "subl"))
local macro_rules | `(tactic| walk_at "fact") => `(tactic| first | exact St.get (by assumption) (by walk_at "mem") | exact St.oldf (by assumption) (by assumption) | assumption)
local macro_rules | `(tactic| walk_at "xname") => `(tactic| first
  | refine r_local (by assumption) (by walk_at "mem") (by rfl) ?_
  | refine r_blt (by assumption) (by rfl) ?_
  | refine r_cell (by assumption) (by rfl) (by walk_at "mem") ?_
  | refine r_glob (by assumption) (by first | assumption | exact FnAt.g (by assumption)) ?_)
local macro_rules | `(tactic| walk_at "xconst") => `(tactic| first
  | refine r_int fun _ _ => ?_
  | refine r_str fun _ _ => ?_
  | refine r_bytes fun _ _ => ?_
  | refine wpAny_Constant_bool ?_
  | refine wpAny_Constant_none ?_)
local macro_rules | `(tactic| walk_at "xeval") => `(tactic| first
  | ((with_reducible show wpAny _ _ (eval (Expr.Name _ _) _) _ _ _); walk_at "xname")
  | ((with_reducible show wpAny _ _ (eval (Expr.Constant _ _ _) _) _ _ _); walk_at "xconst")
  | ((with_reducible show wpAny _ _ (eval (Expr.Call (Expr.Attribute _ _ _) _ _ _) _) _ _ _); refine MethodCall_ ?_)
  | ((with_reducible show wpAny _ _ (eval (Expr.Call _ _ _ _) _) _ _ _); refine Call_ ?_)
  | with_reducible refine wpAny_BinOp ?_
  | ((with_reducible show wpAny _ _ (eval (Expr.Compare _ [_] [_] _) _) _ _ _); refine wpAny_Compare1 ?_)
  | ((with_reducible show wpAny _ _ (eval (Expr.Subscript _ _ _) _) _ _ _); refine Subscript_ ?_)
  | ((with_reducible show wpAny _ _ (eval (Expr.Slice none (some _) none _) _) _ _ _); refine e_slice_nu ?_)
  | ((with_reducible show wpAny _ _ (eval (Expr.IfExp _ _ _ _) _) _ _ _); refine wpAny_IfExp ?_)
  | ((with_reducible show wpAny _ _ (eval (Expr.Tuple _ _ _) _) _ _ _); refine Tuple_ ?_)
  | ((with_reducible show wpAny _ _ (eval (Expr.List _ _) _) _ _ _); refine List_ ?_)
  | ((with_reducible show wpAny _ _ (eval (Expr.UnaryOp _ _ _) _) _ _ _); refine wpAny_UnaryOp ?_))
local macro_rules | `(tactic| walk_at "xexec") => `(tactic| first
  | ((with_reducible show wpAny _ _ (exec (Stmt.Assign [Expr.Name _ _] _ _) _) _ _ _); refine wpAny_Assign_Name ?_)
  | ((with_reducible show wpAny _ _ (exec (Stmt.If _ _ _ _) _) _ _ _); refine wpAny_If ?_)
  | ((with_reducible show wpAny _ _ (exec (Stmt.Return (some _) _) _) _ _ _); refine wpAny_Return_some ?_)
  | ((with_reducible show wpAny _ _ (exec (Stmt.Break _) _) _ _ _); refine wpAny_Break ?_)
  | ((with_reducible show wpAny _ _ (exec (Stmt.Expr _ _) _) _ _ _); refine wpAny_Expr ?_)
  | ((with_reducible show wpAny _ _ (exec (Stmt.For _ _ _ _ _) _) _ _ _); refine r_For ?_)
  | ((with_reducible show wpAny _ _ (exec (Stmt.While _ _ _ _) _) _ _ _); refine r_While ?_)
  | ((with_reducible show wpAny _ _ (exec (Stmt.AugAssign (Expr.Name _ _) _ _ _) _) _ _ _); refine wpAny_AugAssign_Name ?_))
local macro_rules | `(tactic| walk_at "xtrue") => `(tactic| first
  | ((with_reducible show wpAny _ _ (isTrue (Expr.Compare _ [_] [_] _) _ _) _ _ _); refine wpAny_isTrue_Compare1 ?_)
  | ((with_reducible show wpAny _ _ (isTrue (Expr.BoolOp _ _ _) _ _) _ _ _); refine wpAny_isTrue_BoolOp ?_)
  | ((with_reducible show wpAny _ _ (isTrue (Expr.UnaryOp UnaryOp.Not _ _) _ _) _ _ _); refine wpAny_isTrue_Not ?_)
  | ((with_reducible show wpAny _ _ (isTrue (Expr.Call _ _ _ _) _ _) _ _ _); refine wpAny_isTrue_value ?_)
  | ((with_reducible show wpAny _ _ (isTrue (Expr.Name _ _) _ _) _ _ _); refine wpAny_isTrue_value ?_))
local macro_rules | `(tactic| walk_at "xcall") => `(tactic| first
  | ((with_reducible show wpAny _ _ (call (Value.type "range") [Value.int _ _]) _ _ _); refine r_range (by assumption) ?_; intro _ _ _ _ _ _)
  | ((with_reducible show wpAny _ _ (call (Value.builtin "list.append") [_, _]) _ _ _); refine r_append (by assumption) (by walk_at "upd") ?_; intro _ _)
  | ((with_reducible show wpAny _ _ (call (Value.builtin "len") [Value.ref _]) _ _ _); refine r_len_list (by walk_at "fact") (by first | assumption | decide | omega) ?_; intro _ _)
  | ((with_reducible show wpAny _ _ (call (Value.type "type") [Value.str _ _]) _ _ _); refine call_type_of (Tx := "str") rfl (by decide) ?_)
  | ((with_reducible show wpAny _ _ (call (Value.type "type") [Value.bytes _ _]) _ _ _); refine call_type_of (Tx := "bytes") rfl (by decide) ?_)
  | ((with_reducible show wpAny _ _ (call (Value.builtin "issubclass") [Value.type "str", _]) _ _ _); refine r_issub_str (by assumption) (by walk_at "mem") ?_)
  | ((with_reducible show wpAny _ _ (call (Value.builtin "issubclass") [Value.type "bytes", _]) _ _ _); refine r_issub_bytes (by assumption) (by walk_at "mem") ?_)
  | ((with_reducible show wpAny _ _ (call (Value.builtin "isinstance") [Value.str _ _, Value.type "bytes"]) _ _ _); refine IsiPair.str_bytes ?_)
  | ((with_reducible show wpAny _ _ (call (Value.builtin "isinstance") [Value.bytes _ _, Value.type "bytes"]) _ _ _); refine call_isinstance_yes (typeIs_bytes _ _ _) F.isi_meta_bytes F.isi_self_bytes ?_))
local macro_rules | `(tactic| walk_at "xop") => `(tactic| first
  | ((with_reducible show wpAny _ _ (binaryOp Operator.Add (Value.int _ _) (Value.int _ _)) _ _ _); refine r_add ?_; intro _ _)
  | ((with_reducible show wpAny _ _ (binaryOp Operator.Sub (Value.int _ _) (Value.int _ _)) _ _ _); refine r_sub ?_; intro _ _)
  | ((with_reducible show wpAny _ _ (binaryOp Operator.Mod (Value.int _ _) (Value.int _ _)) _ _ _); refine r_mod (by decide) ?_; intro _ _)
  | ((with_reducible show wpAny _ _ (binaryOp Operator.Mult (Value.int _ _) (Value.int _ _)) _ _ _); refine r_mul ?_; intro _ _)
  | ((with_reducible show wpAny _ _ (binaryOp Operator.FloorDiv (Value.int _ _) (Value.int _ _)) _ _ _); refine r_fdiv (by decide) (PyProof.noPylong_small (by decide)) ?_; intro _ _)
  | ((with_reducible show wpAny _ _ (binaryOp Operator.BitAnd (Value.int _ _) (Value.int _ _)) _ _ _); refine r_and ?_; intro _ _))
local macro_rules | `(tactic| walk_at "xcmp") => `(tactic| first
  | ((with_reducible show wpAny _ _ (compareOp CmpOp.Eq (Value.int _ _) (Value.int _ _)) _ _ _); refine r_eq ?_)
  | ((with_reducible show wpAny _ _ (compareOp CmpOp.NotEq (Value.int _ _) (Value.int _ _)) _ _ _); refine r_ne ?_)
  | ((with_reducible show wpAny _ _ (compareOp CmpOp.Lt (Value.int _ _) (Value.int _ _)) _ _ _); refine r_lt ?_))
local macro_rules | `(tactic| walk_at "x1") => `(tactic| first
  | ((with_reducible show wpAny _ _ (eval _ _) _ _ _); walk_at "xeval")
  | ((with_reducible show wpAny _ _ (spliced _) _ _ _); first
    | ((with_reducible show wpAny _ _ (spliced (backTo _ (starEach [] _))) _ _ _); refine args_nil ?_; (try simp only [List.nil_append, List.cons_append]))
    | ((with_reducible show wpAny _ _ (spliced (backTo _ (starEach (_ :: _) _))) _ _ _); refine args_cons ?_))
  | ((with_reducible show wpAny _ _ (callWith _ _ _ _ _) _ _ _); first
    | ((with_reducible show wpAny _ _ (callWith _ (Value.builtin _) _ _ _) _ _ _); refine cw_blt ?_)
    | ((with_reducible show wpAny _ _ (callWith _ (Value.ref _) _ _ _) _ _ _); refine cw_fn ?_)
    | ((with_reducible show wpAny _ _ (callWith _ (Value.type _) _ _ _) _ _ _); refine cw_type ?_))
  | ((with_reducible show wpAny _ _ (execs _ _) _ _ _); first
    | ((with_reducible show wpAny _ _ (execs (_ :: _) _) _ _ _); refine wpAny_execs_cons ?_)
    | ((with_reducible show wpAny _ _ (execs [] _) _ _ _); refine wpAny_execs_nil ?_))
  | ((with_reducible show wpAny _ _ (exec _ _) _ _ _); walk_at "xexec")
  | ((with_reducible show wpAny _ _ (storeName _ _ _) _ _ _); first | (refine r_st (by assumption) (by walk_at "upd") ?_; intro _ _ _) | (refine r_stc (by assumption) (by rfl) (by walk_at "upd") ?_; intro _ _ _))
  | ((with_reducible show wpAny _ _ (isTrue _ _ _) _ _ _); walk_at "xtrue")
  | ((with_reducible show wpAny _ _ (truthy (Value.bool _)) _ _ _); refine wpAny_truthy_bool ?_)
  | ((with_reducible show wpAny _ _ (call _ _ _) _ _ _); walk_at "xcall")
  | ((with_reducible show wpAny _ _ (binaryOp _ _ _) _ _ _); walk_at "xop")
  | ((with_reducible show wpAny _ _ (compareOp _ _ _) _ _ _); walk_at "xcmp")
  | ((with_reducible show wpAny _ _ (subscriptTail _ _ (Value.ref _) (Value.int _ _)) _ _ _); refine t_list_item (by walk_at "fact") (by decide) (by decide) (by rfl) ?_)
  | ((with_reducible show wpAny _ _ (inplaceOp Operator.Add (Value.int _ _) (Value.int _ _)) _ _ _); refine r_iadd ?_; intro _ _)
  | ((with_reducible show wpAny _ _ (loadName _ _) _ _ _); first
    | refine r_localN (by assumption) (by walk_at "mem") (by rfl) ?_
    | refine r_cellN (by assumption) (by rfl) (by walk_at "mem") ?_)
  | ((with_reducible show wpAny _ _ (forIn [] _ _) _ _ _); refine wpAny_tests_nil ?_)
  | ((with_reducible show wpAny _ _ (forIn [_] _ _) _ _ _); refine wpAny_tests_one ?_)
  | ((with_reducible show wpAny _ _ (emitL _ _ _) _ _ _); refine wp_emitL ?_)
  | ((with_reducible show wpAny _ _ (emitS _ _ _) _ _ _); refine wp_emitS ?_)
  | ((with_reducible show wpAny _ _ (assign (Expr.Name _ _) _ _) _ _ _); refine wpAny_assign_Name ?_)
  | ((with_reducible show wpAny _ _ (getMethod (Value.ref _) _ _) _ _ _); (with_reducible refine gm_append ?_ ?_); (· exact ⟨_, by walk_at "fact"⟩))
  | ((with_reducible show wpAny _ _ (letOwnedTupleGo (Expr.Name _ _) _ _) _ _ _); refine wpAny_pure ?_)
  | ((with_reducible show wpAny _ _ (newTuple _) _ _ _); refine r_newTuple (by assumption) ?_; intro _ _ _)
  | ((with_reducible show wpAny _ _ (newList _) _ _ _); refine r_newList (by assumption) ?_; intro _ _ _)
  | ((with_reducible show wpAny _ _ (newFields "slice" [_, _, Value.none]) _ _ _); refine r_newSlice (by assumption) ?_; intro _ _ _)
  | ((with_reducible show wpAny _ _ (allTrue _ _ _) _ _ _); first
    | ((with_reducible show wpAny _ _ (allTrue BoolOp.And (_ :: _) _) _ _ _); refine wpAny_allTrue_And_cons ?_)
    | ((with_reducible show wpAny _ _ (allTrue BoolOp.Or (_ :: _) _) _ _ _); refine wpAny_allTrue_Or_cons ?_)
    | refine wpAny_allTrue_And_nil ?_ | refine wpAny_allTrue_Or_nil ?_)
  | ((with_reducible show ite _ _ _); (first | rw [if_pos rfl] | rw [if_neg Bool.false_ne_true])))
local macro_rules | `(tactic| walk_at "subl") => `(tactic| with_reducible exact List.Sublist.refl _)
local macro_rules | `(tactic| walk_at "x1") => `(tactic| first
  | ((with_reducible show wpAny _ _ (binaryOp Operator.RShift (Value.int _ _) (Value.int _ _)) _ _ _); refine r_rshift (by omega) ?_; intro _ _)
  | ((with_reducible show wpAny _ _ (unaryOp UnaryOp.USub (Value.int _ _)) _ _ _); refine r_neg ?_; intro _ _)
  | ((with_reducible show wpAny _ _ (compareOp CmpOp.Is (Value.ref _) Value.none) _ _ _); refine is_ref_none ?_)
  | ((with_reducible show wpAny _ _ (getMethod (Value.ref _) "index" _) _ _ _); (with_reducible refine gm_index ?_ ?_); (· exact ⟨_, by walk_at "fact"⟩))
  | ((with_reducible show wpAny _ _ (eval (Expr.BoolOp BoolOp.And (_ :: _ :: _) _) _) _ _ _); refine BoolOp_and ?_)
  | ((with_reducible show wpAny _ _ (eval (Expr.BoolOp BoolOp.And [_] _) _) _ _ _); refine BoolOp_one ?_))
section
variable {prog : Program} {w : World} {A : Around} {X : Value → Shared → Prop} {g : Array GenState} {d : Drawn} {t : Nat} {o : OsState} {mg mb : Str → Option Value} {h₀ h : Heap} {N N' N'' T : List (Addr × Fact)} {env : Env}
  {L a c1 c2 c3 c4 c5 c6 c7 c8 : Addr} {cd : Value}
theorem ret14 {ma kb : Addr} {mv kv : List Value} {n tl : Nat} {tn : Value} {Tk : List Nat} {mk : Nat → Nat} {Q : Flow → Shared → Prop} (hh : A.handled = none) (hu : A.units < cLine) (h6 : n ≤ 6) (hk6 : Tk.length ≤ 6)
    (im : IntsAre mv ((List.range n).map fun i => ((mk i : Nat) : Int))) (ik : IntsAre kv (Tk.map fun i => ((i : Nat) : Int))) (hin : ∀ x ∈ Tk, x < n) (hap : ∀ i ∈ Tk, ∀ j ∈ Tk, i ≠ j → mk i &&& mk j = 0)
    (D : St mg mb h₀ [(L, .ns [("largest", .int ((Tk.length : Nat) : Int) tl), ("count", tn)]), (ma, .lst mv), (c4, .cell (some (.ref ma))), (kb, .lst kv), (c5, .cell (some (.ref kb)))] h)
    (hQ : ∀ h' t', Ext h₀ h' → Q (.ret (.bool true)) ⟨h', g, d, t', o⟩) :
    wpAny (model prog w) A (execs ((fBody 20).drop 14) (lawE L a cd c1 c2 c3 c4 c5 c6 c7 c8)) Q X ⟨h, g, d, t, o⟩ := by
  have lk := ik.length
  rw [List.length_map] at lk
  have lk' : kv.length ≤ 1000 := by omega
  refine wpAny_execs_cons ?_
  repeat walk_at "x1"
  refine ite_dec (fun _ => ?_) (fun hz => absurd (by omega) hz)
  repeat walk_at "x1"
  refine r_ListComp (cl := [("taken", c5), ("masks", c4)]) (by rfl) ?_
  repeat walk_at "x1"
  refine pi_list (xs := kv) D (by walk_at "fact") fun I h' D => ?_
  refine compGo_of D (.head _) trivial fun C Dl h' t' D => ?_
  refine comp20 ⟨kv.length, fun E => ?_⟩
  refine comp_list hh (D.perm (N' := (C, .ns []) :: (Dl, .lst []) :: (I, .li kb 0) :: _) (List.Perm.refl _)) (by walk_at "mem") (P := fun _ acc _ => acc = []) rfl ?_ ?_
  · rintro k E' acc h t v Q' hv1 rfl D hq
    have hk := lt_of_some hv1
    have hk' : k < Tk.length := by omega
    obtain ⟨u, eu⟩ := ints_at ik hk'
    rw [eu] at hv1
    obtain rfl := Option.some.inj hv1
    have hi := List.getElem_mem hk'
    generalize Tk[k] = i at *
    have hin_i := hin i hi
    obtain ⟨ui, ei⟩ := ints_range im hin_i
    refine turn_nil ?_
    refine wp_innerL ?_
    repeat walk_at "x1"
    refine pi_list (xs := kv) D (by walk_at "fact") fun I2 h' D => ?_
    intro R hR
    refine cstart1 (D.get (.head _)) trivial ?_
    refine comp21 ⟨kv.length, fun E2 => ?_⟩
    refine comp_list hh (D.perm (List.perm_middle (l₁ := [(C, _), (Dl, _)]))) (by walk_at "mem") (P := fun _ acc' E'' => acc' = [] ∧ List.lookup ("i" : Str) E'' = some (Value.int ((i : Nat) : Int) u)) ⟨rfl, by rfl⟩ ?_ ?_
    · rintro j' E'' acc' h t v Q'' hv2 ⟨rfl, pe⟩ D hq'
      have hj := lt_of_some hv2
      have hj' : j' < Tk.length := by omega
      obtain ⟨u2, eu2⟩ := ints_at ik hj'
      rw [eu2] at hv2
      obtain rfl := Option.some.inj hv2
      have hjm := List.getElem_mem hj'
      generalize Tk[j'] = j at *
      have hin_j := hin j hjm
      obtain ⟨uj, ej⟩ := ints_range im hin_j
      refine turn_one ?_
      repeat walk_at "x1"
      refine r_local (v := .int ((i : Nat) : Int) u) D (.head _) pe ?_
      repeat walk_at "x1"
      refine ite_dec (fun hlt => ?_) (fun hlt => ?_)
      · repeat walk_at "x1"
        refine r_local (v := .int ((i : Nat) : Int) u) D (.head _) pe ?_
        refine t_list_item (by walk_at "fact") (by omega) (by omega) (by rw [Int.toNat_natCast]; exact ei) ?_
        repeat walk_at "x1"
        refine t_list_item (by walk_at "fact") (by omega) (by omega) (by rw [Int.toNat_natCast]; exact ej) ?_
        repeat walk_at "x1"
        rw [band_nz]
        refine ite_dec (fun hz => absurd (hap i hi j hjm (by omega)) hz) (fun hz => ?_)
        repeat walk_at "x1"
        exact (fun hp => hq' _ _ _ _ hp D) ⟨rfl, pe⟩
      · repeat walk_at "x1"
        exact (fun hp => hq' _ _ _ _ hp D) ⟨rfl, pe⟩
    · rintro acc' E'' h' t' ⟨rfl, pe⟩ D
      exact hR _ (hq [] E'' h' t' rfl D)
  · rintro acc E' h' t' rfl D
    refine cp_none (C := C) D (by walk_at "mem") (by walk_at "del") fun h' D => ?_
    repeat walk_at "x1"
    refine r_eq_nil (by walk_at "fact") (by walk_at "fact") hu ?_
    repeat walk_at "x1"
    exact hQ _ _ (St.keep (by assumption))
end
end Mine

end
section
open PySem PySem.W
set_option maxRecDepth 100000
set_option maxHeartbeats 1000000
namespace Mine
theorem sel_mem {c n k : Nat} : k ∈ sel c n ↔ k < n ∧ c.testBit k = true := by unfold sel; rw [List.mem_filter, List.mem_range]
theorem sel_nd (c n : Nat) : (sel c n).Nodup := (List.filter_sublist (l := List.range n)).nodup List.nodup_range
theorem and_bits {i : Nat} : ∀ (ws : List Nat) (v : Nat), v.testBit i = true → (∀ x ∈ ws, x.testBit i = true) → (ws.foldl (fun x y => x &&& y) v).testBit i = true
  | [], v, h, _ => h
  | x :: r, v, h, hr => and_bits r (v &&& x) (by rw [Nat.testBit_and, h, hr x (.head _)]; rfl) fun y hy => hr y (.tail _ hy)
theorem com_ne {ws : List Nat} {i : Nat} (h1 : 1 ≤ ws.length) (h : ∀ x ∈ ws, x.testBit i = true) : comF ws ≠ 0 := by
  intro e
  have := and_bits ws (ws.getD 0 0) (h _ (by rw [List.getD_eq_getElem?_getD, List.getElem?_eq_getElem h1]; exact List.getElem_mem h1)) h
  unfold comF at e
  rw [e, Nat.zero_testBit] at this
  cases this
theorem choice : ∀ (n : Nat) (P : Nat → Bool), ∃ c, c < 2 ^ n ∧ ∀ k, k < n → c.testBit k = P k
  | 0, P => ⟨0, by decide, fun k hk => absurd hk (Nat.not_lt_zero _)⟩
  | n + 1, P => by
    obtain ⟨c, hc, hb⟩ := choice n P
    have hn : c.testBit n = false := Nat.testBit_lt_two_pow hc
    cases hp : P n with
    | false =>
      refine ⟨c, by rw [Nat.pow_succ]; omega, fun k hk => ?_⟩
      rcases Nat.lt_or_ge k n with q | q
      · exact hb k q
      · rw [show k = n by omega, hn, hp]
    | true =>
      refine ⟨c + 2 ^ n, by rw [Nat.pow_succ]; omega, fun k hk => ?_⟩
      rw [add_bit hn]
      rcases Nat.lt_or_ge k n with q | q
      · rw [hb k q, decide_eq_false (by omega), Bool.or_false]
      · rw [show k = n by omega, hp, decide_eq_true rfl, Bool.or_true]
theorem apart_pw {mk : Nat → Nat} {F : List Nat} (h : apartB (F.map mk) = true) : F.Pairwise fun a b => mk a &&& mk b = 0 := by
  unfold apartB at h
  rw [List.all_eq_true] at h
  rw [List.pairwise_iff_getElem]
  intro i j hi hj hij
  have := h j (by rw [List.mem_range, List.length_map]; exact hj)
  rw [List.all_eq_true] at this
  have := this i (List.mem_range.mpr hij)
  rw [decide_eq_true_iff, List.getD_eq_getElem?_getD, List.getD_eq_getElem?_getD, List.getElem?_map, List.getElem?_map, List.getElem?_eq_getElem hi, List.getElem?_eq_getElem hj] at this
  rw [Nat.and_comm]; exact this
theorem pw_apart {mk : Nat → Nat} {F : List Nat} (nd : F.Nodup) (h : ∀ i ∈ F, ∀ j ∈ F, i ≠ j → mk i &&& mk j = 0) : apartB (F.map mk) = true := by
  unfold apartB
  rw [List.all_eq_true]
  intro i hi
  rw [List.mem_range, List.length_map] at hi
  rw [List.all_eq_true]
  intro j hj
  rw [List.mem_range] at hj
  have hj' : j < F.length := Nat.lt_trans hj hi
  rw [decide_eq_true_iff, List.getD_eq_getElem?_getD, List.getD_eq_getElem?_getD, List.getElem?_map, List.getElem?_map, List.getElem?_eq_getElem hi, List.getElem?_eq_getElem hj']
  refine h _ (List.getElem_mem hi) _ (List.getElem_mem hj') fun e => ?_
  have := (List.pairwise_iff_getElem.mp nd) j i hj' hi hj
  exact this e.symm
structure Plain (mk : Nat → Nat) (n M : Nat) (Tk : List Nat) : Prop where
  hit : ∀ k, k < n → mk k &&& M ≠ 0
  inn : ∀ x ∈ Tk, x < n
  len : Tk.length ≤ n
  apart : ∀ i ∈ Tk, ∀ j ∈ Tk, i ≠ j → mk i &&& mk j = 0
  ne : ∀ c, 1 ≤ c → c < 2 ^ n → 1 ≤ (sel c n).length
  cross : ∀ c, 1 ≤ c → c < 2 ^ n → crossB ((sel c n).map mk) = true → comF ((sel c n).map mk) ≠ 0
  app : ∀ c, apartB ((sel c n).map mk) = true → (sel c n).length ≤ Tk.length
  ex : ∃ c, 1 ≤ c ∧ c < 2 ^ n ∧ apartB ((sel c n).map mk) = true ∧ (sel c n).length = Tk.length
theorem plain_all {mk p dp : Nat → Nat} {n : Nat} {q : List Nat} (G : Geo mk p dp n) (h1 : 1 ≤ n) (hs : Srt (ltA fun k => -((dp k : Nat) : Int)) n q) : Plain mk n (greedy mk p q [] 0).2 (greedy mk p q [] 0).1 := by
  have I0 : Inv mk p n [] 0 := ⟨fun _ h => (nomatch h), fun i => by simp, .nil, List.nodup_nil⟩
  obtain ⟨I, _, hit⟩ := greedy_spec G q [] 0 hs.inn (hs.pw.imp fun {a b} h => by rw [ltA_iff] at h; omega) (fun _ h => nomatch h) I0
  generalize (greedy mk p q [] 0).2 = M at *
  generalize (greedy mk p q [] 0).1 = Tk at *
  have hit : ∀ k, k < n → mk k &&& M ≠ 0 := fun k hk => hit k (hs.all k hk)
  have nd : Tk.Nodup := (List.pairwise_map.mp I.nd).imp fun h e => h (congrArg p e)
  have apart : ∀ i ∈ Tk, ∀ j ∈ Tk, i ≠ j → mk i &&& mk j = 0 := by
    intro i hi j hj hne
    obtain ⟨a, ha, rfl⟩ := List.getElem_of_mem hi
    obtain ⟨b, hb, rfl⟩ := List.getElem_of_mem hj
    have pw := List.pairwise_iff_getElem.mp I.apart
    rcases Nat.lt_trichotomy a b with z | z | z
    · exact pw a b ha hb z
    · subst z; exact absurd rfl hne
    · rw [Nat.and_comm]; exact pw b a hb ha z
  have ne : ∀ c, 1 ≤ c → c < 2 ^ n → 1 ≤ (sel c n).length := by
    intro c hc1 hc2
    obtain ⟨i, hi⟩ := Nat.exists_testBit_of_ne_zero (x := c) (by omega)
    have hin : i < n := by
      rcases Nat.lt_or_ge i n with z | z
      · exact z
      · have := Nat.testBit_lt_two_pow (Nat.lt_of_lt_of_le hc2 (Nat.pow_le_pow_right (by decide) z))
        rw [hi] at this; cases this
    exact List.length_pos_of_mem (sel_mem.mpr ⟨hin, hi⟩)
  refine ⟨hit, I.inn, ?_, apart, ne, ?_, ?_, ?_⟩
  · have := List.Nodup.length_le_of_subset nd (l₂ := List.range n) fun x hx => List.mem_range.mpr (I.inn x hx)
    rw [List.length_range] at this; exact this
  · intro c hc1 hc2 hcr
    have hF : sel c n ≠ [] := fun e => by have := ne c hc1 hc2; rw [e] at this; cases this
    obtain ⟨i, hi⟩ := helly G (sel c n) hF (fun k hk => (sel_mem.mp hk).1) fun a ha b hb => by
      unfold crossB at hcr
      rw [List.all_eq_true] at hcr
      have := hcr _ (List.mem_map_of_mem (f := mk) ha)
      rw [List.all_eq_true] at this
      exact of_decide_eq_true (this _ (List.mem_map_of_mem (f := mk) hb))
    refine com_ne (i := i) (by rw [List.length_map]; exact ne c hc1 hc2) fun x hx => ?_
    obtain ⟨k, hk, rfl⟩ := List.mem_map.mp hx
    exact hi k hk
  · intro c hc
    exact apart_le I (fun k hk => hit k (sel_mem.mp hk).1) (apart_pw hc)
  · obtain ⟨c, hc, hb⟩ := choice n fun k => decide (k ∈ Tk)
    have hsub : ∀ k, k ∈ sel c n ↔ k ∈ Tk := fun k => by
      rw [sel_mem]
      constructor
      · rintro ⟨a1, a2⟩
        rw [hb k a1] at a2; exact of_decide_eq_true a2
      · intro hk
        have := I.inn k hk
        exact ⟨this, by rw [hb k this]; exact decide_eq_true hk⟩
    have l1 := List.Nodup.length_le_of_subset (sel_nd c n) fun k hk => (hsub k).mp hk
    have l2 := List.Nodup.length_le_of_subset nd fun k hk => (hsub k).mpr hk
    refine ⟨c, ?_, hc, pw_apart (sel_nd c n) (fun i hi j hj => apart i ((hsub i).mp hi) j ((hsub j).mp hj)), Nat.le_antisymm l1 l2⟩
    obtain ⟨i, _, hi2⟩ := land_ex (hit 0 h1)
    obtain ⟨tt, ht, _⟩ := (I.bits i).mp hi2
    have hz := hb tt (I.inn tt ht)
    rw [decide_eq_true ht] at hz
    rcases Nat.eq_zero_or_pos c with z | z
    · rw [z, Nat.zero_testBit] at hz; cases hz
    · exact z
end Mine

end
section
open PySem PySem.Calls PySem.W PyProof.Rows
set_option maxRecDepth 100000
set_option maxHeartbeats 4000000
namespace Mine
local macro_rules | `(tactic| walk_at "mem") => `(tactic| first | exact List.Mem.head _ | (refine List.Mem.tail _ ?_; walk_at "mem"))
local macro_rules | `(tactic| walk_at "upd") => `(tactic| first | exact Upd.head | (apply Upd.tail; walk_at "upd"))
local macro_rules | `(tactic| walk_at "del") => `(tactic| first | exact Del.head | (apply Del.tail; walk_at "del"))
local macro_rules | `(tactic| walk_at "sees") => `(tactic| first | exact Sees.nil | (refine Sees.cons (by rfl) ?_; walk_at "sees"))
local macro_rules | `(tactic| walk_at "subl") => `(tactic| first | exact List.Sublist.slnil | (refine List.Sublist.cons_cons _ ?_; walk_at "subl") | (refine List.Sublist.cons _ ?_; walk_at "subl"))
local macro_rules | `(tactic| walk_at "fact") => `(tactic| first | exact St.get (by assumption) (by walk_at "mem") | exact St.oldf (by assumption) (by assumption) | assumption)
local macro_rules | `(tactic| walk_at "xname") => `(tactic| first
  | refine r_local (by assumption) (by walk_at "mem") (by rfl) ?_
  | refine r_blt (by assumption) (by rfl) ?_
  | refine r_cell (by assumption) (by rfl) (by walk_at "mem") ?_
  | refine r_glob (by assumption) (by first | assumption | exact FnAt.g (by assumption)) ?_)
local macro_rules | `(tactic| walk_at "xconst") => `(tactic| first
  | refine r_int fun _ _ => ?_
  | refine r_str fun _ _ => ?_
  | refine r_bytes fun _ _ => ?_
  | refine wpAny_Constant_bool ?_
  | refine wpAny_Constant_none ?_)
local macro_rules | `(tactic| walk_at "xeval") => `(tactic| first
  | ((with_reducible show wpAny _ _ (eval (Expr.Name _ _) _) _ _ _); walk_at "xname")
  | ((with_reducible show wpAny _ _ (eval (Expr.Constant _ _ _) _) _ _ _); walk_at "xconst")
  | ((with_reducible show wpAny _ _ (eval (Expr.Call (Expr.Attribute _ _ _) _ _ _) _) _ _ _); refine MethodCall_ ?_)
  | ((with_reducible show wpAny _ _ (eval (Expr.Call _ _ _ _) _) _ _ _); refine Call_ ?_)
  | with_reducible refine wpAny_BinOp ?_
  | ((with_reducible show wpAny _ _ (eval (Expr.Compare _ [_] [_] _) _) _ _ _); refine wpAny_Compare1 ?_)
  | ((with_reducible show wpAny _ _ (eval (Expr.Subscript _ _ _) _) _ _ _); refine Subscript_ ?_)
  | ((with_reducible show wpAny _ _ (eval (Expr.Slice none (some _) none _) _) _ _ _); refine e_slice_nu ?_)
  | ((with_reducible show wpAny _ _ (eval (Expr.IfExp _ _ _ _) _) _ _ _); refine wpAny_IfExp ?_)
  | ((with_reducible show wpAny _ _ (eval (Expr.Tuple _ _ _) _) _ _ _); refine Tuple_ ?_)
  | ((with_reducible show wpAny _ _ (eval (Expr.List _ _) _) _ _ _); refine List_ ?_)
  | ((with_reducible show wpAny _ _ (eval (Expr.UnaryOp _ _ _) _) _ _ _); refine wpAny_UnaryOp ?_))
local macro_rules | `(tactic| walk_at "xexec") => `(tactic| first
  | ((with_reducible show wpAny _ _ (exec (Stmt.Assign [Expr.Name _ _] _ _) _) _ _ _); refine wpAny_Assign_Name ?_)
  | ((with_reducible show wpAny _ _ (exec (Stmt.If _ _ _ _) _) _ _ _); refine wpAny_If ?_)
  | ((with_reducible show wpAny _ _ (exec (Stmt.Return (some _) _) _) _ _ _); refine wpAny_Return_some ?_)
  | ((with_reducible show wpAny _ _ (exec (Stmt.Break _) _) _ _ _); refine wpAny_Break ?_)
  | ((with_reducible show wpAny _ _ (exec (Stmt.Expr _ _) _) _ _ _); refine wpAny_Expr ?_)
  | ((with_reducible show wpAny _ _ (exec (Stmt.For _ _ _ _ _) _) _ _ _); refine r_For ?_)
  | ((with_reducible show wpAny _ _ (exec (Stmt.While _ _ _ _) _) _ _ _); refine r_While ?_)
  | ((with_reducible show wpAny _ _ (exec (Stmt.AugAssign (Expr.Name _ _) _ _ _) _) _ _ _); refine wpAny_AugAssign_Name ?_))
local macro_rules | `(tactic| walk_at "xtrue") => `(tactic| first
  | ((with_reducible show wpAny _ _ (isTrue (Expr.Compare _ [_] [_] _) _ _) _ _ _); refine wpAny_isTrue_Compare1 ?_)
  | ((with_reducible show wpAny _ _ (isTrue (Expr.BoolOp _ _ _) _ _) _ _ _); refine wpAny_isTrue_BoolOp ?_)
  | ((with_reducible show wpAny _ _ (isTrue (Expr.UnaryOp UnaryOp.Not _ _) _ _) _ _ _); refine wpAny_isTrue_Not ?_)
  | ((with_reducible show wpAny _ _ (isTrue (Expr.Call _ _ _ _) _ _) _ _ _); refine wpAny_isTrue_value ?_)
  | ((with_reducible show wpAny _ _ (isTrue (Expr.Name _ _) _ _) _ _ _); refine wpAny_isTrue_value ?_))
local macro_rules | `(tactic| walk_at "xcall") => `(tactic| first
  | ((with_reducible show wpAny _ _ (call (Value.type "range") [Value.int _ _]) _ _ _); refine r_range (by assumption) ?_; intro _ _ _ _ _ _)
  | ((with_reducible show wpAny _ _ (call (Value.builtin "list.append") [_, _]) _ _ _); refine r_append (by assumption) (by walk_at "upd") ?_; intro _ _)
  | ((with_reducible show wpAny _ _ (call (Value.builtin "len") [Value.ref _]) _ _ _); refine r_len_list (by walk_at "fact") (by first | assumption | decide | omega) ?_; intro _ _)
  | ((with_reducible show wpAny _ _ (call (Value.type "type") [Value.str _ _]) _ _ _); refine call_type_of (Tx := "str") rfl (by decide) ?_)
  | ((with_reducible show wpAny _ _ (call (Value.type "type") [Value.bytes _ _]) _ _ _); refine call_type_of (Tx := "bytes") rfl (by decide) ?_)
  | ((with_reducible show wpAny _ _ (call (Value.builtin "issubclass") [Value.type "str", _]) _ _ _); refine r_issub_str (by assumption) (by walk_at "mem") ?_)
  | ((with_reducible show wpAny _ _ (call (Value.builtin "issubclass") [Value.type "bytes", _]) _ _ _); refine r_issub_bytes (by assumption) (by walk_at "mem") ?_)
  | ((with_reducible show wpAny _ _ (call (Value.builtin "isinstance") [Value.str _ _, Value.type "bytes"]) _ _ _); refine IsiPair.str_bytes ?_)
  | ((with_reducible show wpAny _ _ (call (Value.builtin "isinstance") [Value.bytes _ _, Value.type "bytes"]) _ _ _); refine call_isinstance_yes (typeIs_bytes _ _ _) F.isi_meta_bytes F.isi_self_bytes ?_))
local macro_rules | `(tactic| walk_at "xop") => `(tactic| first
  | ((with_reducible show wpAny _ _ (binaryOp Operator.Add (Value.int _ _) (Value.int _ _)) _ _ _); refine r_add ?_; intro _ _)
  | ((with_reducible show wpAny _ _ (binaryOp Operator.Sub (Value.int _ _) (Value.int _ _)) _ _ _); refine r_sub ?_; intro _ _)
  | ((with_reducible show wpAny _ _ (binaryOp Operator.Mod (Value.int _ _) (Value.int _ _)) _ _ _); refine r_mod (by decide) ?_; intro _ _)
  | ((with_reducible show wpAny _ _ (binaryOp Operator.Mult (Value.int _ _) (Value.int _ _)) _ _ _); refine r_mul ?_; intro _ _)
  | ((with_reducible show wpAny _ _ (binaryOp Operator.FloorDiv (Value.int _ _) (Value.int _ _)) _ _ _); refine r_fdiv (by decide) (PyProof.noPylong_small (by decide)) ?_; intro _ _)
  | ((with_reducible show wpAny _ _ (binaryOp Operator.BitAnd (Value.int _ _) (Value.int _ _)) _ _ _); refine r_and ?_; intro _ _))
local macro_rules | `(tactic| walk_at "xcmp") => `(tactic| first
  | ((with_reducible show wpAny _ _ (compareOp CmpOp.Eq (Value.int _ _) (Value.int _ _)) _ _ _); refine r_eq ?_)
  | ((with_reducible show wpAny _ _ (compareOp CmpOp.NotEq (Value.int _ _) (Value.int _ _)) _ _ _); refine r_ne ?_)
  | ((with_reducible show wpAny _ _ (compareOp CmpOp.Lt (Value.int _ _) (Value.int _ _)) _ _ _); refine r_lt ?_))
local macro_rules | `(tactic| walk_at "x1") => `(tactic| first
  | ((with_reducible show wpAny _ _ (eval _ _) _ _ _); walk_at "xeval")
  | ((with_reducible show wpAny _ _ (spliced _) _ _ _); first
    | ((with_reducible show wpAny _ _ (spliced (backTo _ (starEach [] _))) _ _ _); refine args_nil ?_; (try simp only [List.nil_append, List.cons_append]))
    | ((with_reducible show wpAny _ _ (spliced (backTo _ (starEach (_ :: _) _))) _ _ _); refine args_cons ?_))
  | ((with_reducible show wpAny _ _ (callWith _ _ _ _ _) _ _ _); first
    | ((with_reducible show wpAny _ _ (callWith _ (Value.builtin _) _ _ _) _ _ _); refine cw_blt ?_)
    | ((with_reducible show wpAny _ _ (callWith _ (Value.ref _) _ _ _) _ _ _); refine cw_fn ?_)
    | ((with_reducible show wpAny _ _ (callWith _ (Value.type _) _ _ _) _ _ _); refine cw_type ?_))
  | ((with_reducible show wpAny _ _ (execs _ _) _ _ _); first
    | ((with_reducible show wpAny _ _ (execs (_ :: _) _) _ _ _); refine wpAny_execs_cons ?_)
    | ((with_reducible show wpAny _ _ (execs [] _) _ _ _); refine wpAny_execs_nil ?_))
  | ((with_reducible show wpAny _ _ (exec _ _) _ _ _); walk_at "xexec")
  | ((with_reducible show wpAny _ _ (storeName _ _ _) _ _ _); first | (refine r_st (by assumption) (by walk_at "upd") ?_; intro _ _ _) | (refine r_stc (by assumption) (by rfl) (by walk_at "upd") ?_; intro _ _ _))
  | ((with_reducible show wpAny _ _ (isTrue _ _ _) _ _ _); walk_at "xtrue")
  | ((with_reducible show wpAny _ _ (truthy (Value.bool _)) _ _ _); refine wpAny_truthy_bool ?_)
  | ((with_reducible show wpAny _ _ (call _ _ _) _ _ _); walk_at "xcall")
  | ((with_reducible show wpAny _ _ (binaryOp _ _ _) _ _ _); walk_at "xop")
  | ((with_reducible show wpAny _ _ (compareOp _ _ _) _ _ _); walk_at "xcmp")
  | ((with_reducible show wpAny _ _ (subscriptTail _ _ (Value.ref _) (Value.int _ _)) _ _ _); refine t_list_item (by walk_at "fact") (by decide) (by decide) (by rfl) ?_)
  | ((with_reducible show wpAny _ _ (inplaceOp Operator.Add (Value.int _ _) (Value.int _ _)) _ _ _); refine r_iadd ?_; intro _ _)
  | ((with_reducible show wpAny _ _ (loadName _ _) _ _ _); first
    | refine r_localN (by assumption) (by walk_at "mem") (by rfl) ?_
    | refine r_cellN (by assumption) (by rfl) (by walk_at "mem") ?_)
  | ((with_reducible show wpAny _ _ (forIn [] _ _) _ _ _); refine wpAny_tests_nil ?_)
  | ((with_reducible show wpAny _ _ (forIn [_] _ _) _ _ _); refine wpAny_tests_one ?_)
  | ((with_reducible show wpAny _ _ (emitL _ _ _) _ _ _); refine wp_emitL ?_)
  | ((with_reducible show wpAny _ _ (emitS _ _ _) _ _ _); refine wp_emitS ?_)
  | ((with_reducible show wpAny _ _ (assign (Expr.Name _ _) _ _) _ _ _); refine wpAny_assign_Name ?_)
  | ((with_reducible show wpAny _ _ (getMethod (Value.ref _) _ _) _ _ _); (with_reducible refine gm_append ?_ ?_); (· exact ⟨_, by walk_at "fact"⟩))
  | ((with_reducible show wpAny _ _ (letOwnedTupleGo (Expr.Name _ _) _ _) _ _ _); refine wpAny_pure ?_)
  | ((with_reducible show wpAny _ _ (newTuple _) _ _ _); refine r_newTuple (by assumption) ?_; intro _ _ _)
  | ((with_reducible show wpAny _ _ (newList _) _ _ _); refine r_newList (by assumption) ?_; intro _ _ _)
  | ((with_reducible show wpAny _ _ (newFields "slice" [_, _, Value.none]) _ _ _); refine r_newSlice (by assumption) ?_; intro _ _ _)
  | ((with_reducible show wpAny _ _ (allTrue _ _ _) _ _ _); first
    | ((with_reducible show wpAny _ _ (allTrue BoolOp.And (_ :: _) _) _ _ _); refine wpAny_allTrue_And_cons ?_)
    | ((with_reducible show wpAny _ _ (allTrue BoolOp.Or (_ :: _) _) _ _ _); refine wpAny_allTrue_Or_cons ?_)
    | refine wpAny_allTrue_And_nil ?_ | refine wpAny_allTrue_Or_nil ?_)
  | ((with_reducible show ite _ _ _); (first | rw [if_pos rfl] | rw [if_neg Bool.false_ne_true])))
local macro_rules | `(tactic| walk_at "subl") => `(tactic| with_reducible exact List.Sublist.refl _)
local macro_rules | `(tactic| walk_at "x1") => `(tactic| first
  | ((with_reducible show wpAny _ _ (binaryOp Operator.RShift (Value.int _ _) (Value.int _ _)) _ _ _); refine r_rshift (by omega) ?_; intro _ _)
  | ((with_reducible show wpAny _ _ (unaryOp UnaryOp.USub (Value.int _ _)) _ _ _); refine r_neg ?_; intro _ _)
  | ((with_reducible show wpAny _ _ (compareOp CmpOp.Is (Value.ref _) Value.none) _ _ _); refine is_ref_none ?_)
  | ((with_reducible show wpAny _ _ (getMethod (Value.ref _) "index" _) _ _ _); (with_reducible refine gm_index ?_ ?_); (· exact ⟨_, by walk_at "fact"⟩))
  | ((with_reducible show wpAny _ _ (eval (Expr.BoolOp BoolOp.And (_ :: _ :: _) _) _) _ _ _); refine BoolOp_and ?_)
  | ((with_reducible show wpAny _ _ (eval (Expr.BoolOp BoolOp.And [_] _) _) _ _ _); refine BoolOp_one ?_))
section
variable {prog : Program} {w : World} {A : Around} {X : Value → Shared → Prop} {g : Array GenState} {d : Drawn} {t : Nat} {o : OsState} {mg mb : Str → Option Value} {h₀ h : Heap} {N N' N'' T : List (Addr × Fact)} {env : Env}
  {L a c1 c2 c3 c4 c5 c6 c7 c8 : Addr} {cd : Value} {m f : Bool}
theorem law_end {nb fa ma ta : Addr} {nv : List Value} {ns : List Int} {n tn tf : Nat} {Q : Flow → Shared → Prop} (hh : A.handled = none) (hu : A.units + 200 < cLine) (hR : A.depth + 2 < recursionLimit) (Fs : Fns mg h₀)
    (hi : IntsAre nv ns) (hl0 : 1 ≤ ns.length) (hl : ns.length ≤ 100) (hn1 : 1 ≤ n) (hn : 2 * n ≤ ns.length + 1) (hn6 : n ≤ 6)
    (D : St mg mb h₀ [(nb, .lst nv), (fa, .lst []), (ma, .lst []), (ta, .lst []), (c1, .cell (some (bif f then sepV false tf else emptyV false tf))), (c2, .cell (some (.bool m))), (c3, .cell (some (.ref fa))), (c4, .cell (some (.ref ma))),
      (L, .ns [("numbers", .ref nb), ("count", .int ((n : Nat) : Int) tn), ("tops", .ref ta)]), (c8, .cell none), (c7, .cell none), (c6, .cell none), (c5, .cell none)] h)
    (hQ : ∀ h' t', Ext h₀ h' → Q (.ret (.bool true)) ⟨h', g, d, t', o⟩) :
    wpAny (model prog w) A (execs ((fBody 20).drop 7) (lawE L a cd c1 c2 c3 c4 c5 c6 c7 c8)) Q X ⟨h, g, d, t, o⟩ := by
  have hu' : A.units < cLine := by omega
  refine loop7 hh hu hR Fs hi hl0 hl hn hn6 D fun fv mv tv T' h' t' im lt tr D => ?_
  have D := (D.sub (N' := (ma, .lst mv) :: (ta, .lst tv) :: (c4, .cell (some (.ref ma))) :: (L, _) :: (T' ++ [(c8, .cell none), (c7, .cell none), (c6, .cell none), (c5, .cell none)])) (by walk_at "subl")).see (E' := [("count", .int ((n : Nat) : Int) tn), ("tops", .ref ta)]) (by walk_at "upd") (by walk_at "sees")
  have D := D.perm (List.Perm.append_left [(ma, Fact.lst mv), (ta, Fact.lst tv), (c4, Fact.cell (some (.ref ma))), (L, Fact.ns [("count", .int ((n : Nat) : Int) tn), ("tops", .ref ta)])] (List.perm_append_comm (l₁ := [(c8, Fact.cell none), (c7, Fact.cell none), (c6, Fact.cell none), (c5, Fact.cell none)]) (l₂ := T')))
  refine tail_a (mk := mkQ (qsOf ns)) (p := plQ (qsOf ns)) (dp := dpQ (qsOf ns)) hh hn1 hn6 im lt tr (fun k => pl_lt (qs_len ns) k) D fun q kb kv tm h' t' hs ik D => ?_
  have P := plain_all (geoQ (qs_len ns) n) hn1 hs
  generalize (greedy (mkQ (qsOf ns)) (plQ (qsOf ns)) q [] 0).1 = Tk at *
  generalize (greedy (mkQ (qsOf ns)) (plQ (qsOf ns)) q [] 0).2 = M at *
  have hlen := P.len
  refine tail_b hh hu' hn6 im P.hit D fun tl h' t' D => ?_
  refine loop13 hh hu' hn6 im P.ne P.cross P.app P.ex D fun tl' h' t' D => ?_
  exact ret14 hh hu' hn6 (by omega) im ik P.inn P.apart D hQ
theorem nat_min (n : Nat) : min (6 : Int) ((((n : Nat) : Int) + 1).fdiv 2) = ((min 6 ((n + 1) / 2) : Nat) : Int) := by
  rw [show ((n : Nat) : Int) + 1 = ((n + 1 : Nat) : Int) by omega, show (2 : Int) = ((2 : Nat) : Int) from rfl, nat_fdiv]; omega
theorem law_true {sa : Addr} {xs : List Value} {ns : List Int} {Q : Value → Shared → Prop} (hh : A.handled = none) (hu : A.units + 300 < cLine) (hR : A.depth + 4 < recursionLimit) (W : Wd mg mb h) (Fs : Fns mg h) (Fl : Fn mg h "law" 20 a)
    (hs : (Fact.lst xs).at h sa) (hi : IntsAre xs ns) (h63 : ns.length ≤ 63) (hQ : ∀ h' t', Ext h h' → Q (.bool true) ⟨h', g, d, t', o⟩) : wpAny (model prog w) A (call (.ref a) [.ref sa]) Q X ⟨h, g, d, t, o⟩ := by
  refine fcallC (p := "script") (v := .ref sa) (fun L => [("ways", L + 1 + 1 + 1 + 1 + 1 + 1 + 1 + 1), ("chosen", L + 1 + 1 + 1 + 1 + 1 + 1 + 1), ("marks", L + 1 + 1 + 1 + 1 + 1 + 1), ("taken", L + 1 + 1 + 1 + 1 + 1), ("masks", L + 1 + 1 + 1 + 1), ("folders", L + 1 + 1 + 1), ("octets", L + 1 + 1), ("front", L + 1)])
    W Fl (by omega) (fun _ _ _ => by rfl) (by rfl) (fun _ => by rfl) (fun L => by simp; decide) (fun L cd h₁ t₁ D => ?_) rfl rfl rfl
  replace D : St mg mb h [(L + 1 + 1 + 1 + 1 + 1 + 1 + 1 + 1, .cell none), (L + 1 + 1 + 1 + 1 + 1 + 1 + 1, .cell none), (L + 1 + 1 + 1 + 1 + 1 + 1, .cell none), (L + 1 + 1 + 1 + 1 + 1, .cell none), (L + 1 + 1 + 1 + 1, .cell none), (L + 1 + 1 + 1, .cell none), (L + 1 + 1, .cell none), (L + 1, .cell none), (L, .ns [("script", .ref sa)])] h₁ := D
  generalize L + 1 + 1 + 1 + 1 + 1 + 1 + 1 + 1 = c8 at *
  generalize L + 1 + 1 + 1 + 1 + 1 + 1 + 1 = c7 at *
  generalize L + 1 + 1 + 1 + 1 + 1 + 1 = c6 at *
  generalize L + 1 + 1 + 1 + 1 + 1 = c5 at *
  generalize L + 1 + 1 + 1 + 1 = c4 at *
  generalize L + 1 + 1 + 1 = c3 at *
  generalize L + 1 + 1 = c2 at *
  generalize L + 1 = c1 at *
  show wpAny _ _ (execs (fBody 20) (lawE L a cd c1 c2 c3 c4 c5 c6 c7 c8)) _ _ _
  have hu1 : (A.deeper (lawE L a cd c1 c2 c3 c4 c5 c6 c7 c8)).units + 200 < cLine := by show A.units + 3 + 200 < cLine; omega
  have hR1 : (A.deeper (lawE L a cd c1 c2 c3 c4 c5 c6 c7 c8)).depth + 2 < recursionLimit := by show A.depth + 1 + 2 < recursionLimit; omega
  have hh1 : (A.deeper (lawE L a cd c1 c2 c3 c4 c5 c6 c7 c8)).handled = none := hh
  show wpAny (model prog w) (A.deeper (lawE L a cd c1 c2 c3 c4 c5 c6 c7 c8)) _ _ _ _
  generalize A.deeper (lawE L a cd c1 c2 c3 c4 c5 c6 c7 c8) = B at *
  have hln := hi.length
  refine wpAny_execs_cons ?_
  refine wpAny_mono (Q := fun f' s' => f' = .next ∧ ∃ h' t' nb nv ns', s' = ⟨h', g, d, t', o⟩ ∧ IntsAre nv ns' ∧ 1 ≤ ns'.length ∧ ns'.length ≤ 63 ∧
    St mg mb h [(nb, .lst nv), (c8, .cell none), (c7, .cell none), (c6, .cell none), (c5, .cell none), (c4, .cell none), (c3, .cell none), (c2, .cell none), (c1, .cell none), (L, .ns [("numbers", .ref nb)])] h') ?_ ?_ (fun _ _ e => e)
  · repeat walk_at "x1"
    refine r_ne_nil (St.oldf (by assumption) hs) (by walk_at "fact") (by omega) ?_
    repeat walk_at "x1"
    rcases xs with _ | ⟨x, r⟩
    · rw [if_neg (by simp)]
      repeat walk_at "x1"
      have D := ‹St mg mb h _ _›
      refine ⟨by first | rfl | trivial, _, _, _, [.int 5 _, .int 23 _, .int 12 _, .int 7 _, .int 25 _, .int 16 _, .int 1 _, .int 14 _], [5, 23, 12, 7, 25, 16, 1, 14], rfl, ?_, by decide, by decide, (D.sub (N' := [(_, .lst [.int 5 _, .int 23 _, .int 12 _, .int 7 _, .int 25 _, .int 16 _, .int 1 _, .int 14 _]), (c8, .cell none), (c7, .cell none), (c6, .cell none), (c5, .cell none), (c4, .cell none), (c3, .cell none), (c2, .cell none), (c1, .cell none), (L, .ns _)]) (by walk_at "subl")).see (E' := [("numbers", .ref _)]) (by walk_at "upd") (by walk_at "sees")⟩
      repeat constructor
    · rw [if_pos (by simp)]
      repeat walk_at "x1"
      refine r_list_copy (by assumption) (St.oldf (by assumption) hs) (by omega) fun nb h' D => ?_
      repeat walk_at "x1"
      have D := ‹St mg mb h _ _›
      exact ⟨by first | rfl | trivial, _, _, _, _, ns, rfl, hi, by rw [← hln]; simp, h63, (D.sub (N' := [(nb, .lst (x :: r)), (c8, .cell none), (c7, .cell none), (c6, .cell none), (c5, .cell none), (c4, .cell none), (c3, .cell none), (c2, .cell none), (c1, .cell none), (L, .ns _)]) (by walk_at "subl")).see (E' := [("numbers", .ref nb)]) (by walk_at "upd") (by walk_at "sees")⟩
  · rintro f' s' ⟨rfl, h', t', nb, nv, ns', rfl, hi', hl1, hl63, D⟩
    show wpAny _ _ (execs _ _) _ _ _
    clear hi hs hln
    have hln := hi'.length
    have lnv : nv.length ≤ 1000 := by omega
    repeat walk_at "x1"
    refine r_min2 hh1 (by assumption) fun h' t' tn D => ?_
    rw [nat_min]
    have hn1 : 1 ≤ min 6 ((nv.length + 1) / 2) := by omega
    have hn2 : 2 * min 6 ((nv.length + 1) / 2) ≤ ns'.length + 1 := by omega
    have hn6 : min 6 ((nv.length + 1) / 2) ≤ 6 := by omega
    generalize min 6 ((nv.length + 1) / 2) = n at *
    refine r_st D (by walk_at "upd") fun h' t' D => ?_
    show wpAny _ _ (execs _ _) _ _ _
    refine wpAny_execs_cons ?_
    refine wpAny_mono (Q := fun f' s' => f' = .next ∧ ∃ h' t' fr tf, s' = ⟨h', g, d, t', o⟩ ∧
      St mg mb h [(nb, .lst nv), (c8, .cell none), (c7, .cell none), (c6, .cell none), (c5, .cell none), (c4, .cell none), (c3, .cell none), (c2, .cell none), (c1, .cell (some (bif fr then sepV false tf else emptyV false tf))), (L, .ns [("numbers", .ref nb), ("count", .int ((n : Nat) : Int) tn)])] h') ?_ ?_ (fun _ _ e => e)
    · repeat walk_at "x1"
      refine r_sum hh1 (by assumption) (by walk_at "fact") hi' fun h' t' ts D => ?_
      repeat walk_at "x1"
      refine ite_dec (fun hz => ?_) (fun hz => ?_)
      · repeat walk_at "x1"
        have D := ‹St mg mb h _ _›
        exact ⟨by first | rfl | trivial, _, _, true, _, rfl, D.see (E' := [("numbers", .ref nb), ("count", .int ((n : Nat) : Int) tn)]) (by walk_at "upd") (by walk_at "sees")⟩
      · repeat walk_at "x1"
        have D := ‹St mg mb h _ _›
        exact ⟨by first | rfl | trivial, _, _, false, _, rfl, D.see (E' := [("numbers", .ref nb), ("count", .int ((n : Nat) : Int) tn)]) (by walk_at "upd") (by walk_at "sees")⟩
    · rintro f' s' ⟨rfl, h', t', fr, tf, rfl, D⟩
      show wpAny _ _ (execs _ _) _ _ _
      repeat walk_at "x1"
      refine r_sum hh1 (by assumption) (by walk_at "fact") hi' fun h' t' ts D => ?_
      repeat ((fail_if_success (with_reducible show wpAny _ _ (newList _) _ _ _)); walk_at "x1")
      refine r_newList (by assumption) fun fa h' D => ?_
      repeat ((fail_if_success (with_reducible show wpAny _ _ (newList _) _ _ _)); walk_at "x1")
      refine r_newList (by assumption) fun ma h' D => ?_
      repeat ((fail_if_success (with_reducible show wpAny _ _ (newList _) _ _ _)); walk_at "x1")
      refine r_newList (by assumption) fun ta h' D => ?_
      refine r_st D (by walk_at "upd") fun h' t' D => ?_
      show wpAny _ _ (execs ((fBody 20).drop 7) _) _ _ _
      have D := D.see (E' := [("numbers", .ref nb), ("count", .int ((n : Nat) : Int) tn), ("tops", .ref ta)]) (by walk_at "upd") (by walk_at "sees")
      have D := D.perm ((List.Perm.append (List.reverse_perm [(ta, _), (ma, _), (fa, _), (nb, _)]) ((List.Perm.append (List.reverse_perm [(c4, _), (c3, _), (c2, _), (c1, _)]) (List.Perm.refl ([(L, _)] ++ [(c8, _), (c7, _), (c6, _), (c5, _)]))).trans (List.perm_append_comm (l₁ := [(c4, _), (c3, _), (c2, _), (c1, _), (L, _)]) (l₂ := [(c8, _), (c7, _), (c6, _), (c5, _)])))))
      exact law_end (m := decide ((ns'.sum.fdiv 2).fmod 2 = 1)) (f := fr) hh1 hu1 hR1 Fs hi' hl1 (by omega) hn1 hn2 hn6 D fun h' t' k => hQ h' t' k
end
end Mine

end
section
open PySem PySem.Calls PySem.W PyProof.Rows
set_option maxRecDepth 100000
set_option maxHeartbeats 4000000
namespace Mine
def fPos (i : Nat) : Pos := match stmtAt i with | some (.FunctionDef _ _ _ _ _ _ _ _ _ p) => p | _ => default
def Chk (p : Program) (name : Str) (i : Nat) : Prop := (recsOf p).find? (fun d => d.name == name) = some ⟨name, fPar i, fBody i, fScope i, fPos i⟩
section
variable {p : Program} {loose : List Str} {mean : ExcName → Option Value} {mg mb : Str → Option Value} {h : Heap}
theorem fn_of (T : Top p loose mean mg mb h) {name : Str} {i : Nat} (c : Chk p name i) : ∃ a, Fn mg h name i a := by
  obtain ⟨a, o, pm, code, doc, h1, h2, h3, h4⟩ := T.fn _ (List.mem_of_find?_eq_some c)
  exact ⟨a, h1, o, pm, code, doc, h2, h3, h4⟩
structure Chks (p : Program) : Prop where
  row : Chk p "_law_row" 17
  cp : Chk p "commonpath" 15
  fsp : Chk p "fspath" 9
  dir : Chk p "dirname" 14
  sep : Chk p "_get_sep" 13
  climb : Chk p "_law_climb" 18
  depth : Chk p "_law_depth" 19
  law : Chk p "law" 20
theorem fns_of (T : Top p loose mean mg mb h) (c : Chks p) : Fns mg h := ⟨fn_of T c.row, fn_of T c.cp, fn_of T c.fsp, fn_of T c.dir, fn_of T c.sep, fn_of T c.climb, fn_of T c.depth⟩
def freeB (p : Program) (loose : List Str) : Bool := blts.all fun q => !startupNames.contains q.1 && !loose.contains q.1 && !((recsOf p).map (·.name)).contains q.1 && !((litsOf p).map (·.1)).contains q.1 && !((clssOf p loose).map (·.name)).contains q.1
theorem lookup_mem {x : Str} {v : Value} : ∀ {l : List (Str × Value)}, l.lookup x = some v → (x, v) ∈ l
  | [], e => by cases e
  | (y, u) :: r, e => by
    rw [List.lookup_cons] at e
    by_cases c : x = y
    · subst c
      rw [beq_self_eq_true] at e
      cases e; exact .head _
    · rw [beq_eq_false_iff_ne.mpr c] at e
      exact .tail _ (lookup_mem e)
theorem boot_len : bootBuiltins "len" = some (.builtin "len") := by kernel_rfl
theorem boot_min : bootBuiltins "min" = some (.builtin "min") := by kernel_rfl
theorem boot_max : bootBuiltins "max" = some (.builtin "max") := by kernel_rfl
theorem boot_sum : bootBuiltins "sum" = some (.builtin "sum") := by kernel_rfl
theorem boot_sorted : bootBuiltins "sorted" = some (.builtin "sorted") := by kernel_rfl
theorem boot_isinstance : bootBuiltins "isinstance" = some (.builtin "isinstance") := by kernel_rfl
theorem boot_issubclass : bootBuiltins "issubclass" = some (.builtin "issubclass") := by kernel_rfl
theorem boot_range : bootBuiltins "range" = some (.type "range") := by kernel_rfl
theorem boot_list : bootBuiltins "list" = some (.type "list") := by kernel_rfl
theorem boot_type : bootBuiltins "type" = some (.type "type") := by kernel_rfl
theorem boot_bytes : bootBuiltins "bytes" = some (.type "bytes") := by kernel_rfl
theorem boot_str : bootBuiltins "str" = some (.type "str") := by kernel_rfl
theorem boot_tuple : bootBuiltins "tuple" = some (.type "tuple") := by kernel_rfl
theorem boot_map : bootBuiltins "map" = some (.type "map") := by kernel_rfl
theorem boot_enumerate : bootBuiltins "enumerate" = some (.type "enumerate") := by kernel_rfl
theorem boot_blts {q : Str × Value} (h : q ∈ blts) : bootBuiltins q.1 = some q.2 := by
  unfold blts at h
  simp only [List.mem_cons, List.not_mem_nil, or_false] at h
  rcases h with rfl | rfl | rfl | rfl | rfl | rfl | rfl | rfl | rfl | rfl | rfl | rfl | rfl | rfl | rfl
  · exact boot_len
  · exact boot_min
  · exact boot_max
  · exact boot_sum
  · exact boot_sorted
  · exact boot_isinstance
  · exact boot_issubclass
  · exact boot_range
  · exact boot_list
  · exact boot_type
  · exact boot_bytes
  · exact boot_str
  · exact boot_tuple
  · exact boot_map
  · exact boot_enumerate
theorem name_blts : (blts.all fun q => q.1 != ("__name__" : Str)) = true := by decide +kernel
theorem wd_of (T : Top p loose mean mg mb h) (c : freeB p loose = true) : Wd mg mb h := by
  refine ⟨T.g, T.b, T.nolimit, fun x v e => ?_⟩
  have hm := lookup_mem e
  unfold freeB at c
  have c := List.all_eq_true.mp c _ hm
  simp only [Bool.and_eq_true, Bool.not_eq_true', List.contains_eq_mem, decide_eq_false_iff_not] at c
  obtain ⟨⟨⟨⟨a1, a2⟩, a3⟩, a4⟩, a5⟩ := c
  have hn := List.all_eq_true.mp name_blts _ hm
  exact ⟨T.free x a1 a2 a3 a4 a5, (T.builtins x (bne_iff_ne.mp hn)).trans (boot_blts hm)⟩
theorem fact_of_well {P : Params} {l : Addr} {xs : List Value} {ds : List WData} (w1 : Well P h (.ref l) (.list ds)) (hL : h.IsList l xs.toArray) : (Fact.lst xs).at h l := by
  obtain ⟨o, ho, _, n, hd⟩ := hL
  cases w1 with
  | @list _ vs _ e _ =>
    rw [e] at ho
    obtain rfl := Option.some.inj ho
    refine ⟨_, e, rfl, rfl, rfl, 0, ?_⟩
    injection hd with h1 _
    show Data.seq vs.toArray 0 = Data.seq xs.toArray 0
    rw [h1]
end
end Mine

end
open PySem PySem.Calls PySem.W PyProof.Rows
set_option maxRecDepth 100000 in
set_option maxHeartbeats 8000000 in
theorem PySem.Challenge.cw_dh5003_01_holds : PySem.Challenge.rw_dh5003_01.Holds := by
  w_on; o_law; k_head; (case hw => w_witness2)
  k_fill
  intro w s₀ s₁ mg mb G Y fa o pm cd doc dV kV ho hd hcd hD hmg hg args vals as hpre hlay hrd hwl hlo
  refine Ground.open G ?_
  intro T B D TE TW
  wrow_args hpre hlay hrd hwl hlo
  obtain ⟨a, Fl⟩ := Mine.fn_of T (show Mine.Chk _ "law" 20 from by unfold Mine.Chk; kernel_rfl)
  have ea : a = fa := by
    have e1 := Fl.g
    have e2 : mg "law" = some (.ref fa) := hmg
    rw [e1] at e2
    injection e2 with e2
    injection e2
  subst ea
  rename_i xs _ hL _ w1 _ hI _ h63 _
  refine Mine.law_true (h := s₁.heap) (g := s₁.gens) (d := s₁.drawn) (t := s₁.toks) (o := s₁.os) rfl (by decide +kernel) (by decide +kernel) (Mine.wd_of T (by decide +kernel))
    (Mine.fns_of T ⟨by unfold Mine.Chk; kernel_rfl, by unfold Mine.Chk; kernel_rfl, by unfold Mine.Chk; kernel_rfl, by unfold Mine.Chk; kernel_rfl, by unfold Mine.Chk; kernel_rfl, by unfold Mine.Chk; kernel_rfl, by unfold Mine.Chk; kernel_rfl, by unfold Mine.Chk; kernel_rfl⟩)
    Fl (Mine.fact_of_well w1 hL) hI (by omega) fun h' t' k => ?_
  exact GoodW.toG ⟨.inl ⟨_, .bool true, [], rfl, fun _ => rfl, .bool true, by wrow_post, unshared_nil⟩, k, rfl, hg⟩
