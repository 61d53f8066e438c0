import PyProof.Rows.All
import Wide.All
import OpenK.AllK
import Wide.FinOn
import PySem.Challenge.RW_mr0285_01
open PySem PySem.W PyProof.Rows
set_option Elab.async false
set_option maxRecDepth 100000
set_option maxHeartbeats 8000000
set_option linter.unusedVariables false
set_option linter.unusedSimpArgs false
namespace Mine

/-- abstract data -/
inductive D where
  | none
  | bool (b : Bool)
  | int (i : Int)
  | str (l : List Nat)
  | list (xs : List D)
  | tup (xs : List D)
  | dict (w : World) (kvs : List (List Nat × List Nat))
  | inst (C : Addr) (ns : List Str) (ds : List D)
deriving Inhabited

noncomputable abbrev Zone := Addr → Option Obj

noncomputable abbrev listObj (vs : List Value) (n : Nat) : Obj := { cls := .type "list", data := .seq vs.toArray n }
noncomputable abbrev tupObj (vs : List Value) (n : Nat) : Obj := { cls := .type "tuple", data := .seq vs.toArray n }
noncomputable abbrev st (l : List Nat) : Str := ⟨l.toArray⟩

/-- the entries of a dict of strs -/
inductive DRep0 (w : World) : List DictEntry → List (List Nat × List Nat) → Prop where
  | nil : DRep0 w [] []
  | cons {k v : List Nat} {t u : Tok} {es kvs} : k.length ≤ sizeLine → v.length ≤ sizeLine → DRep0 w es kvs → DRep0 w (⟨hashStr w (st k), .str (st k) t, .str (st v) u⟩ :: es) ((k, v) :: kvs)
noncomputable def DRep (w : World) (es : List DictEntry) (kvs : List (List Nat × List Nat)) : Prop := DRep0 w es kvs ∧ (kvs.map (·.1)).Nodup

mutual
noncomputable def Rep (Z : Zone) : D → Value → Prop
  | .none, v => v = .none
  | .bool b, v => v = .bool b
  | .int i, v => ∃ t, v = .int i t
  | .str l, v => l.length ≤ sizeLine ∧ ∃ t, v = .str (st l) t
  | .list xs, v => ∃ a vs n, v = .ref a ∧ Z a = some (listObj vs n) ∧ vs.length ≤ sizeLine ∧ Reps Z xs vs
  | .tup xs, v => ∃ a vs n, v = .ref a ∧ Z a = some (tupObj vs n) ∧ vs.length ≤ sizeLine ∧ Reps Z xs vs
  | .dict w kvs, v => ∃ a es n, v = .ref a ∧ Z a = some (dictOf es n) ∧ es.length ≤ sizeLine ∧ DRep w es kvs ∧ (a == sysModules) = false
  | .inst C ns ds, v => ∃ a dx es n vs, v = .ref a ∧ Z a = some (instObj C dx) ∧ Z dx = some (dictOf es n) ∧ es.map (·.val) = vs ∧ Reps Z ds vs ∧
      (∀ x, getL x es = some ((ns.zip vs).lookup x))
noncomputable def Reps (Z : Zone) : List D → List Value → Prop
  | [], vs => vs = []
  | x :: xs, vs => ∃ v r, vs = v :: r ∧ Rep Z x v ∧ Reps Z xs r
end

noncomputable def ZSub (Z Z' : Zone) : Prop := ∀ a o, Z a = some o → Z' a = some o
theorem ZSub.refl (Z : Zone) : ZSub Z Z := fun _ _ e => e
theorem ZSub.trans {Z Z' Z'' : Zone} (a : ZSub Z Z') (b : ZSub Z' Z'') : ZSub Z Z'' := fun x o e => b x o (a x o e)

mutual
theorem Rep.mono {Z Z' : Zone} (hz : ZSub Z Z') : ∀ {d : D} {v : Value}, Rep Z d v → Rep Z' d v
  | .none, _, h => h
  | .bool _, _, h => h
  | .int _, _, h => h
  | .str _, _, h => h
  | .list _, _, ⟨a, vs, n, e, hz', hl, h⟩ => ⟨a, vs, n, e, hz _ _ hz', hl, Reps.mono hz h⟩
  | .tup _, _, ⟨a, vs, n, e, hz', hl, h⟩ => ⟨a, vs, n, e, hz _ _ hz', hl, Reps.mono hz h⟩
  | .dict _ _, _, ⟨a, es, n, e, hz', h⟩ => ⟨a, es, n, e, hz _ _ hz', h⟩
  | .inst _ _ _, _, ⟨a, dx, es, n, vs, e, h1, h2, h3, h4, h5⟩ => ⟨a, dx, es, n, vs, e, hz _ _ h1, hz _ _ h2, h3, Reps.mono hz h4, h5⟩
theorem Reps.mono {Z Z' : Zone} (hz : ZSub Z Z') : ∀ {ds : List D} {vs : List Value}, Reps Z ds vs → Reps Z' ds vs
  | [], _, h => h
  | _ :: _, _, ⟨v, r, e, h1, h2⟩ => ⟨v, r, e, Rep.mono hz h1, Reps.mono hz h2⟩
end

structure Glo where
  prog : Program
  w : World
  K : Frag
  H : Heap
  mg : Str → Option Value
  mb : Str → Option Value

structure GloOk (G : Glo) : Prop where
  kin : G.K.In G.H
  g : G.H.Ns mainGlobals G.mg
  b : G.H.Ns builtinsNs G.mb
  nolimit : G.H.NoLimit
  builtins : ∀ x : Str, x ≠ "__name__" → G.mb x = bootBuiltins x

noncomputable abbrev Glo.M (G : Glo) : Model := model G.prog G.w

/-- a zone within a heap, holding the top -/
structure ZOk (G : Glo) (Z : Zone) (h : Heap) : Prop where
  top : ∀ a o, G.H.get? a = some o → Z a = some o
  zin : ∀ a o, Z a = some o → h.get? a = some o

theorem ZOk.keep {G : Glo} {Z : Zone} {h : Heap} (z : ZOk G Z h) : ∀ a o, G.H.get? a = some o → h.get? a = some o := fun a o e => z.zin _ _ (z.top _ _ e)

structure SameRest (s s' : Shared) : Prop where
  gens : s'.gens = s.gens
  drawn : s'.drawn = s.drawn
  os : s'.os = s.os
theorem SameRest.refl (s : Shared) : SameRest s s := ⟨rfl, rfl, rfl⟩
theorem SameRest.trans {a b c : Shared} (x : SameRest a b) (y : SameRest b c) : SameRest a c := ⟨y.1.trans x.1, y.2.trans x.2, y.3.trans x.3⟩

/-- an expression's work: the heap grows, the zone grows by new objects alone -/
structure Grow (s : Shared) (Z : Zone) (s' : Shared) (Z' : Zone) : Prop where
  keep : ∀ a o, s.heap.get? a = some o → s'.heap.get? a = some o
  sub : ZSub Z Z'
  new : ∀ a o, Z' a = some o → Z a = some o ∨ s.heap.get? a = none
  zin : ∀ a o, Z' a = some o → s'.heap.get? a = some o
  rest : SameRest s s'

theorem Grow.refl {s : Shared} {Z : Zone} (hz : ∀ a o, Z a = some o → s.heap.get? a = some o) : Grow s Z s Z :=
  ⟨fun _ _ e => e, ZSub.refl _, fun _ _ e => .inl e, hz, .refl _⟩
theorem Grow.trans {s s' s'' : Shared} {Z Z' Z'' : Zone} (a : Grow s Z s' Z') (b : Grow s' Z' s'' Z'') : Grow s Z s'' Z'' :=
  ⟨fun x o e => b.keep _ _ (a.keep _ _ e), a.sub.trans b.sub, fun x o e => (b.new x o e).elim (fun e => a.new x o e) fun e => .inr (by
    cases q : s.heap.get? x with
    | none => rfl
    | some o' => rw [a.keep _ _ q] at e; cases e), b.zin, a.rest.trans b.rest⟩
theorem Grow.tokA {s : Shared} {Z : Zone} {n : Nat} (hz : ∀ a o, Z a = some o → s.heap.get? a = some o) : Grow s Z { s with toks := n } Z :=
  ⟨fun _ _ e => e, ZSub.refl _, fun _ _ e => .inl e, hz, ⟨rfl, rfl, rfl⟩⟩
theorem Grow.tok {s : Shared} {Z : Zone} {n : Nat} (hz : ∀ a o, Z a = some o → s.heap.get? a = some o) (hn : s.toks ≤ n) : Grow s Z { s with toks := n } Z := .tokA hz
theorem ZOk.grow {G : Glo} {Z Z' : Zone} {s s' : Shared} (z : ZOk G Z s.heap) (g : Grow s Z s' Z') : ZOk G Z' s'.heap := ⟨fun a o e => g.sub _ _ (z.top _ _ e), g.zin⟩

noncomputable def Zone.put (Z : Zone) (a : Addr) (o : Obj) : Zone := fun b => if b = a then some o else Z b
theorem Zone.put_same (Z : Zone) (a : Addr) (o : Obj) : Z.put a o a = some o := by simp [Zone.put]
theorem Zone.put_sub {Z : Zone} {a : Addr} {o : Obj} (h : Z a = none) : ZSub Z (Z.put a o) := fun b o' e => by
  unfold Zone.put
  split
  · rename_i q; subst q; rw [h] at e; cases e
  · exact e
theorem Zone.put_cases {Z : Zone} {a b : Addr} {o o' : Obj} (h : Z.put a o b = some o') : (b = a ∧ o' = o) ∨ Z b = some o' := by
  unfold Zone.put at h
  split at h
  · rename_i q; exact .inl ⟨q, (Option.some.inj h).symm⟩
  · exact .inr h

theorem get?_size (h : Heap) : h.get? h.objs.size = none := by
  cases q : h.get? h.objs.size with
  | none => rfl
  | some o => exact absurd (Heap.lt_size q) (Nat.lt_irrefl _)

/-- a new frozen object -/
theorem Grow.push {s : Shared} {Z : Zone} {o : Obj} {n : Nat} (hz : ∀ a o, Z a = some o → s.heap.get? a = some o) (hf : o.isFreed = false) (hn : s.toks ≤ n) :
    Grow s Z { s with heap := s.heap.push o, toks := n } (Z.put s.heap.objs.size o) where
  keep := fun _ _ e => Heap.get?_push_of_some _ e
  sub := Zone.put_sub (by cases q : Z s.heap.objs.size with | none => rfl | some o' => exact absurd (Heap.lt_size (hz _ _ q)) (Nat.lt_irrefl _))
  new := fun a o' e => (Zone.put_cases e).elim (fun ⟨q, _⟩ => .inr (q ▸ get?_size _)) .inl
  zin := fun a o' e => (Zone.put_cases e).elim (fun ⟨q, r⟩ => by subst q; subst r; exact Heap.get?_push_size _ hf) fun e => Heap.get?_push_of_some _ (hz _ _ e)
  rest := ⟨rfl, rfl, rfl⟩
/-- a new object that is dropped -/
theorem Grow.drop {s : Shared} {Z : Zone} {h' : Heap} {n : Nat} (hz : ∀ a o, Z a = some o → s.heap.get? a = some o) (hk : ∀ a o, s.heap.get? a = some o → h'.get? a = some o) (hn : s.toks ≤ n) :
    Grow s Z { s with heap := h', toks := n } Z where
  keep := hk
  sub := ZSub.refl _
  new := fun _ _ e => .inl e
  zin := fun a o e => hk _ _ (hz _ _ e)
  rest := ⟨rfl, rfl, rfl⟩

theorem Grow.dropA {s : Shared} {Z : Zone} {h' : Heap} {n : Nat} (hz : ∀ a o, Z a = some o → s.heap.get? a = some o) (hk : ∀ a o, s.heap.get? a = some o → h'.get? a = some o) :
    Grow s Z { s with heap := h', toks := n } Z where
  keep := hk
  sub := ZSub.refl _
  new := fun _ _ e => .inl e
  zin := fun a o e => hk _ _ (hz _ _ e)
  rest := ⟨rfl, rfl, rfl⟩

/-- what a name of the frame holds -/
inductive Ent where
  | unset
  | val (d : D)
  | own (xs : List D)
  | ownd (kvs : List (List Nat × List Nat))
  | oinst (a0 : Addr) (C : Addr) (ns : List Str) (ds : List D)
  | glob (v : Value)

noncomputable abbrev Rho := List (Str × Ent)

/-- a frame -/
structure Cx where
  G : Glo
  A : Around
  env : Env
  room : Nat
  B : Zone
  Zb : Zone
  s0 : Shared
  wr : Bool

noncomputable abbrev Cx.L (C : Cx) : Addr := C.env.locals
noncomputable abbrev Cx.M (C : Cx) : Model := C.G.M

structure CxOk (C : Cx) : Prop where
  glo : GloOk C.G
  kind : C.env.scope.kind = .function
  globals : C.env.globals = mainGlobals
  builtins : C.env.builtins = builtinsNs
  handled : C.A.handled = none
  depth : C.A.depth + C.room < recursionLimit
  units : C.A.units + 64 * C.room + 64 < cLine
  top : ∀ a o, C.G.H.get? a = some o → C.Zb a = some o

/-- the name's value -/
noncomputable def VarIs (env : Env) (h : Heap) (m : Str → Option Value) (x : Str) (v : Value) : Prop :=
  (env.kindOf x = some .local ∧ m x = some v) ∨ (env.kindOf x = some .cell ∧ ∃ c o, env.cells.lookup x = some c ∧ h.get? c = some o ∧ o.data = .cell (some v))

/-- the name has a place -/
noncomputable def VarAt (env : Env) (x : Str) : Prop := (x == ("__debug__" : Str)) = false ∧ (env.kindOf x = some .local ∨ (env.kindOf x = some .cell ∧ ∃ c, env.cells.lookup x = some c))

noncomputable def EntOk (C : Cx) (Z : Zone) (h : Heap) (m : Str → Option Value) (x : Str) : Ent → Prop
  | .unset => VarAt C.env x
  | .val d => VarAt C.env x ∧ ∃ v, VarIs C.env h m x v ∧ Rep Z d v
  | .own xs => VarAt C.env x ∧ ∃ a vs n, VarIs C.env h m x (.ref a) ∧ h.get? a = some (listObj vs n) ∧ Z a = none ∧ C.B a = none ∧ vs.length ≤ sizeLine ∧ Reps Z xs vs
  | .ownd kvs => VarAt C.env x ∧ ∃ a es n, VarIs C.env h m x (.ref a) ∧ h.get? a = some (dictOf es n) ∧ Z a = none ∧ C.B a = none ∧ a ≠ C.L ∧ es.length ≤ sizeLine ∧ DRep C.G.w es kvs ∧ (a == sysModules) = false
  | .oinst a0 K ns ds => VarAt C.env x ∧ ∃ a dx es n vs, VarIs C.env h m x (.ref a) ∧ h.get? a = some (instObj K dx) ∧ h.get? dx = some (dictOf es n) ∧ Z a = none ∧ Z dx = none ∧ C.B dx = none ∧ C.B a = none ∧ dx ≠ C.L ∧ a ≠ C.L ∧ a ≠ dx ∧
      es.map (·.val) = vs ∧ Reps Z ds vs ∧ (∀ x, getL x es = some ((ns.zip vs).lookup x)) ∧ a = a0
  | .glob v => C.env.kindOf x = some .globalImplicit ∧ (x == ("__debug__" : Str)) = false ∧ (C.G.mg x = some v ∨ (C.G.mg x = none ∧ C.G.mb x = some v))

noncomputable def Ent.isOwn : Ent → Bool
  | .own _ | .ownd _ | .oinst .. => true
  | _ => false

structure Sat (C : Cx) (ρ : Rho) (Z : Zone) (s : Shared) : Prop where
  cx : CxOk C
  nodup : (ρ.map (·.1)).Nodup
  ns : ∃ m, s.heap.Ns C.L m ∧ (∀ p ∈ ρ, EntOk C Z s.heap m p.1 p.2) ∧
    (∀ p ∈ ρ, ∀ q ∈ ρ, p.2.isOwn = true → q.2.isOwn = true → ∀ a, VarIs C.env s.heap m p.1 (.ref a) → VarIs C.env s.heap m q.1 (.ref a) → p.1 = q.1)
  keep : ∀ a o, C.B a = some o → s.heap.get? a = some o
  bL : C.B C.L = none
  z0 : ZSub C.Zb Z
  zin : ∀ a o, Z a = some o → s.heap.get? a = some o
  zL : Z C.L = none
  znew : ∀ a o, Z a = some o → C.Zb a = some o ∨ C.B a = none
  cells : ∀ x c, C.env.cells.lookup x = some c → Z c = none ∧ c ≠ C.L ∧ (∃ o v, s.heap.get? c = some o ∧ o.data = .cell v) ∧ (C.wr = true → C.B c = none)
  cinj : ∀ x y c, C.env.cells.lookup x = some c → C.env.cells.lookup y = some c → x = y
  rest : SameRest C.s0 s

theorem Sat.zok {C : Cx} {ρ : Rho} {Z : Zone} {s : Shared} (S : Sat C ρ Z s) : ZOk C.G Z s.heap := ⟨fun a o e => S.z0 _ _ (S.cx.top _ _ e), S.zin⟩

theorem VarIs.keep {env : Env} {h h' : Heap} {m : Str → Option Value} {x : Str} {v : Value} (k : ∀ a o, h.get? a = some o → h'.get? a = some o) (V : VarIs env h m x v) : VarIs env h' m x v :=
  V.imp id fun ⟨a, c, o, b, e, d⟩ => ⟨a, c, o, b, k _ _ e, d⟩
theorem VarIs.uniq {env : Env} {h : Heap} {m : Str → Option Value} {x : Str} {v v' : Value} (V : VarIs env h m x v) (V' : VarIs env h m x v') : v = v' := by
  rcases V with ⟨k, e⟩ | ⟨k, c, o, a, b, d⟩ <;> rcases V' with ⟨k', e'⟩ | ⟨k', c', o', a', b', d'⟩
  · rw [e] at e'; exact Option.some.inj e'
  · rw [k] at k'; cases k'
  · rw [k] at k'; cases k'
  · rw [a] at a'; cases a'; rw [b] at b'; cases b'; rw [d] at d'; cases d'; rfl
theorem VarIs.back {env : Env} {h h' : Heap} {m : Str → Option Value} {x : Str} {v v' : Value} (k : ∀ a o, h.get? a = some o → h'.get? a = some o) (V : VarIs env h m x v) (V' : VarIs env h' m x v') : VarIs env h m x v' := by
  rw [(V.keep k).uniq V'] at V; exact V

theorem Sat.grow {C : Cx} {ρ : Rho} {Z Z' : Zone} {s s' : Shared} (S : Sat C ρ Z s) (g : Grow s Z s' Z') : Sat C ρ Z' s' := by
  obtain ⟨m, hm, he, hap⟩ := S.ns
  have hn : ∀ a o, s.heap.get? a = some o → Z a = none → Z' a = none := fun a o e z => by
    cases q : Z' a with
    | none => rfl
    | some o' => rcases g.new _ _ q with q | q
                 · rw [z] at q; cases q
                 · rw [e] at q; cases q
  obtain ⟨oL, _, _, hL, _⟩ := id hm
  refine ⟨S.cx, S.nodup, ⟨m, hm.keeps g.keep, fun p hp => ?_, fun p hp q hq o1 o2 a v1 v2 => ?_⟩, fun a o e => g.keep _ _ (S.keep _ _ e), S.bL, S.z0.trans g.sub, g.zin, hn _ _ hL S.zL, fun a o e => ?_, fun x c e => ?_, S.cinj, S.rest.trans g.rest⟩
  · have := he p hp
    obtain ⟨x, e⟩ := p
    cases e with
    | unset => exact this
    | val d => obtain ⟨w, v, hv, hr⟩ := this; exact ⟨w, v, hv.keep g.keep, hr.mono g.sub⟩
    | own xs => obtain ⟨w, a, vs, n, hv, h1, h2, h3, h4, h5⟩ := this; exact ⟨w, a, vs, n, hv.keep g.keep, g.keep _ _ h1, hn _ _ h1 h2, h3, h4, h5.mono g.sub⟩
    | ownd kvs => obtain ⟨w, a, es, n, hv, h1, h2, h3, h4, h5⟩ := this; exact ⟨w, a, es, n, hv.keep g.keep, g.keep _ _ h1, hn _ _ h1 h2, h3, h4, h5⟩
    | oinst a0 K ns ds => obtain ⟨w, a, dx, es, n, vs, hv, h1, h2, h3, h4, h5, h6, h7, h8, h9, h10, h11, h12⟩ := this; exact ⟨w, a, dx, es, n, vs, hv.keep g.keep, g.keep _ _ h1, g.keep _ _ h2, hn _ _ h1 h3, hn _ _ h2 h4, h5, h6, h7, h8, h9, h10, h11.mono g.sub, h12⟩
    | glob v => exact this
  · have own : ∀ p ∈ ρ, p.2.isOwn = true → ∀ a, VarIs C.env s'.heap m p.1 (.ref a) → VarIs C.env s.heap m p.1 (.ref a) := fun p hp ho a v => by
      have := he p hp
      obtain ⟨x, e⟩ := p
      cases e with
      | unset => cases ho
      | val d => cases ho
      | glob d => cases ho
      | own xs => obtain ⟨w, a, vs, n, hv, _⟩ := this; exact hv.back g.keep v
      | ownd xs => obtain ⟨w, a, vs, n, hv, _⟩ := this; exact hv.back g.keep v
      | oinst a0 K ns ds => obtain ⟨w, a, dx, es, n, vs, hv, _⟩ := this; exact hv.back g.keep v
    exact hap p hp q hq o1 o2 a (own p hp o1 a v1) (own q hq o2 a v2)
  · rcases g.new _ _ e with q | q
    · exact S.znew _ _ q
    · cases b : C.B a with
      | none => exact .inr rfl
      | some ob => rw [S.keep _ _ b] at q; cases q
  · obtain ⟨h1, h2, ⟨o, v, h3, h4⟩, h5⟩ := S.cells x c e
    exact ⟨hn _ _ h3 h1, h2, ⟨o, v, g.keep _ _ h3, h4⟩, h5⟩

/-- the expression comes to d -/
structure Ev (C : Cx) (ρ : Rho) (e : Expr) (d : D) : Prop where
  run : ∀ (s : Shared) (Z : Zone) (Q : Value → Shared → Prop) (E : Value → Shared → Prop), Sat C ρ Z s →
    (∀ v s' Z', Grow s Z s' Z' → Rep Z' d v → Q v s') → wpAny C.M C.A (eval e C.env) Q E s

end Mine
namespace Mine

theorem Ev.use {C : Cx} {ρ : Rho} {e : Expr} {d : D} {s : Shared} {Z : Zone} {Q E : Value → Shared → Prop} (h : Ev C ρ e d) (S : Sat C ρ Z s)
    (k : ∀ v s' Z', Grow s Z s' Z' → Sat C ρ Z' s' → Rep Z' d v → Q v s') : wpAny C.M C.A (eval e C.env) Q E s :=
  h.run s Z Q E S fun v s' Z' g r => k v s' Z' g (S.grow g) r

/-- a value-level operation of two -/
structure Op2 (C : Cx) (f : Value → Value → Sem Value) (d1 d2 d : D) : Prop where
  run : ∀ (s : Shared) (Z : Zone) (v1 v2 : Value) (Q E : Value → Shared → Prop), CxOk C → ZOk C.G Z s.heap → Rep Z d1 v1 → Rep Z d2 v2 →
    (∀ v s' Z', Grow s Z s' Z' → Rep Z' d v → Q v s') → wpAny C.M C.A (f v1 v2) Q E s
structure Op1 (C : Cx) (f : Value → Sem Value) (d1 d : D) : Prop where
  run : ∀ (s : Shared) (Z : Zone) (v1 : Value) (Q E : Value → Shared → Prop), CxOk C → ZOk C.G Z s.heap → Rep Z d1 v1 →
    (∀ v s' Z', Grow s Z s' Z' → Rep Z' d v → Q v s') → wpAny C.M C.A (f v1) Q E s

/-! lists of representations -/
theorem Reps.length {Z : Zone} : ∀ {ds : List D} {vs : List Value}, Reps Z ds vs → vs.length = ds.length
  | [], _, h => by rw [Reps] at h; subst h; rfl
  | _ :: _, _, h => by rw [Reps] at h; obtain ⟨v, r, rfl, _, h⟩ := h; simp [Reps.length h]
theorem Reps.get {Z : Zone} : ∀ {ds : List D} {vs : List Value} {i : Nat} {d : D}, Reps Z ds vs → ds[i]? = some d → ∃ v, vs[i]? = some v ∧ Rep Z d v
  | [], _, _, _, _, e => by simp at e
  | d :: ds, _, i, _, h, e => by
    rw [Reps] at h; obtain ⟨v, r, rfl, h1, h2⟩ := h
    cases i with
    | zero => simp at e; subst e; exact ⟨v, rfl, h1⟩
    | succ i => simp at e; obtain ⟨w, a, b⟩ := Reps.get h2 e; exact ⟨w, by simpa using a, b⟩
theorem Reps.nil {Z : Zone} : Reps Z [] [] := by rw [Reps]
theorem Reps.cons {Z : Zone} {d : D} {ds : List D} {v : Value} {vs : List Value} (h : Rep Z d v) (hs : Reps Z ds vs) : Reps Z (d :: ds) (v :: vs) := by rw [Reps]; exact ⟨v, vs, rfl, h, hs⟩
theorem Reps.append {Z : Zone} : ∀ {ds : List D} {vs : List Value} {ds' : List D} {vs' : List Value}, Reps Z ds vs → Reps Z ds' vs' → Reps Z (ds ++ ds') (vs ++ vs')
  | [], _, _, _, h, h' => by rw [Reps] at h; subst h; exact h'
  | _ :: _, _, _, _, h, h' => by rw [Reps] at h; obtain ⟨v, r, rfl, h1, h2⟩ := h; exact .cons h1 (.append h2 h')
theorem Reps.take {Z : Zone} : ∀ {ds : List D} {vs : List Value} (n : Nat), Reps Z ds vs → Reps Z (ds.take n) (vs.take n)
  | [], _, n, h => by rw [Reps] at h; subst h; simp [Reps]
  | _ :: _, _, 0, h => by simp [Reps]
  | _ :: _, _, n + 1, h => by rw [Reps] at h; obtain ⟨v, r, rfl, h1, h2⟩ := h; exact .cons h1 (.take n h2)
theorem Reps.drop {Z : Zone} : ∀ {ds : List D} {vs : List Value} (n : Nat), Reps Z ds vs → Reps Z (ds.drop n) (vs.drop n)
  | [], _, n, h => by rw [Reps] at h; subst h; simp [Reps]
  | _ :: _, _, 0, h => h
  | _ :: _, _, n + 1, h => by rw [Reps] at h; obtain ⟨v, r, rfl, h1, h2⟩ := h; exact .drop n h2
theorem Reps.set {Z : Zone} {d : D} {v : Value} (hd : Rep Z d v) : ∀ {ds : List D} {vs : List Value} (i : Nat), Reps Z ds vs → Reps Z (ds.set i d) (vs.set i v)
  | [], _, n, h => by rw [Reps] at h; subst h; simp [Reps]
  | _ :: _, _, 0, h => by rw [Reps] at h; obtain ⟨v, r, rfl, h1, h2⟩ := h; exact .cons hd h2
  | _ :: _, _, n + 1, h => by rw [Reps] at h; obtain ⟨v, r, rfl, h1, h2⟩ := h; exact .cons h1 (.set hd n h2)
theorem Reps.replicate {Z : Zone} {d : D} {v : Value} (hd : Rep Z d v) : ∀ n, Reps Z (List.replicate n d) (List.replicate n v)
  | 0 => .nil
  | n + 1 => .cons hd (.replicate hd n)

theorem st_append (a b : List Nat) : st a ++ st b = st (a ++ b) := by
  show Str.append _ _ = _
  unfold Str.append st; simp
theorem st_length (l : List Nat) : (st l).length = l.length := by simp [st, Str.length]

theorem isList_of {h : Heap} {a : Addr} {vs : List Value} {n : Nat} (e : h.get? a = some (listObj vs n)) : h.IsList a vs.toArray := ⟨_, e, rfl, n, rfl⟩

theorem rep_none {Z : Zone} {v : Value} : Rep Z .none v ↔ v = .none := by rw [Rep]
theorem rep_bool {Z : Zone} {v : Value} {b : Bool} : Rep Z (.bool b) v ↔ v = .bool b := by rw [Rep]
theorem rep_int {Z : Zone} {v : Value} {i : Int} : Rep Z (.int i) v ↔ ∃ t, v = .int i t := by rw [Rep]
theorem rep_str {Z : Zone} {v : Value} {l : List Nat} : Rep Z (.str l) v ↔ l.length ≤ sizeLine ∧ ∃ t, v = .str (st l) t := by rw [Rep]
theorem rep_list {Z : Zone} {v : Value} {xs : List D} : Rep Z (.list xs) v ↔ ∃ a vs n, v = .ref a ∧ Z a = some (listObj vs n) ∧ vs.length ≤ sizeLine ∧ Reps Z xs vs := by rw [Rep]
theorem rep_tup {Z : Zone} {v : Value} {xs : List D} : Rep Z (.tup xs) v ↔ ∃ a vs n, v = .ref a ∧ Z a = some (tupObj vs n) ∧ vs.length ≤ sizeLine ∧ Reps Z xs vs := by rw [Rep]
theorem rep_dict {Z : Zone} {v : Value} {w : World} {kvs : List (List Nat × List Nat)} : Rep Z (.dict w kvs) v ↔ ∃ a es n, v = .ref a ∧ Z a = some (dictOf es n) ∧ es.length ≤ sizeLine ∧ DRep w es kvs ∧ (a == sysModules) = false := by rw [Rep]
theorem reps_nil {Z : Zone} {vs : List Value} : Reps Z [] vs ↔ vs = [] := by rw [Reps]
theorem reps_cons {Z : Zone} {vs : List Value} {d : D} {ds : List D} : Reps Z (d :: ds) vs ↔ ∃ v r, vs = v :: r ∧ Rep Z d v ∧ Reps Z ds r := by rw [Reps]

/-! names and constants -/
section
variable {C : Cx} {ρ : Rho}

theorem Ev.name {x : Str} {p : Pos} {d : D} (hm : (x, Ent.val d) ∈ ρ) : Ev C ρ (.Name x p) d := by
  refine ⟨fun s Z Q E S k => ?_⟩
  obtain ⟨m, hn, he, _⟩ := S.ns
  obtain ⟨⟨hd, _⟩, v, hv, hr⟩ := he _ hm
  refine wpAny_Name ?_ hd
  have fin := k v s Z (.refl S.zin) hr
  rcases hv with ⟨k1, e⟩ | ⟨k1, c, o, a, b, e⟩
  · exact wpAny_loadName_local S.cx.kind k1 hn e fin
  · exact wpAny_loadName_cell S.cx.kind k1 a ⟨o, b, e⟩ fin

theorem Ev.none {k : Nat} {p : Pos} : Ev C ρ (.Constant .none k p) .none := ⟨fun s Z Q E S h => wpAny_Constant_none (h _ _ _ (.refl S.zin) (by simp [Rep]))⟩
theorem Ev.bool {b : Bool} {k : Nat} {p : Pos} : Ev C ρ (.Constant (.bool b) k p) (.bool b) := ⟨fun s Z Q E S h => wpAny_Constant_bool (h _ _ _ (.refl S.zin) (by simp [Rep]))⟩
theorem Ev.int {i : Int} {k : Nat} {p : Pos} : Ev C ρ (.Constant (.int i) k p) (.int i) := ⟨fun s Z Q E S h =>
  wpAny_Constant_int (h _ _ _ (.tok S.zin (Nat.le_succ _)) ⟨_, rfl⟩)⟩
theorem Ev.str {x : Str} {k : Nat} {p : Pos} {l : List Nat} (hx : x = st l) (hl : l.length ≤ sizeLine) : Ev C ρ (.Constant (.str x) k p) (.str l) := ⟨fun s Z Q E S h =>
  wpAny_Constant_str (h _ _ _ (.tok S.zin (Nat.le_succ _)) (by rw [Rep]; exact ⟨hl, _, by rw [hx]⟩))⟩

theorem Ev.binop {l r : Expr} {op : Operator} {p : Pos} {d1 d2 d : D} (h1 : Ev C ρ l d1) (h2 : Ev C ρ r d2) (hop : Op2 C (binaryOp op) d1 d2 d) : Ev C ρ (.BinOp l op r p) d := by
  refine ⟨fun s Z Q E S k => ?_⟩
  refine wpAny_BinOp (h1.use S fun v1 s1 Z1 g1 S1 r1 => h2.use S1 fun v2 s2 Z2 g2 S2 r2 => ?_)
  exact hop.run s2 Z2 v1 v2 Q E S.cx S2.zok (r1.mono g2.sub) r2 fun v s' Z' g r => k v s' Z' ((g1.trans g2).trans g) r

theorem Ev.compare {l r : Expr} {op : CmpOp} {p : Pos} {d1 d2 d : D} (h1 : Ev C ρ l d1) (h2 : Ev C ρ r d2) (hop : Op2 C (compareOp op) d1 d2 d) (hb : behindInMarks op r = false) : Ev C ρ (.Compare l [op] [r] p) d := by
  refine ⟨fun s Z Q E S k => ?_⟩
  refine wpAny_Compare1 (h1.use S fun v1 s1 Z1 g1 S1 r1 => h2.use S1 fun v2 s2 Z2 g2 S2 r2 => ?_) hb
  exact hop.run s2 Z2 v1 v2 Q E S.cx S2.zok (r1.mono g2.sub) r2 fun v s' Z' g r => k v s' Z' ((g1.trans g2).trans g) r

/-! truth -/
structure Tr (C : Cx) (ρ : Rho) (e : Expr) (b : Bool) : Prop where
  run : ∀ (s : Shared) (Z : Zone) (Q : Bool → Shared → Prop) (E : Value → Shared → Prop), Sat C ρ Z s →
    (∀ s' Z', Grow s Z s' Z' → Q b s') → wpAny C.M C.A (isTrue e C.env (eval e C.env)) Q E s
theorem Tr.use {e : Expr} {b : Bool} {s : Shared} {Z : Zone} {Q : Bool → Shared → Prop} {E : Value → Shared → Prop} (h : Tr C ρ e b) (S : Sat C ρ Z s)
    (k : ∀ s' Z', Grow s Z s' Z' → Sat C ρ Z' s' → Q b s') : wpAny C.M C.A (isTrue e C.env (eval e C.env)) Q E s := h.run s Z Q E S fun s' Z' g => k s' Z' g (S.grow g)

theorem Tr.compare {l r : Expr} {op : CmpOp} {p : Pos} {d1 d2 : D} {b : Bool} (h1 : Ev C ρ l d1) (h2 : Ev C ρ r d2) (hop : Op2 C (compareOp op) d1 d2 (.bool b)) (hb : behindInMarks op r = false) : Tr C ρ (.Compare l [op] [r] p) b := by
  refine ⟨fun s Z Q E S k => ?_⟩
  refine wpAny_isTrue_Compare1 (h1.use S fun v1 s1 Z1 g1 S1 r1 => h2.use S1 fun v2 s2 Z2 g2 S2 r2 => ?_) hb
  refine hop.run s2 Z2 v1 v2 _ E S.cx S2.zok (r1.mono g2.sub) r2 fun v s' Z' g r => ?_
  rw [Rep] at r; subst r
  exact wpAny_truthy_bool (k s' Z' ((g1.trans g2).trans g))

theorem Tr.name {x : Str} {p : Pos} {b : Bool} (h : Ev C ρ (.Name x p) (.bool b)) : Tr C ρ (.Name x p) b := by
  refine ⟨fun s Z Q E S k => ?_⟩
  refine wpAny_isTrue_value (h.use S fun v1 s1 Z1 g1 S1 r1 => ?_)
  rw [Rep] at r1; subst r1
  exact wpAny_truthy_bool (k s1 Z1 g1)

theorem Tr.and {x y : Expr} {p : Pos} {a b : Bool} (h1 : Tr C ρ x a) (h2 : a = true → Tr C ρ y b) : Tr C ρ (.BoolOp .And [x, y] p) (a && b) := by
  refine ⟨fun s Z Q E S k => ?_⟩
  refine wpAny_isTrue_BoolOp (wpAny_allTrue_And_cons (h1.use S fun s1 Z1 g1 S1 => ?_))
  cases a with
  | false => exact k s1 Z1 g1
  | true =>
    rw [if_pos rfl]
    refine wpAny_allTrue_And_cons ((h2 rfl).use S1 fun s2 Z2 g2 S2 => ?_)
    cases b with
    | false => exact k s2 Z2 (g1.trans g2)
    | true => rw [if_pos rfl]; exact wpAny_allTrue_And_nil (k s2 Z2 (g1.trans g2))
theorem Tr.or {x y : Expr} {p : Pos} {a b : Bool} (h1 : Tr C ρ x a) (h2 : a = false → Tr C ρ y b) : Tr C ρ (.BoolOp .Or [x, y] p) (a || b) := by
  refine ⟨fun s Z Q E S k => ?_⟩
  refine wpAny_isTrue_BoolOp (wpAny_allTrue_Or_cons (h1.use S fun s1 Z1 g1 S1 => ?_))
  cases a with
  | true => exact k s1 Z1 g1
  | false =>
    rw [if_neg Bool.false_ne_true]
    refine wpAny_allTrue_Or_cons ((h2 rfl).use S1 fun s2 Z2 g2 S2 => ?_)
    cases b with
    | true => exact k s2 Z2 (g1.trans g2)
    | false => rw [if_neg Bool.false_ne_true]; exact wpAny_allTrue_Or_nil (k s2 Z2 (g1.trans g2))

theorem Ev.ifexp {t x y : Expr} {p : Pos} {b : Bool} {d : D} (ht : Tr C ρ t b) (h1 : b = true → Ev C ρ x d) (h2 : b = false → Ev C ρ y d) : Ev C ρ (.IfExp t x y p) d := by
  refine ⟨fun s Z Q E S k => ?_⟩
  refine wpAny_IfExp (ht.use S fun s1 Z1 g1 S1 => ?_)
  cases b with
  | true => rw [if_pos rfl]; exact (h1 rfl).use S1 fun v s2 Z2 g2 S2 r => k v s2 Z2 (g1.trans g2) r
  | false => rw [if_neg Bool.false_ne_true]; exact (h2 rfl).use S1 fun v s2 Z2 g2 S2 r => k v s2 Z2 (g1.trans g2) r

/-! ints -/
theorem Op2.addInt {a b : Int} : Op2 C (binaryOp .Add) (.int a) (.int b) (.int (a + b)) := by
  refine ⟨fun s Z v1 v2 Q E _ z r1 r2 k => ?_⟩
  rw [Rep] at r1 r2; obtain ⟨t, rfl⟩ := r1; obtain ⟨u, rfl⟩ := r2
  exact add_int (k _ _ Z (.tok z.zin (Nat.le_succ _)) (by rw [Rep]; exact ⟨_, rfl⟩))
theorem Op2.subInt {a b : Int} : Op2 C (binaryOp .Sub) (.int a) (.int b) (.int (a - b)) := by
  refine ⟨fun s Z v1 v2 Q E _ z r1 r2 k => ?_⟩
  rw [Rep] at r1 r2; obtain ⟨t, rfl⟩ := r1; obtain ⟨u, rfl⟩ := r2
  exact PyProof.Rows.sub_int (k _ _ Z (.tok z.zin (Nat.le_succ _)) (by rw [Rep]; exact ⟨_, rfl⟩))
theorem Op2.mulInt {a b : Int} (hm : IntMulOk a b) : Op2 C (binaryOp .Mult) (.int a) (.int b) (.int (a * b)) := by
  refine ⟨fun s Z v1 v2 Q E _ z r1 r2 k => ?_⟩
  rw [Rep] at r1 r2; obtain ⟨t, rfl⟩ := r1; obtain ⟨u, rfl⟩ := r2
  exact PyProof.Rows.mul_int (k _ _ Z (.tok z.zin (Nat.le_succ _)) (by rw [Rep]; exact ⟨_, rfl⟩)) hm
theorem Op2.divInt {a b : Int} (hb : b ≠ 0) (hp : Builtin.divisionGoesByPylong a b = false) : Op2 C (binaryOp .FloorDiv) (.int a) (.int b) (.int (a.fdiv b)) := by
  refine ⟨fun s Z v1 v2 Q E _ z r1 r2 k => ?_⟩
  rw [Rep] at r1 r2; obtain ⟨t, rfl⟩ := r1; obtain ⟨u, rfl⟩ := r2
  exact PyProof.Rows.floordiv_int hb (k _ _ Z (.tok z.zin (Nat.le_succ _)) (by rw [Rep]; exact ⟨_, rfl⟩)) (.inl hp)
theorem Op2.modInt {a b : Int} (hb : b ≠ 0) : Op2 C (binaryOp .Mod) (.int a) (.int b) (.int (a.fmod b)) := by
  refine ⟨fun s Z v1 v2 Q E _ z r1 r2 k => ?_⟩
  rw [Rep] at r1 r2; obtain ⟨t, rfl⟩ := r1; obtain ⟨u, rfl⟩ := r2
  exact PyProof.Rows.mod_int' hb (k _ _ Z (.tok z.zin (Nat.le_succ _)) (by rw [Rep]; exact ⟨_, rfl⟩))
theorem Op2.eqInt {a b : Int} : Op2 C (compareOp .Eq) (.int a) (.int b) (.bool (a == b)) := by
  refine ⟨fun s Z v1 v2 Q E _ z r1 r2 k => ?_⟩
  rw [Rep] at r1 r2; obtain ⟨t, rfl⟩ := r1; obtain ⟨u, rfl⟩ := r2
  exact wpAny_eq_int (k _ _ Z (.refl z.zin) (by rw [Rep]))
theorem Op2.ltInt {a b : Int} : Op2 C (compareOp .Lt) (.int a) (.int b) (.bool (decide (a < b))) := by
  refine ⟨fun s Z v1 v2 Q E _ z r1 r2 k => ?_⟩
  rw [Rep] at r1 r2; obtain ⟨t, rfl⟩ := r1; obtain ⟨u, rfl⟩ := r2
  exact wpAny_lt_int (k _ _ Z (.refl z.zin) (by rw [Rep]))
theorem Op2.gtInt {a b : Int} : Op2 C (compareOp .Gt) (.int a) (.int b) (.bool (decide (b < a))) := by
  refine ⟨fun s Z v1 v2 Q E _ z r1 r2 k => ?_⟩
  rw [Rep] at r1 r2; obtain ⟨t, rfl⟩ := r1; obtain ⟨u, rfl⟩ := r2
  exact PyProof.Rows.gt_int (k _ _ Z (.refl z.zin) (by rw [Rep]))
theorem Op2.leInt {a b : Int} : Op2 C (compareOp .LtE) (.int a) (.int b) (.bool (decide (a ≤ b))) := by
  refine ⟨fun s Z v1 v2 Q E _ z r1 r2 k => ?_⟩
  rw [Rep] at r1 r2; obtain ⟨t, rfl⟩ := r1; obtain ⟨u, rfl⟩ := r2
  exact PyProof.Rows.le_int (k _ _ Z (.refl z.zin) (by rw [Rep]))
theorem Op2.neInt {a b : Int} : Op2 C (compareOp .NotEq) (.int a) (.int b) (.bool (a != b)) := by
  refine ⟨fun s Z v1 v2 Q E _ z r1 r2 k => ?_⟩
  rw [Rep] at r1 r2; obtain ⟨t, rfl⟩ := r1; obtain ⟨u, rfl⟩ := r2
  exact PyProof.Rows.ne_int (k _ _ Z (.refl z.zin) (by rw [Rep]))
end
end Mine
namespace Mine
section
variable {C : Cx} {ρ : Rho}

theorem sizeLine_is : sizeLine = 16777216 := by decide
theorem sizeLine_lt : sizeLine < 2 ^ 62 := by decide

theorem Op2.geInt {a b : Int} : Op2 C (compareOp .GtE) (.int a) (.int b) (.bool (decide (b ≤ a))) := by
  refine ⟨fun s Z v1 v2 Q E _ z r1 r2 k => ?_⟩
  rw [Rep] at r1 r2; obtain ⟨t, rfl⟩ := r1; obtain ⟨u, rfl⟩ := r2
  exact PyProof.Rows.ge_int (k _ _ Z (.refl z.zin) (by rw [Rep]))

/-! strs -/
theorem Op2.eqStr {a b : List Nat} : Op2 C (compareOp .Eq) (.str a) (.str b) (.bool (a == b)) := by
  refine ⟨fun s Z v1 v2 Q E _ z r1 r2 k => ?_⟩
  rw [Rep] at r1 r2; obtain ⟨_, t, rfl⟩ := r1; obtain ⟨_, u, rfl⟩ := r2
  exact P.eq_str (k _ _ Z (.refl z.zin) (by rw [Rep]))
theorem Op2.neStr {a b : List Nat} : Op2 C (compareOp .NotEq) (.str a) (.str b) (.bool (a != b)) := by
  refine ⟨fun s Z v1 v2 Q E _ z r1 r2 k => ?_⟩
  rw [Rep] at r1 r2; obtain ⟨_, t, rfl⟩ := r1; obtain ⟨_, u, rfl⟩ := r2
  exact P.ne_str (k _ _ Z (.refl z.zin) (by rw [Rep]))
theorem strSum {a b : List Nat} {t u : Tok} {s : Shared} {Z : Zone} {Q : Value → Shared → Prop} (hz : ∀ a o, Z a = some o → s.heap.get? a = some o) (hl : (a ++ b).length ≤ sizeLine)
    (k : ∀ v s' Z', Grow s Z s' Z' → Rep Z' (.str (a ++ b)) v → Q v s') :
    (if (st a).length == 0 then Made.val (.str (st b) u) else if (st b).length == 0 then Made.val (.str (st a) t) else Made.str (st a ++ st b)).post Q s := by
  rw [st_length, st_length]
  by_cases h1 : a.length = 0
  · rw [if_pos (by simpa using h1)]
    have : a = [] := List.length_eq_zero_iff.mp h1
    subst this
    exact k _ _ Z (.refl hz) (by rw [Rep]; exact ⟨hl, u, rfl⟩)
  · rw [if_neg (by simpa using h1)]
    by_cases h2 : b.length = 0
    · rw [if_pos (by simpa using h2)]
      have : b = [] := List.length_eq_zero_iff.mp h2
      subst this
      exact k _ _ Z (.refl hz) (by rw [Rep]; exact ⟨hl, t, by simp⟩)
    · rw [if_neg (by simpa using h2), st_append]
      exact ⟨by rw [st_length]; exact hl, k _ _ Z (.tok hz (Nat.le_succ _)) (by rw [Rep]; exact ⟨hl, _, rfl⟩)⟩
theorem Op2.addStr {a b : List Nat} (hl : (a ++ b).length ≤ sizeLine) : Op2 C (binaryOp .Add) (.str a) (.str b) (.str (a ++ b)) := by
  refine ⟨fun s Z v1 v2 Q E _ z r1 r2 k => ?_⟩
  rw [Rep] at r1 r2; obtain ⟨_, t, rfl⟩ := r1; obtain ⟨_, u, rfl⟩ := r2
  exact P.add_str (strSum z.zin hl k)
theorem Op2.iaddStr {a b : List Nat} (hl : (a ++ b).length ≤ sizeLine) : Op2 C (inplaceOp .Add) (.str a) (.str b) (.str (a ++ b)) := by
  refine ⟨fun s Z v1 v2 Q E _ z r1 r2 k => ?_⟩
  rw [Rep] at r1 r2; obtain ⟨_, t, rfl⟩ := r1; obtain ⟨_, u, rfl⟩ := r2
  exact P.iadd_str (strSum z.zin hl k)

theorem foldl_arr (l : List Nat) : ∀ (n : Nat) (acc : Array Nat), (List.replicate n l.toArray).foldl (· ++ ·) acc = acc ++ (List.replicate n l).flatten.toArray
  | 0, acc => by simp
  | n + 1, acc => by rw [List.replicate_succ, List.foldl_cons, foldl_arr l n, List.replicate_succ, List.flatten_cons]; simp

theorem Op2.mulStr {a : List Nat} {n : Nat} (hn : n ≤ sizeLine) (hl : (List.replicate n a).flatten.length ≤ sizeLine) : Op2 C (binaryOp .Mult) (.str a) (.int n) (.str (List.replicate n a).flatten) := by
  refine ⟨fun s Z v1 v2 Q E _ z r1 r2 k => ?_⟩
  obtain ⟨_, t, rfl⟩ := rep_str.mp r1; obtain ⟨u, rfl⟩ := rep_int.mp r2
  have hs := sizeLine_lt
  have hlen : (List.replicate n a).flatten.length = n * a.length := by simp
  refine P.mul_str ?_ ?_ ?_ ?_
  · rw [decide_eq_false (by lia), decide_eq_false (by lia)]; rfl
  · intro h1 h2
    rw [st_length]
    have h3 : (a.length : Int) * n ≤ 2 ^ 62 := by
      have : ((n * a.length : Nat) : Int) ≤ 2 ^ 62 := by lia
      rw [Int.natCast_mul] at this; rw [Int.mul_comm]; exact this
    have h4 : (a.length : Int) ≤ (2 ^ 63 - 1) / n := by
      rw [Int.le_ediv_iff_mul_le (by lia)]; lia
    lia
  · intro h1 h2
    rw [st_length]
    show decide _ = false
    apply decide_eq_false
    rw [hlen] at hl
    have : a.length * n = n * a.length := Nat.mul_comm _ _
    simp only [Int.toNat_natCast]
    lia
  · by_cases h1 : n = 0
    · subst h1
      rw [if_pos (by decide)]
      exact ⟨by show 0 ≤ sizeLine; lia, k _ _ Z (.tok z.zin (Nat.le_succ _)) (by rw [Rep]; exact ⟨by simp, _, rfl⟩)⟩
    · rw [if_neg (by lia)]
      by_cases h2 : ((n : Int) == 1 || (st a).length == 0) = true
      · rw [if_pos h2]
        refine k _ _ Z (.refl z.zin) ?_
        rw [Rep]
        refine ⟨hl, t, ?_⟩
        rcases Bool.or_eq_true_iff.mp h2 with h3 | h3
        · have : n = 1 := by have := beq_iff_eq.mp h3; lia
          subst this; simp
        · rw [st_length] at h3
          have : a = [] := List.length_eq_zero_iff.mp (beq_iff_eq.mp h3)
          subst this; simp
      · rw [if_neg h2]
        have e : (⟨(List.replicate (n : Int).toNat (st a).cps).foldl (· ++ ·) #[]⟩ : Str) = st (List.replicate n a).flatten := by
          rw [Int.toNat_natCast]
          show Str.mk (List.foldl (· ++ ·) #[] (List.replicate n a.toArray)) = _
          rw [foldl_arr]; simp
        rw [e]
        exact ⟨by rw [st_length]; exact hl, k _ _ Z (.tok z.zin (Nat.le_succ _)) (by rw [Rep]; exact ⟨hl, _, rfl⟩)⟩

/-! own lists: new, unfrozen -/
structure EvO (C : Cx) (ρ : Rho) (e : Expr) (xs : List D) : Prop where
  run : ∀ (s : Shared) (Z : Zone) (Q : Value → Shared → Prop) (E : Value → Shared → Prop), Sat C ρ Z s →
    (∀ a vs n s' Z', Grow s Z s' Z' → s.heap.get? a = none → s'.heap.get? a = some (listObj vs n) → Z' a = none → vs.length ≤ sizeLine → Reps Z' xs vs → Q (.ref a) s') → wpAny C.M C.A (eval e C.env) Q E s

theorem Grow.freeze {s s' : Shared} {Z Z' : Zone} {a : Addr} {o : Obj} (g : Grow s Z s' Z') (ha : s.heap.get? a = none) (ha' : s'.heap.get? a = some o) (hz : Z' a = none) : Grow s Z s' (Z'.put a o) where
  keep := g.keep
  sub := g.sub.trans (Zone.put_sub hz)
  new := fun b o' e => (Zone.put_cases e).elim (fun ⟨q, _⟩ => .inr (q ▸ ha)) (g.new b o')
  zin := fun b o' e => (Zone.put_cases e).elim (fun ⟨q, r⟩ => by subst q; subst r; exact ha') (g.zin b o')
  rest := g.rest

theorem EvO.ev {e : Expr} {xs : List D} (h : EvO C ρ e xs) : Ev C ρ e (.list xs) := by
  refine ⟨fun s Z Q E S k => ?_⟩
  refine h.run s Z Q E S fun a vs n s' Z' g h1 h2 h3 h4 h5 => ?_
  refine k _ s' (Z'.put a (listObj vs n)) (g.freeze h1 h2 h3) ?_
  rw [Rep]
  exact ⟨a, vs, n, rfl, Zone.put_same _ _ _, h4, h5.mono (Zone.put_sub h3)⟩

/-! displays -/
noncomputable def Evs (C : Cx) (ρ : Rho) : List Expr → List D → Prop
  | [], ds => ds = []
  | e :: es, ds => ∃ d r, ds = d :: r ∧ Ev C ρ e d ∧ Evs C ρ es r ∧ (∀ x p, e ≠ .Starred x p)
theorem Evs.nil : Evs C ρ [] [] := rfl
theorem Evs.cons {e : Expr} {es : List Expr} {d : D} {ds : List D} (h : Ev C ρ e d) (hs : Evs C ρ es ds) (hn : ∀ x p, e ≠ .Starred x p := by intro _ _ h; cases h) : Evs C ρ (e :: es) (d :: ds) := ⟨d, ds, rfl, h, hs, hn⟩

theorem starEach_plain {e : Expr} {es : List Expr} {env : Env} (hn : ∀ x p, e ≠ .Starred x p) : starEach (e :: es) env = (false, eval e env) :: starEach es env := by
  cases e with
  | Starred x p => exact absurd rfl (hn x p)
  | _ => rfl

theorem Evs.use {E : Value → Shared → Prop} {p : Pos} : ∀ {es : List Expr} {ds : List D} {s : Shared} {Z : Zone} {Q : List Value → Shared → Prop}, Evs C ρ es ds → Sat C ρ Z s →
    (∀ vs s' Z', Grow s Z s' Z' → Sat C ρ Z' s' → Reps Z' ds vs → Q vs s') → wpAny C.M C.A (spliced (backTo p (starEach es C.env))) Q E s
  | [], ds, s, Z, Q, h, S, k => by
    rw [Evs] at h; subst h
    exact wpAny_items_nil (k [] s Z (.refl S.zin) S .nil)
  | e :: es, ds, s, Z, Q, h, S, k => by
    rw [Evs] at h; obtain ⟨d, r, rfl, h1, h2, hn⟩ := h
    refine wpAny_items_cons (h1.use S fun v s1 Z1 g1 S1 r1 => ?_) (starEach_plain hn)
    exact Evs.use h2 S1 fun vs s2 Z2 g2 S2 r2 => k _ s2 Z2 (g1.trans g2) S2 (.cons (r1.mono g2.sub) r2)

theorem EvO.list {es : List Expr} {p : Pos} {ds : List D} (h : Evs C ρ es ds) (hl : ds.length ≤ sizeLine) : EvO C ρ (.List es p) ds := by
  refine ⟨fun s Z Q E S k => ?_⟩
  refine List_ (h.use S fun vs s1 Z1 g1 S1 r1 => ?_)
  have hvl := r1.length
  refine wpAny_newObj_type ?_ (by show vs.toArray.size ≤ sizeLine; simp; lia)
  refine k s1.heap.objs.size vs 0 _ Z1 (g1.trans (.drop S1.zin (fun a o e => Heap.get?_push_of_some _ e) (Nat.le_refl _))) ?_ (Heap.get?_push_size _ rfl) ?_ (by lia) r1
  · cases q : s.heap.get? s1.heap.objs.size with
    | none => rfl
    | some o => exact absurd (Heap.lt_size (g1.keep _ _ q)) (Nat.lt_irrefl _)
  · cases q : Z1 s1.heap.objs.size with
    | none => rfl
    | some o => exact absurd (Heap.lt_size (g1.zin _ _ q)) (Nat.lt_irrefl _)

theorem Ev.tuple {es : List Expr} {p : Pos} {k : Nat} {ds : List D} (h : Evs C ρ es ds) (hl : ds.length ≤ sizeLine) : Ev C ρ (.Tuple es k p) (.tup ds) := by
  refine ⟨fun s Z Q E S k => ?_⟩
  refine Tuple_ (h.use S fun vs s1 Z1 g1 S1 r1 => ?_)
  have hvl := r1.length
  refine wpAny_newObj_type ?_ (by show vs.toArray.size ≤ sizeLine; simp; lia)
  have g := Grow.push (o := tupObj vs 0) S1.zin rfl (Nat.le_refl s1.toks)
  refine k _ _ _ (g1.trans g) ?_
  rw [Rep]
  exact ⟨_, vs, 0, rfl, Zone.put_same _ _ _, by lia, r1.mono g.sub⟩

theorem EvO.add {l r : Expr} {p : Pos} {xs ys : List D} (h1 : Ev C ρ l (.list xs)) (h2 : Ev C ρ r (.list ys)) (hl : xs.length + ys.length ≤ sizeLine) : EvO C ρ (.BinOp l .Add r p) (xs ++ ys) := by
  refine ⟨fun s Z Q E S k => ?_⟩
  refine wpAny_BinOp (h1.use S fun v1 s1 Z1 g1 S1 r1 => h2.use S1 fun v2 s2 Z2 g2 S2 r2 => ?_)
  replace r1 := r1.mono g2.sub
  rw [Rep] at r1 r2
  obtain ⟨a, vs, n, rfl, za, la, ra⟩ := r1
  obtain ⟨b, ws, n', rfl, zb, lb, rb⟩ := r2
  have e1 := ra.length
  have e2 := rb.length
  refine P.add_list (S2.zin _ _ za) (S2.zin _ _ zb) ?_ (by simp; lia)
  rw [show vs.toArray ++ ws.toArray = (vs ++ ws).toArray by simp]
  refine k s2.heap.objs.size (vs ++ ws) 0 _ Z2 ((g1.trans g2).trans (.drop S2.zin (fun a o e => Heap.get?_push_of_some _ e) (Nat.le_refl _))) ?_ (Heap.get?_push_size _ rfl) ?_ (by simp; lia) (ra.append rb)
  · cases q : s.heap.get? s2.heap.objs.size with
    | none => rfl
    | some o => exact absurd (Heap.lt_size ((g1.trans g2).keep _ _ q)) (Nat.lt_irrefl _)
  · cases q : Z2 s2.heap.objs.size with
    | none => rfl
    | some o => exact absurd (Heap.lt_size (S2.zin _ _ q)) (Nat.lt_irrefl _)

theorem foldl_arrV (l : List Value) : ∀ (n : Nat) (acc : Array Value), (List.replicate n l.toArray).foldl (fun x1 x2 => x1 ++ x2) acc = acc ++ (List.replicate n l).flatten.toArray
  | 0, acc => by simp
  | n + 1, acc => by rw [List.replicate_succ, List.foldl_cons, foldl_arrV l n, List.replicate_succ, List.flatten_cons]; simp

/-- [d] * n -/
theorem Op2.mulList1 {d : D} {x : Int} (h0 : 0 ≤ x) (hx : x ≤ 16777216) : Op2 C (binaryOp .Mult) (.list [d]) (.int x) (.list (List.replicate x.toNat d)) := by
  refine ⟨fun s Z v1 v2 Q E _ z r1 r2 k => ?_⟩
  obtain ⟨a, vs, m, rfl, za, la, ra⟩ := rep_list.mp r1
  obtain ⟨u, rfl⟩ := rep_int.mp r2
  obtain ⟨v, r, rfl, rv, rr⟩ := reps_cons.mp ra
  obtain rfl := reps_nil.mp rr
  have hl := z.zin _ _ za
  have sz : ([v].toArray).size = 1 := rfl
  refine wpAny_binaryOp_repeat_ref (T := "list") (U := "int") (by decide) ⟨_, hl, rfl⟩ (fun s' => typeIs_int s' x u) noFill_list_mul F.fills_int_mul F.slot_int_rmul repeat_list F.slot_int_index.lookup
    (call_meets F.slot_int_rmul (typeIs_int s x u) F.entry_int_rmul (F.args_int_rmul_2 _ _) (int___rmul___int_list x u a [v].toArray m)
      ⟨hl, rfl, ⟨_, hl, rfl⟩, call_meets F.slot_list_mul ⟨_, hl, rfl⟩ F.entry_list_mul (F.args_list_mul_2 _ _)
        (AutoListH.list___mul___list_int_3 a [v].toArray m x u (by simp [Builtin.List.listFitsIndex]; lia) (by rw [sz]; lia) (by rw [sz]; simp [Builtin.List.listTooLong, sizeLine]; lia)) ⟨hl, ?_⟩⟩)
  have e : (List.foldl (fun x1 x2 => x1 ++ x2) #[] (List.replicate (if ([v] : List Value).toArray.isEmpty = true then 0 else x.toNat) [v].toArray)) = (List.replicate x.toNat v).toArray := by
    rw [if_neg (by simp), foldl_arrV [v]]; simp
  rw [e]
  have g := Grow.push (s := s) (n := s.toks) (o := listObj (List.replicate x.toNat v) 0) z.zin rfl (Nat.le_refl _)
  refine k _ _ _ g ?_
  rw [Rep]
  exact ⟨_, List.replicate x.toNat v, 0, rfl, Zone.put_same _ _ _, by rw [sizeLine_is]; simp; lia, (Reps.replicate rv _).mono g.sub⟩
end
end Mine
namespace Mine
section
variable {C : Cx} {ρ : Rho}

theorem Op2.mulStrI {a : List Nat} {x : Int} (h0 : 0 ≤ x) (hn : x ≤ 16777216) (hl : x.toNat * a.length ≤ sizeLine) : Op2 C (binaryOp .Mult) (.str a) (.int x) (.str (List.replicate x.toNat a).flatten) := by
  have e : x = (x.toNat : Int) := by lia
  have h := Op2.mulStr (C := C) (a := a) (n := x.toNat) (by rw [sizeLine_is]; lia) (by simpa using hl)
  rw [← e] at h
  exact h

theorem Op1.neg {a : Int} : Op1 C (unaryOp .USub) (.int a) (.int (-a)) := by
  refine ⟨fun s Z v1 Q E _ z r1 k => ?_⟩
  obtain ⟨t, rfl⟩ := rep_int.mp r1
  exact PyProof.Rows.neg_int (k _ _ Z (.tok z.zin (Nat.le_succ _)) (rep_int.mpr ⟨_, rfl⟩))
theorem Ev.unop {x : Expr} {op : UnaryOp} {p : Pos} {d1 d : D} (h1 : Ev C ρ x d1) (hop : Op1 C (unaryOp op) d1 d) : Ev C ρ (.UnaryOp op x p) d := by
  refine ⟨fun s Z Q E S k => ?_⟩
  refine wpAny_UnaryOp (h1.use S fun v1 s1 Z1 g1 S1 r1 => ?_)
  exact hop.run s1 Z1 v1 Q E S.cx S1.zok r1 fun v s' Z' g r => k v s' Z' (g1.trans g) r
theorem Ev.neg {x : Expr} {p : Pos} {a : Int} (h1 : Ev C ρ x (.int a)) : Ev C ρ (.UnaryOp .USub x p) (.int (-a)) := h1.unop Op1.neg

/-! subscripts -/
theorem wp_Subscript {prog : Program} {w : World} {A : Around} {E : Value → Shared → Prop} {s : Shared} {env : Env} {value slice : Expr} {pos : Pos} {T id : String} {Q : Value → Shared → Prop}
    (hl : typeLookup (.type T) "__getitem__" = pure (some (.builtin id)))
    (h : wpAny (model prog w) A (eval value env) (fun o s₁ => wpAny (model prog w) A (eval slice env) (fun i s₂ => s₂.TypeIs o T ∧ wpAny (model prog w) A (getItem o i) Q E s₂) E s₁) E s) :
    wpAny (model prog w) A (eval (.Subscript value slice pos) env) Q E s := by
  rw [eval_Subscript]
  refine wpAny_bind (wpAny_mono h (fun o s₁ h₁ => wpAny_bind (wpAny_holding (wpAny_mono h₁ (fun i s₂ h₂ => wpAny_bind (wpAny_standAt ?_)) fun _ _ x => x)))
    fun _ _ x => x)
  refine wpAny_bind ?_
  rw [getitemInPython_of_ne h₂.1.not_modules]
  refine wpAny_bind (wpAny_specialOf h₂.1 hl ?_)
  have fin : wpAny (model prog w) A (subscripted slice false o i) (fun r s₃ => wpAny (model prog w) A (letTemporaryGo value o r >>= fun _ => pure r) Q E s₃) E s₂ := by
    have q : wpAny (model prog w) A (getItem o i) (fun r s₃ => wpAny (model prog w) A (letTemporaryGo value o r >>= fun _ => pure r) Q E s₃) E s₂ :=
      wpAny_mono h₂.2 (fun r s₃ h₃ => wpAny_bind (wpAny_letTemporaryGo (wpAny_pure h₃))) fun _ _ x => x
    unfold subscripted
    split
    · exact wpAny_operating q
    · rename_i e; cases e
    · exact wpAny_operating q
  first
    | exact wpAny_pure (wpAny_bind fin)
    | exact wpAny_bind (wpAny_pure (wpAny_bind fin))
    | exact wpAny_bind fin

/-- an int's place in a sequence -/
noncomputable def At (k : Int) (n : Nat) (i : Nat) : Prop := (0 ≤ k ∧ k = i ∧ i < n) ∨ (k < 0 ∧ k + n = i)

theorem Ev.item_list {value slice : Expr} {pos : Pos} {xs : List D} {k : Int} {d : D} (hv : Ev C ρ value (.list xs)) (hi : Ev C ρ slice (.int k)) (i : Nat) (ha : At k xs.length i) (hx : xs[i]? = some d) :
    Ev C ρ (.Subscript value slice pos) d := by
  refine ⟨fun s Z Q E S kk => ?_⟩
  refine wp_Subscript slot_list_getitem.lookup (hv.use S fun v s1 Z1 g1 S1 r1 => hi.use S1 fun iv s2 Z2 g2 S2 r2 => ?_)
  obtain ⟨a, vs, n, rfl, za, la, ra⟩ := rep_list.mp (r1.mono g2.sub)
  obtain ⟨t, rfl⟩ := rep_int.mp r2
  have hl := isList_of (S2.zin _ _ za)
  have hs := sizeLine_lt
  have el := ra.length
  obtain ⟨w, hw, rw'⟩ := ra.get hx
  have fin := kk w s2 Z2 (g1.trans g2) rw'
  refine ⟨hl.typeIs, ?_⟩
  have hlt : i < xs.length := (List.getElem?_eq_some_iff.mp hx).1
  rcases ha with ⟨h0, e, _⟩ | ⟨h0, e⟩
  · refine wpAny_getItem_list hl h0 (by lia) ?_ fin
    rw [show k.toNat = i by lia]; simpa using hw
  · refine wpAny_getItem_list_neg hl h0 (by simp; lia) (by lia) ?_ fin
    rw [show (k + (vs.toArray.size : Int)).toNat = i by simp; lia]; simpa using hw

theorem Ev.item_tup {value slice : Expr} {pos : Pos} {xs : List D} {k : Int} {d : D} (hv : Ev C ρ value (.tup xs)) (hi : Ev C ρ slice (.int k)) (i : Nat) (ha : At k xs.length i) (hx : xs[i]? = some d) :
    Ev C ρ (.Subscript value slice pos) d := by
  refine ⟨fun s Z Q E S kk => ?_⟩
  refine wp_Subscript F.slot_tuple_getitem.lookup (hv.use S fun v s1 Z1 g1 S1 r1 => hi.use S1 fun iv s2 Z2 g2 S2 r2 => ?_)
  obtain ⟨a, vs, n, rfl, za, la, ra⟩ := rep_tup.mp (r1.mono g2.sub)
  obtain ⟨t, rfl⟩ := rep_int.mp r2
  have hs := sizeLine_lt
  have el := ra.length
  obtain ⟨w, hw, rw'⟩ := ra.get hx
  have hlt : i < xs.length := (List.getElem?_eq_some_iff.mp hx).1
  refine ⟨⟨_, S2.zin _ _ za, rfl⟩, ?_⟩
  refine P.getItem_tuple (k := i) (y := w) (S2.zin _ _ za) ?_ ?_ ?_ (by simpa using hw) (kk w s2 Z2 (g1.trans g2) rw')
  · rcases ha with ⟨h0, e, _⟩ | ⟨h0, e⟩ <;> lia
  · rcases ha with ⟨h0, e, _⟩ | ⟨h0, e⟩ <;> lia
  · rcases ha with ⟨h0, e, _⟩ | ⟨h0, e⟩
    · rw [seqIndex_of h0 (by simp; lia)]; congr 1; lia
    · rw [seqIndex_neg h0 (by simp; lia)]; congr 1; simp; lia

theorem Ev.item_str {value slice : Expr} {pos : Pos} {l : List Nat} {k : Int} {c : Nat} (hv : Ev C ρ value (.str l)) (hi : Ev C ρ slice (.int k)) (i : Nat) (ha : At k l.length i) (hx : l[i]? = some c) :
    Ev C ρ (.Subscript value slice pos) (.str [c]) := by
  refine ⟨fun s Z Q E S kk => ?_⟩
  refine wp_Subscript F.slot_str_getitem.lookup (hv.use S fun v s1 Z1 g1 S1 r1 => hi.use S1 fun iv s2 Z2 g2 S2 r2 => ?_)
  obtain ⟨la, t', rfl⟩ := rep_str.mp (r1.mono g2.sub)
  obtain ⟨t, rfl⟩ := rep_int.mp r2
  have hs := sizeLine_lt
  have hlt : i < l.length := (List.getElem?_eq_some_iff.mp hx).1
  refine ⟨typeIs_str _ _ _, ?_⟩
  refine P.getItem_str ?_ ?_ (kk _ _ Z2 ((g1.trans g2).trans (.tok S2.zin (Nat.le_succ _))) (rep_str.mpr ⟨by show 1 ≤ sizeLine; decide, _, rfl⟩))
  · rw [Bool.or_eq_false_iff]
    exact ⟨decide_eq_false (by rcases ha with ⟨h0, e, _⟩ | ⟨h0, e⟩ <;> lia), decide_eq_false (by rcases ha with ⟨h0, e, _⟩ | ⟨h0, e⟩ <;> lia)⟩
  · have e1 : seqIndex? k (st l).length = some i := by
      rw [st_length]
      rcases ha with ⟨h0, e, _⟩ | ⟨h0, e⟩
      · rw [seqIndex_of h0 (by lia)]; congr 1; lia
      · rw [seqIndex_neg h0 (by lia)]; congr 1; lia
    rw [e1]
    show (l.toArray)[i]? = some c
    simpa using hx

/-! slices -/
noncomputable def Part (C : Cx) (ρ : Rho) : Option Expr → Option Int → Prop
  | none, i => i = none
  | some e, i => ∃ k, i = some k ∧ Ev C ρ e (.int k)
theorem Part.none : Part C ρ none none := rfl
theorem Part.some {e : Expr} {k : Int} (h : Ev C ρ e (.int k)) : Part C ρ (some e) (some k) := ⟨k, rfl, h⟩
theorem Part.use {E : Value → Shared → Prop} {oe : Option Expr} {oi : Option Int} {s : Shared} {Z : Zone} {Q : Value → Shared → Prop} (h : Part C ρ oe oi) (S : Sat C ρ Z s)
    (k : ∀ v s' Z', Grow s Z s' Z' → Sat C ρ Z' s' → (∃ p : Option (Int × Tok), v = partValue p ∧ p.map (·.1) = oi) → Q v s') : wpAny C.M C.A (evalPart oe C.env) Q E s := by
  cases oe with
  | none => rw [Part] at h; subst h; exact wpAny_pure (k _ s Z (.refl S.zin) S ⟨Option.none, rfl, rfl⟩)
  | some e =>
    obtain ⟨i, rfl, h⟩ := h
    rw [evalPart_some]
    refine h.use S fun v s1 Z1 g1 S1 r1 => ?_
    obtain ⟨t, rfl⟩ := rep_int.mp r1
    exact k _ s1 Z1 g1 S1 ⟨Option.some (i, t), rfl, rfl⟩

noncomputable def cutL {α : Type} (xs : List α) (lo hi : Option Int) : List α :=
  (xs.drop (lo.elim 0 (clipAt xs.length))).take (hi.elim xs.length (clipAt xs.length) - lo.elim 0 (clipAt xs.length))

theorem isPart_of {p : Option (Int × Tok)} {oi : Option Int} (h : p.map (·.1) = oi) : IsPart (partValue p) oi := by
  subst h
  cases p with
  | none => exact .none
  | some q => obtain ⟨i, t⟩ := q; exact .int i t

theorem EvO.slice {value : Expr} {lower upper : Option Expr} {p pos : Pos} {xs : List D} {lo hi : Option Int} (hv : Ev C ρ value (.list xs)) (hl : Part C ρ lower lo) (hu : Part C ρ upper hi) :
    EvO C ρ (.Subscript value (.Slice lower upper none p) pos) (cutL xs lo hi) := by
  refine ⟨fun s Z Q E S kk => ?_⟩
  refine wp_Subscript slot_list_getitem.lookup (hv.use S fun v s1 Z1 g1 S1 r1 => ?_)
  refine wpAny_Slice (hl.use S1 fun vl s2 Z2 g2 S2 p2 => hu.use S2 fun vu s3 Z3 g3 S3 p3 => ?_)
  rw [evalPart_none]
  refine wpAny_pure ?_
  obtain ⟨p2, rfl, q2⟩ := p2
  obtain ⟨p3, rfl, q3⟩ := p3
  obtain ⟨a, vs, n, rfl, za, la, ra⟩ := rep_list.mp (r1.mono (g2.sub.trans g3.sub))
  have hL := isList_of (S3.zin _ _ za)
  have el := ra.length
  refine ⟨(hL.push _).typeIs, ?_⟩
  refine wpAny_getItem_list_slice (s := { s3 with heap := s3.heap.push _ }) (hL.push _) (.new _ _ _ _) (isPart_of q2) (isPart_of q3) .none (by intro h; cases h) ?_ (by simpa using la)
  rw [slicePick_plain]
  have g4 : Grow s3 Z3 { s3 with heap := (s3.heap.push { cls := .type "slice", data := .fields #[partValue p2, partValue p3, .none] }).push (listObj (cutL vs lo hi) 0) } Z3 :=
    .drop S3.zin (fun a o e => Heap.get?_push_of_some _ (Heap.get?_push_of_some _ e)) (Nat.le_refl _)
  have gg := ((g1.trans g2).trans g3).trans g4
  have hc : ((vs.toArray.toList.drop (lo.elim 0 (clipAt vs.toArray.size))).take (hi.elim vs.toArray.size (clipAt vs.toArray.size) - lo.elim 0 (clipAt vs.toArray.size))).toArray = (cutL vs lo hi).toArray := by simp [cutL]
  rw [hc]
  refine kk _ (cutL vs lo hi) 0 _ Z3 gg ?_ (Heap.get?_push_size _ rfl) ?_ ?_ ?_
  · cases q : s.heap.get? (s3.heap.push { cls := .type "slice", data := .fields #[partValue p2, partValue p3, .none] }).objs.size with
    | none => rfl
    | some o =>
      have := Heap.lt_size (((g1.trans g2).trans g3).keep _ _ q)
      rw [Heap.size_push] at this; exact absurd this (Nat.not_lt_of_le (Nat.le_succ _))
  · cases q : Z3 (s3.heap.push { cls := .type "slice", data := .fields #[partValue p2, partValue p3, .none] }).objs.size with
    | none => rfl
    | some o =>
      have := Heap.lt_size (S3.zin _ _ q)
      rw [Heap.size_push] at this; exact absurd this (Nat.not_lt_of_le (Nat.le_succ _))
  · unfold cutL; simp; lia
  · unfold cutL; rw [el]; exact (ra.drop _).take _

theorem strPick (l : List Nat) (lo hi : Option Int) : (Builtin.Str.strSliceIndices lo hi 1 l.length).filterMap (l.toArray[·]?) = cutL l lo hi := by
  have e : Builtin.Str.strSliceIndices lo hi 1 l.length = sliceRange ((lo.elim 0 (clipAt l.length) : Nat) : Int) ((hi.elim l.length (clipAt l.length) : Nat) : Int) 1 := by
    cases lo <;> cases hi <;> simp [Builtin.Str.strSliceIndices, clipAt_cast]
  rw [e, sliceRange_one, pick_run]
  rfl
theorem strPick_len (l : List Nat) (lo hi : Option Int) : (Builtin.Str.strSliceIndices lo hi 1 l.length).length = (cutL l lo hi).length := by
  have e : Builtin.Str.strSliceIndices lo hi 1 l.length = sliceRange ((lo.elim 0 (clipAt l.length) : Nat) : Int) ((hi.elim l.length (clipAt l.length) : Nat) : Int) 1 := by
    cases lo <;> cases hi <;> simp [Builtin.Str.strSliceIndices, clipAt_cast]
  have hc : ∀ i, clipAt l.length i ≤ l.length := fun i => by have := clipAt_cast l.length i; lia
  have hh : hi.elim l.length (clipAt l.length) ≤ l.length := by cases hi with | none => exact Nat.le_refl _ | some i => exact hc i
  rw [e, sliceRange_one]
  unfold cutL
  simp
  lia

theorem cutL_all {α : Type} {l : List α} {lo hi : Option Int} (h : (cutL l lo hi).length = l.length) : cutL l lo hi = l := by
  unfold cutL at h ⊢
  simp at h
  have h0 : lo.elim 0 (clipAt l.length) = 0 ∨ l.length = 0 := by lia
  rcases h0 with h0 | h0
  · rw [h0] at h ⊢
    rw [List.drop_zero, List.take_of_length_le (by lia)]
  · have : l = [] := List.length_eq_zero_iff.mp h0
    subst this; simp

theorem Ev.slice_str {value : Expr} {lower upper : Option Expr} {p pos : Pos} {l : List Nat} {lo hi : Option Int} (hv : Ev C ρ value (.str l)) (hl : Part C ρ lower lo) (hu : Part C ρ upper hi) :
    Ev C ρ (.Subscript value (.Slice lower upper Option.none p) pos) (.str (cutL l lo hi)) := by
  refine ⟨fun s Z Q E S kk => ?_⟩
  refine wp_Subscript F.slot_str_getitem.lookup (hv.use S fun v s1 Z1 g1 S1 r1 => ?_)
  refine wpAny_Slice (hl.use S1 fun vl s2 Z2 g2 S2 p2 => hu.use S2 fun vu s3 Z3 g3 S3 p3 => ?_)
  rw [evalPart_none]
  refine wpAny_pure ?_
  obtain ⟨p2, rfl, q2⟩ := p2
  obtain ⟨p3, rfl, q3⟩ := p3
  obtain ⟨la, t', rfl⟩ := rep_str.mp r1
  refine ⟨typeIs_str _ _ _, ?_⟩
  refine wpAny_getItem_str_slice (l := p2) (u := p3) (st := Option.none) ⟨_, Heap.get?_push_size _ rfl, rfl, rfl⟩ rfl ?_
  have hlen : (cutL l lo hi).length ≤ l.length := by unfold cutL; simp; lia
  have g4 : Grow s3 Z3 { s3 with heap := s3.heap.push { cls := .type "slice", data := .fields #[partValue p2, partValue p3, .none] } } Z3 :=
    .drop S3.zin (fun a o e => Heap.get?_push_of_some _ e) (Nat.le_refl _)
  have gg := ((g1.trans g2).trans g3).trans g4
  unfold sliceMade slicePicked
  rw [q2, q3, st_length]
  show Made.post (if (((1 : Int) == 1) && (Builtin.Str.strSliceIndices lo hi 1 l.length).length == l.length) = true then Made.val (.str (st l) t') else
    Made.str ⟨((Builtin.Str.strSliceIndices lo hi 1 l.length).filterMap (l.toArray[·]?)).toArray⟩) Q _
  rw [strPick, strPick_len]
  by_cases hq : (cutL l lo hi).length = l.length
  · rw [if_pos (by simpa using hq)]
    exact kk _ _ Z3 gg (by rw [cutL_all hq]; exact rep_str.mpr ⟨la, t', rfl⟩)
  · rw [if_neg (by simpa using hq)]
    exact ⟨by show (st _).length ≤ _; rw [st_length]; lia, kk _ _ Z3 (gg.trans (.tok (fun a o e => g4.keep _ _ (S3.zin _ _ e)) (Nat.le_succ _))) (rep_str.mpr ⟨by lia, _, rfl⟩)⟩
end
end Mine
namespace Mine

/-- the contract of a def -/
structure FnOk (G : Glo) (n : Nat) (f : Addr) (ds : List D) (d : D) : Prop where
  fn : ∃ o fd, G.H.get? f = some o ∧ o.data = .func fd
  run : ∀ (A : Around) (s : Shared) (Z : Zone) (vs : List Value) (Q E : Value → Shared → Prop), A.handled = none → A.depth + n < recursionLimit → A.units + 64 * n + 64 < cLine →
    ZOk G Z s.heap → Reps Z ds vs → (∀ v s' Z', Grow s Z s' Z' → Rep Z' d v → Q v s') → wpAny G.M A (call (.ref f) vs) Q E s

theorem FnOk.mono {G : Glo} {n m : Nat} {f : Addr} {ds : List D} {d : D} (h : FnOk G n f ds d) (hm : n ≤ m) : FnOk G m f ds d :=
  ⟨h.fn, fun A s Z vs Q E h1 h2 h3 h4 h5 k => h.run A s Z vs Q E h1 (by lia) (by lia) h4 h5 k⟩

section
variable {C : Cx} {ρ : Rho}

theorem glob_use {x : Str} {p : Pos} {v : Value} {s : Shared} {Z : Zone} {Q E : Value → Shared → Prop} (hm : (x, Ent.glob v) ∈ ρ) (S : Sat C ρ Z s) (k : Q v s) : wpAny C.M C.A (eval (.Name x p) C.env) Q E s := by
  obtain ⟨m, hn, he, _⟩ := S.ns
  obtain ⟨h1, h2, h3⟩ := he _ hm
  have hg : s.heap.Ns C.env.globals C.G.mg := by rw [S.cx.globals]; exact S.cx.glo.g.keeps S.zok.keep
  have hb : s.heap.Ns C.env.builtins C.G.mb := by rw [S.cx.builtins]; exact S.cx.glo.b.keeps S.zok.keep
  refine Calls.Name_function_global S.cx.kind h1 ?_ h2
  rcases h3 with h3 | ⟨h3, h4⟩
  · exact Calls.loadGlobal_global hg h3 k
  · exact Calls.loadGlobal_builtin hg h3 hb h4 k

theorem noStar {p : Pos} {env : Env} : ∀ {es : List Expr} {ds : List D}, Evs C ρ es ds → (backTo p (starEach es env)).any (·.1) = false ∧ (backTo p (starEach es env)).all (fun x => !x.1) = true
  | [], _, _ => ⟨rfl, rfl⟩
  | e :: es, ds, h => by
    rw [Evs] at h; obtain ⟨d, r, rfl, h1, h2, hn⟩ := h
    obtain ⟨a, b⟩ := noStar (p := p) (env := env) h2
    rw [starEach_plain hn]
    simp only [backTo, List.map_cons, List.any_cons, List.all_cons] at a b ⊢
    rw [a, b]; exact ⟨rfl, rfl⟩

theorem evalArgs_use {f : Value} {p : Pos} {E : Value → Shared → Prop} {es : List Expr} {ds : List D} {s : Shared} {Z : Zone} {Q : Args → Shared → Prop} (h : Evs C ρ es ds) (S : Sat C ρ Z s)
    (k : ∀ vs s' Z', Grow s Z s' Z' → Sat C ρ Z' s' → Reps Z' ds vs → Q ⟨vs, []⟩ s') : wpAny C.M C.A (evalArgs f true (backTo p (starEach es C.env)) []) Q E s := by
  cases es with
  | nil =>
    rw [Evs] at h; subst h
    exact evalArgs_nil3 (k [] s Z (.refl S.zin) S .nil)
  | cons e es =>
    have hn : ∀ x q, e ≠ .Starred x q := by rw [Evs] at h; obtain ⟨d, r, rfl, h1, h2, hn⟩ := h; exact hn
    have u := h.use (p := p) (E := E) S k
    rw [starEach_plain hn] at u ⊢
    exact Calls.evalArgs_plain u

theorem callFn_use {f : Addr} {o : Obj} {fd : FuncData} {first : List Value} {p : Pos} {E : Value → Shared → Prop} {es : List Expr} {ds : List D} {s : Shared} {Z : Zone} {Q : Value → Shared → Prop}
    (ho : C.G.H.get? f = some o) (hd : o.data = .func fd) (h : Evs C ρ es ds) (S : Sat C ρ Z s)
    (k : ∀ vs s' Z', Grow s Z s' Z' → Sat C ρ Z' s' → Reps Z' ds vs → wpAny C.M C.A (call (.ref f) (first ++ vs)) Q E s') :
    wpAny C.M C.A (callWith p (.ref f) first (backTo p (starEach es C.env)) []) Q E s :=
  Calls.callWith_function (o := o) (fd := fd) (evalArgs_use h S fun vs s' Z' g S' r => ⟨⟨S'.zok.keep _ _ ho, hd⟩, k vs s' Z' g S' r⟩)

theorem callOther_use {f : Value} {first : List Value} {p : Pos} {E : Value → Shared → Prop} {es : List Expr} {ds : List D} {s : Shared} {Z : Zone} {Q : Value → Shared → Prop}
    (hf : keeperOf f = pure .machine) (h : Evs C ρ es ds) (S : Sat C ρ Z s)
    (k : ∀ vs s' Z', Grow s Z s' Z' → Sat C ρ Z' s' → Reps Z' ds vs → wpAny C.M C.A (call f (first ++ vs)) Q E s') :
    wpAny C.M C.A (callWith p f first (backTo p (starEach es C.env)) []) Q E s :=
  callWith_of (P := fun _ => True) (by rw [(noStar h).1]; rfl) (fun h _ => ⟨.machine, .inr (.inl rfl), .of_pure hf⟩) (evalArgs_use h S fun vs s' Z' g S' r => ⟨trivial, k vs s' Z' g S' r⟩)

theorem Ev.fn {x : Str} {xp pos : Pos} {f : Addr} {es : List Expr} {ds : List D} {d : D} {n : Nat} (hm : (x, Ent.glob (.ref f)) ∈ ρ) (hs : Evs C ρ es ds) (hf : FnOk C.G n f ds d) (hn : n ≤ C.room) :
    Ev C ρ (.Call (.Name x xp) es [] pos) d := by
  refine ⟨fun s Z Q E S k => ?_⟩
  obtain ⟨o, fd, ho, hd⟩ := hf.fn
  refine Call_ (glob_use hm S (callFn_use ho hd hs S fun vs s1 Z1 g1 S1 r1 => ?_))
  have h1 := S.cx.depth
  have h2 := S.cx.units
  exact hf.run C.A s1 Z1 vs Q E S.cx.handled (by lia) (by lia) S1.zok r1 fun v s' Z' g r => k v s' Z' (g1.trans g) r

/-- a built-in function or type called by its name -/
theorem Ev.callB {x : Str} {xp pos : Pos} {f : Value} {es : List Expr} {ds : List D} {d : D} (hm : (x, Ent.glob f) ∈ ρ) (hk : keeperOf f = pure .machine) (hs : Evs C ρ es ds)
    (hop : ∀ (s : Shared) (Z : Zone) (vs : List Value) (Q E : Value → Shared → Prop), CxOk C → ZOk C.G Z s.heap → Reps Z ds vs → (∀ v s' Z', Grow s Z s' Z' → Rep Z' d v → Q v s') → wpAny C.M C.A (call f vs) Q E s) :
    Ev C ρ (.Call (.Name x xp) es [] pos) d := by
  refine ⟨fun s Z Q E S k => ?_⟩
  refine Call_ (glob_use hm S (callOther_use hk hs S fun vs s1 Z1 g1 S1 r1 => ?_))
  exact hop s1 Z1 vs Q E S.cx S1.zok r1 fun v s' Z' g r => k v s' Z' (g1.trans g) r

theorem reps1 {Z : Zone} {d : D} {vs : List Value} (h : Reps Z [d] vs) : ∃ v, vs = [v] ∧ Rep Z d v := by
  obtain ⟨v, r, rfl, h1, h2⟩ := reps_cons.mp h
  rw [reps_nil.mp h2]; exact ⟨v, rfl, h1⟩
theorem reps2 {Z : Zone} {d d' : D} {vs : List Value} (h : Reps Z [d, d'] vs) : ∃ v v', vs = [v, v'] ∧ Rep Z d v ∧ Rep Z d' v' := by
  obtain ⟨v, r, rfl, h1, h2⟩ := reps_cons.mp h
  obtain ⟨v', rfl, h3⟩ := reps1 h2
  exact ⟨v, v', rfl, h1, h3⟩
theorem reps3 {Z : Zone} {d d' d'' : D} {vs : List Value} (h : Reps Z [d, d', d''] vs) : ∃ v v' v'', vs = [v, v', v''] ∧ Rep Z d v ∧ Rep Z d' v' ∧ Rep Z d'' v'' := by
  obtain ⟨v, r, rfl, h1, h2⟩ := reps_cons.mp h
  obtain ⟨v', v'', rfl, h3, h4⟩ := reps2 h2
  exact ⟨v, v', v'', rfl, h1, h3, h4⟩

theorem Ev.len_list {x : Str} {xp pos : Pos} {e : Expr} {xs : List D} (hm : (x, Ent.glob (.builtin "len")) ∈ ρ) (h : Ev C ρ e (.list xs)) (hn : ∀ x p, e ≠ .Starred x p := by intro _ _ h; cases h) : Ev C ρ (.Call (.Name x xp) [e] [] pos) (.int xs.length) := by
  refine Ev.callB hm rfl (.cons h .nil hn) fun s Z vs Q E _ z r k => ?_
  obtain ⟨v, rfl, r1⟩ := reps1 r
  obtain ⟨a, vs, n, rfl, za, la, ra⟩ := rep_list.mp r1
  have hs := sizeLine_lt
  refine Calls.call_len_list (isList_of (z.zin _ _ za)) (by simp; lia) (k _ _ Z (.tokA z.zin) (rep_int.mpr ⟨s.toks + 1, ?_⟩))
  rw [← ra.length]; simp
theorem Ev.len_tup {x : Str} {xp pos : Pos} {e : Expr} {xs : List D} (hm : (x, Ent.glob (.builtin "len")) ∈ ρ) (h : Ev C ρ e (.tup xs)) (hn : ∀ x p, e ≠ .Starred x p := by intro _ _ h; cases h) : Ev C ρ (.Call (.Name x xp) [e] [] pos) (.int xs.length) := by
  refine Ev.callB hm rfl (.cons h .nil hn) fun s Z vs Q E _ z r k => ?_
  obtain ⟨v, rfl, r1⟩ := reps1 r
  obtain ⟨a, vs, n, rfl, za, la, ra⟩ := rep_tup.mp r1
  have hs := sizeLine_lt
  refine P.len_tuple (z.zin _ _ za) (by simp; lia) (k _ _ Z (.tokA z.zin) (rep_int.mpr ⟨s.toks + 1, ?_⟩))
  rw [← ra.length]; simp
theorem Ev.len_str {x : Str} {xp pos : Pos} {e : Expr} {l : List Nat} (hm : (x, Ent.glob (.builtin "len")) ∈ ρ) (h : Ev C ρ e (.str l)) (hn : ∀ x p, e ≠ .Starred x p := by intro _ _ h; cases h) : Ev C ρ (.Call (.Name x xp) [e] [] pos) (.int l.length) := by
  refine Ev.callB hm rfl (.cons h .nil hn) fun s Z vs Q E _ z r k => ?_
  obtain ⟨v, rfl, r1⟩ := reps1 r
  obtain ⟨hl, t, rfl⟩ := rep_str.mp r1
  have hs := sizeLine_lt
  refine P.len_str (by rw [st_length]; lia) (k _ _ Z (.tokA z.zin) (rep_int.mpr ⟨s.toks + 1, ?_⟩))
  rw [st_length]

theorem Ev.max2 {x : Str} {xp pos : Pos} {e1 e2 : Expr} {a b : Int} (hm : (x, Ent.glob (.builtin "max")) ∈ ρ) (h1 : Ev C ρ e1 (.int a)) (h2 : Ev C ρ e2 (.int b))
    (hn1 : ∀ x p, e1 ≠ .Starred x p := by intro _ _ h; cases h) (hn2 : ∀ x p, e2 ≠ .Starred x p := by intro _ _ h; cases h) : Ev C ρ (.Call (.Name x xp) [e1, e2] [] pos) (.int (max a b)) := by
  refine Ev.callB hm rfl (.cons h1 (.cons h2 .nil hn2) hn1) fun s Z vs Q E cx z r k => ?_
  obtain ⟨v, v', rfl, r1, r2⟩ := reps2 r
  obtain ⟨t, rfl⟩ := rep_int.mp r1
  obtain ⟨u, rfl⟩ := rep_int.mp r2
  refine max_two_ints cx.handled fun h' tk hk => k _ _ Z (.dropA z.zin hk) (rep_int.mpr ?_)
  by_cases hb : b > a
  · rw [if_pos hb, Int.max_eq_right (by lia)]; exact ⟨_, rfl⟩
  · rw [if_neg hb, Int.max_eq_left (by lia)]; exact ⟨_, rfl⟩

theorem Ev.tuple_of {x : Str} {xp pos : Pos} {e : Expr} {xs : List D} (hm : (x, Ent.glob (.type "tuple")) ∈ ρ) (h : Ev C ρ e (.list xs)) (hn : ∀ x p, e ≠ .Starred x p := by intro _ _ h; cases h) : Ev C ρ (.Call (.Name x xp) [e] [] pos) (.tup xs) := by
  refine Ev.callB hm rfl (.cons h .nil hn) fun s Z vs Q E _ z r k => ?_
  obtain ⟨v, rfl, r1⟩ := reps1 r
  obtain ⟨a, vs, n, rfl, za, la, ra⟩ := rep_list.mp r1
  refine call_tuple_list (isList_of (z.zin _ _ za)) (fun h' hk => ?_) (by simpa using la)
  have g1 : Grow s Z { s with heap := h', toks := s.toks } Z := .dropA z.zin hk
  have g2 := Grow.push (s := { s with heap := h', toks := s.toks }) (n := s.toks) (o := tupObj vs 0) g1.zin rfl (Nat.le_refl _)
  exact k _ _ _ (g1.trans g2) (rep_tup.mpr ⟨_, vs, 0, rfl, Zone.put_same _ _ _, la, ra.mono g2.sub⟩)

noncomputable def sumD : List Int → Int
  | [] => 0
  | x :: r => x + sumD r

theorem reps_ints {Z : Zone} : ∀ {ns : List Int} {vs : List Value}, Reps Z (ns.map .int) vs → IntsAre vs ns
  | [], vs, h => by rw [List.map_nil] at h; rw [reps_nil.mp h]; exact .nil
  | n :: ns, vs, h => by
    rw [List.map_cons] at h
    obtain ⟨v, r, rfl, h1, h2⟩ := reps_cons.mp h
    obtain ⟨t, rfl⟩ := rep_int.mp h1
    exact .cons n t (reps_ints h2)
end
end Mine
namespace Mine

inductive Out where
  | next | brk | cont
  | ret (d : D)

noncomputable def FlowIs (Z : Zone) : Out → Flow → Prop
  | .next, f => f = .next
  | .brk, f => f = .brk
  | .cont, f => f = .cont
  | .ret d, f => ∃ v, f = .ret v ∧ Rep Z d v

/-- a statement's work: the zone grows; iterators stand -/
noncomputable def IsIt (o : Obj) (us : Array Value) : Prop := o.data = .fields us ∨ (o.cls = .type "tuple" ∧ ∃ n, o.data = .seq us n)
theorem IsIt.ndict {o : Obj} {us : Array Value} {es : Array DictEntry} {ep : Nat} (h : IsIt o us) (hd : o.data = .dict es ep) : False := by
  rcases h with h | ⟨_, n, h⟩ <;> rw [h] at hd <;> cases hd
theorem IsIt.ncell {o : Obj} {us : Array Value} {v : Option Value} (h : IsIt o us) (hd : o.data = .cell v) : False := by
  rcases h with h | ⟨_, n, h⟩ <;> rw [h] at hd <;> cases hd
theorem IsIt.nlist {us : Array Value} {vs : List Value} {n : Nat} (h : IsIt (listObj vs n) us) : False := by
  rcases h with h | ⟨h, _⟩
  · cases h
  · exact absurd (Value.type.inj h) (by decide)
theorem IsIt.ninst {us : Array Value} {K dx : Addr} (h : IsIt (instObj K dx) us) : False := by
  rcases h with h | ⟨h, _⟩ <;> cases h
structure GrowS (s : Shared) (Z : Zone) (s' : Shared) (Z' : Zone) : Prop where
  sub : ZSub Z Z'
  iter : ∀ a o vs, s.heap.get? a = some o → IsIt o vs → s'.heap.get? a = some o
  iterz : ∀ a o vs, s.heap.get? a = some o → IsIt o vs → Z a = none → Z' a = none
theorem GrowS.refl (s : Shared) (Z : Zone) : GrowS s Z s Z := ⟨.refl _, fun _ _ _ e _ => e, fun _ _ _ _ _ e => e⟩
theorem GrowS.trans {s s' s'' : Shared} {Z Z' Z'' : Zone} (a : GrowS s Z s' Z') (b : GrowS s' Z' s'' Z'') : GrowS s Z s'' Z'' :=
  ⟨a.sub.trans b.sub, fun x o vs e d => b.iter x o vs (a.iter x o vs e d) d, fun x o vs e d z => b.iterz x o vs (a.iter x o vs e d) d (a.iterz x o vs e d z)⟩
theorem Grow.s {s s' : Shared} {Z Z' : Zone} (g : Grow s Z s' Z') : GrowS s Z s' Z' := ⟨g.sub, fun a o vs e _ => g.keep _ _ e, fun a o vs e _ z => by
    cases q : Z' a with
    | none => rfl
    | some o' => rcases g.new _ _ q with q | q
                 · rw [z] at q; cases q
                 · rw [e] at q; cases q⟩

structure ExT (C : Cx) (ρ : Rho) (t : Sem Flow) (R : Out → Rho → Prop) : Prop where
  run : ∀ (s : Shared) (Z : Zone) (Q : Flow → Shared → Prop) (E : Value → Shared → Prop), Sat C ρ Z s →
    (∀ o ρ' s' Z' fl, R o ρ' → Sat C ρ' Z' s' → GrowS s Z s' Z' → FlowIs Z' o fl → Q fl s') → wpAny C.M C.A t Q E s
noncomputable def Ex (C : Cx) (ρ : Rho) (st : Stmt) (R : Out → Rho → Prop) : Prop := ExT C ρ (exec st C.env) R
noncomputable def Exs (C : Cx) (ρ : Rho) (sts : List Stmt) (R : Out → Rho → Prop) : Prop := ExT C ρ (execs sts C.env) R

noncomputable def Ent.isGlob : Ent → Bool
  | .glob _ => true
  | _ => false

inductive Put : Rho → Str → Ent → Rho → Prop
  | here {x e0 e r} : e0.isGlob = false → Put ((x, e0) :: r) x e ((x, e) :: r)
  | there {x e y f r r'} : Put r x e r' → Put ((y, f) :: r) x e ((y, f) :: r')

theorem Put.names {ρ ρ' : Rho} {x : Str} {e : Ent} (h : Put ρ x e ρ') : ρ'.map (·.1) = ρ.map (·.1) := by
  induction h with
  | here _ => rfl
  | there _ ih => simp [ih]
theorem Put.old {ρ ρ' : Rho} {x : Str} {e : Ent} (h : Put ρ x e ρ') : ∃ e0, (x, e0) ∈ ρ ∧ e0.isGlob = false := by
  induction h with
  | here h => exact ⟨_, .head _, h⟩
  | there _ ih => obtain ⟨e0, a, b⟩ := ih; exact ⟨e0, .tail _ a, b⟩
theorem Put.mem {ρ ρ' : Rho} {x : Str} {e : Ent} (h : Put ρ x e ρ') (hn : (ρ.map (·.1)).Nodup) : ∀ p ∈ ρ', (p.1 = x ∧ p.2 = e) ∨ (p.1 ≠ x ∧ p ∈ ρ) := by
  induction h with
  | @here x e0 e r _ =>
    intro p hp
    rcases List.mem_cons.mp hp with rfl | hp
    · exact .inl ⟨rfl, rfl⟩
    · refine .inr ⟨fun q => ?_, .tail _ hp⟩
      have := (List.nodup_cons.mp hn).1
      exact this (List.mem_map.mpr ⟨p, hp, q⟩)
  | @there x e y f r r' hr ih =>
    intro p hp
    have hn' := List.nodup_cons.mp hn
    rcases List.mem_cons.mp hp with rfl | hp
    · refine .inr ⟨fun q => ?_, .head _⟩
      obtain ⟨e0, a, _⟩ := hr.old
      exact hn'.1 (List.mem_map.mpr ⟨_, a, q.symm⟩)
    · exact (ih hn'.2 p hp).imp id fun ⟨a, b⟩ => ⟨a, .tail _ b⟩

section
variable {C : Cx} {ρ : Rho}

theorem EntOk.at {Z : Zone} {h : Heap} {m : Str → Option Value} {x : Str} {e : Ent} (hk : EntOk C Z h m x e) (hg : e.isGlob = false) : VarAt C.env x := by
  cases e with
  | unset => exact hk
  | val d => exact hk.1
  | own xs => exact hk.1
  | ownd kvs => exact hk.1
  | oinst a0 K ns ds => exact hk.1
  | glob v => cases hg

/-- what one write leaves -/
theorem EntOk.write {Z : Zone} {h h' : Heap} {m m' : Str → Option Value} {y : Str} {e : Ent} {w : Addr} (hs : Heap.SameBut w h h')
    (h1 : ∀ a vs n, h.get? a = some (listObj vs n) → a ≠ w) (h2 : ∀ a es n, h.get? a = some (dictOf es n) → a ≠ C.L → a ≠ w) (h3 : ∀ a K dx, h.get? a = some (instObj K dx) → a ≠ w)
    (hv : ∀ v, VarIs C.env h m y v → VarIs C.env h' m' y v) (hk : EntOk C Z h m y e) : EntOk C Z h' m' y e := by
  cases e with
  | unset => exact hk
  | val d => obtain ⟨q, v, a, b⟩ := hk; exact ⟨q, v, hv _ a, b⟩
  | own xs => obtain ⟨q, a, vs, n, b, c, d⟩ := hk; exact ⟨q, a, vs, n, hv _ b, (hs.2 _ (h1 _ _ _ c)).trans c, d⟩
  | ownd kvs => obtain ⟨q, a, es, n, b, c, d, f, g, i⟩ := hk; exact ⟨q, a, es, n, hv _ b, (hs.2 _ (h2 _ _ _ c g)).trans c, d, f, g, i⟩
  | oinst a0 K ns ds => obtain ⟨q, a, dx, es, n, vs, b, c, d, f1, f2, f3, f4, f5, f6⟩ := hk; exact ⟨q, a, dx, es, n, vs, hv _ b, (hs.2 _ (h3 _ _ _ c)).trans c, (hs.2 _ (h2 _ _ _ d f5)).trans d, f1, f2, f3, f4, f5, f6⟩
  | glob v => exact hk

/-- the entry that a store leaves -/
noncomputable def EntNew (C : Cx) (Z : Zone) (h : Heap) (v : Value) : Ent → Prop
  | .val d => Rep Z d v
  | .own xs => ∃ a vs n, v = .ref a ∧ h.get? a = some (listObj vs n) ∧ Z a = none ∧ C.B a = none ∧ vs.length ≤ sizeLine ∧ Reps Z xs vs
  | .ownd kvs => ∃ a es n, v = .ref a ∧ h.get? a = some (dictOf es n) ∧ Z a = none ∧ C.B a = none ∧ a ≠ C.L ∧ es.length ≤ sizeLine ∧ DRep C.G.w es kvs ∧ (a == sysModules) = false
  | _ => False

theorem EntNew.ok {Z : Zone} {h h' : Heap} {m' : Str → Option Value} {x : Str} {v : Value} {e : Ent} {w : Addr} (hs : Heap.SameBut w h h') (ha : VarAt C.env x)
    (h1 : ∀ a vs n, h.get? a = some (listObj vs n) → a ≠ w) (h2 : ∀ a es n, h.get? a = some (dictOf es n) → a ≠ C.L → a ≠ w) (hv : VarIs C.env h' m' x v) (hk : EntNew C Z h v e) : EntOk C Z h' m' x e := by
  cases e with
  | unset => cases hk
  | val d => exact ⟨ha, v, hv, hk⟩
  | own xs => obtain ⟨a, vs, n, rfl, c, d⟩ := hk; exact ⟨ha, a, vs, n, hv, (hs.2 _ (h1 _ _ _ c)).trans c, d⟩
  | ownd kvs => obtain ⟨a, es, n, rfl, c, d, f, g, i⟩ := hk; exact ⟨ha, a, es, n, hv, (hs.2 _ (h2 _ _ _ c g)).trans c, d, f, g, i⟩
  | oinst a0 K ns ds => cases hk
  | glob v => cases hk

theorem Sat.storeK {ρ' : Rho} {x : Str} {v : Value} {e : Ent} {s : Shared} {Z : Zone} {Q : Unit → Shared → Prop} {E : Value → Shared → Prop} (S : Sat C ρ Z s) (hp : Put ρ x e ρ') (hw : C.wr = true ∨ C.env.kindOf x = some .local) (hv : EntNew C Z s.heap v e)
    (hfr : e.isOwn = true → ∀ p ∈ ρ, p.1 ≠ x → p.2.isOwn = true → ∀ m, s.heap.Ns C.L m → ¬ VarIs C.env s.heap m p.1 v)
    (k : ∀ s', Sat C ρ' Z s' → GrowS s Z s' Z → (∀ b o, b ≠ C.L → (∀ y c, C.env.cells.lookup y = some c → b ≠ c) → s.heap.get? b = some o → s'.heap.get? b = some o) → Q () s') : wpAny C.M C.A (storeName C.env x v) Q E s := by
  obtain ⟨m, hn, he, hap⟩ := S.ns
  obtain ⟨e0, hm0, hg0⟩ := hp.old
  have hat := (he _ hm0).at hg0
  obtain ⟨oL, esL, epL, hL, hLd, _⟩ := id hn
  have hmem := hp.mem S.nodup
  rcases hat.2 with hloc | ⟨hcell, c, hc⟩
  · have h1 : ∀ a vs n, s.heap.get? a = some (listObj vs n) → a ≠ C.L := fun a vs n q r => by subst r; rw [hL] at q; cases q; cases hLd
    have h3 : ∀ a K dx, s.heap.get? a = some (instObj K dx) → a ≠ C.L := fun a vs n q r => by subst r; rw [hL] at q; cases q; cases hLd
    refine wpAny_storeName_local hloc hn (fun h' hn' hs' => ?_) (by rw [S.cx.kind]; rfl)
    have hvar : ∀ y v', y ≠ x → VarIs C.env s.heap m y v' → VarIs C.env h' (fun z => if z = x then some v else m z) y v' := fun y v' hy q => by
      rcases q with ⟨a, b⟩ | ⟨a, c, o, b, d, f⟩
      · exact .inl ⟨a, by simp [hy, b]⟩
      · exact .inr ⟨a, c, o, b, (hs'.2 _ (S.cells _ _ b).2.1).trans d, f⟩
    have hvar' : ∀ y v', y ≠ x → VarIs C.env h' (fun z => if z = x then some v else m z) y v' → VarIs C.env s.heap m y v' := fun y v' hy q => by
      rcases q with ⟨a, b⟩ | ⟨a, c, o, b, d, f⟩
      · exact .inl ⟨a, by simpa [hy] using b⟩
      · exact .inr ⟨a, c, o, b, (hs'.2 _ (S.cells _ _ b).2.1).symm.trans d, f⟩
    have hx : VarIs C.env h' (fun z => if z = x then some v else m z) x v := .inl ⟨hloc, by simp⟩
    refine k _ ⟨S.cx, by rw [hp.names]; exact S.nodup, ⟨_, hn', fun p hp' => ?_, fun p hp' q hq o1 o2 a v1 v2 => ?_⟩, fun a o e => (hs'.2 a (fun q => by subst q; rw [S.bL] at e; cases e)).trans (S.keep a o e), S.bL, S.z0,
      fun a o e => (hs'.2 a (fun q => by subst q; rw [S.zL] at e; cases e)).trans (S.zin a o e), S.zL, S.znew, fun y c hc => ?_, S.cinj, ⟨S.rest.1, S.rest.2, S.rest.3⟩⟩ ⟨.refl _, fun a o vs e d => ?_, fun _ _ _ _ _ z => z⟩ (fun b o h1 h2 e => (hs'.2 b h1).trans e)
    · rcases hmem p hp' with ⟨q1, q2⟩ | ⟨q1, q2⟩
      · rw [q1, q2]; exact hv.ok hs' hat h1 (fun _ _ _ _ h => h) hx
      · exact (he p q2).write hs' h1 (fun _ _ _ _ h => h) h3 (fun v' => hvar _ v' q1)
    · rcases hmem p hp' with ⟨q1, q2⟩ | ⟨q1, q2⟩ <;> rcases hmem q hq with ⟨r1, r2⟩ | ⟨r1, r2⟩
      · rw [q1, r1]
      · rw [q1] at v1; have := hx.uniq v1; subst this
        rw [q2] at o1
        exact absurd (hvar' _ _ r1 v2) (hfr o1 q r2 r1 o2 m hn)
      · rw [r1] at v2; have := hx.uniq v2; subst this
        rw [r2] at o2
        exact absurd (hvar' _ _ q1 v1) (hfr o2 p q2 q1 o1 m hn)
      · exact hap p q2 q r2 o1 o2 a (hvar' _ _ q1 v1) (hvar' _ _ r1 v2)
    · obtain ⟨a1, a2, ⟨o, v', a3, a4⟩, a5⟩ := S.cells y c hc
      exact ⟨a1, a2, ⟨o, v', (hs'.2 _ a2).trans a3, a4⟩, a5⟩
    · exact (hs'.2 a (fun q => by subst q; rw [hL] at e; cases e; exact d.ndict hLd)).trans e
  · replace hw : C.wr = true := hw.elim id fun h => by rw [hcell] at h; cases h
    obtain ⟨z1, z2, ⟨oc, vc, hoc, hdc⟩, z4⟩ := S.cells x c hc
    have h1 : ∀ a vs n, s.heap.get? a = some (listObj vs n) → a ≠ c := fun a vs n q r => by subst r; rw [hoc] at q; cases q; cases hdc
    have h2 : ∀ a es n, s.heap.get? a = some (dictOf es n) → a ≠ C.L → a ≠ c := fun a vs n q _ r => by subst r; rw [hoc] at q; cases q; cases hdc
    have h3 : ∀ a K dx, s.heap.get? a = some (instObj K dx) → a ≠ c := fun a vs n q r => by subst r; rw [hoc] at q; cases q; cases hdc
    refine wpAny_storeName_cell S.cx.kind hcell hc ⟨oc, hoc, hdc⟩ (fun h' hc' hs' => ?_)
    obtain ⟨oc', hoc', hdc'⟩ := hc'
    have hvar : ∀ y v', y ≠ x → VarIs C.env s.heap m y v' → VarIs C.env h' m y v' := fun y v' hy q => by
      rcases q with ⟨a, b⟩ | ⟨a, c', o, b, d, f⟩
      · exact .inl ⟨a, b⟩
      · exact .inr ⟨a, c', o, b, (hs'.2 _ (fun q => hy (S.cinj _ _ _ (q ▸ b) hc))).trans d, f⟩
    have hvar' : ∀ y v', y ≠ x → VarIs C.env h' m y v' → VarIs C.env s.heap m y v' := fun y v' hy q => by
      rcases q with ⟨a, b⟩ | ⟨a, c', o, b, d, f⟩
      · exact .inl ⟨a, b⟩
      · exact .inr ⟨a, c', o, b, (hs'.2 _ (fun q => hy (S.cinj _ _ _ (q ▸ b) hc))).symm.trans d, f⟩
    have hx : VarIs C.env h' m x v := .inr ⟨hcell, c, oc', hc, hoc', hdc'⟩
    refine k _ ⟨S.cx, by rw [hp.names]; exact S.nodup, ⟨m, hn.sameBut hs' (Ne.symm z2), fun p hp' => ?_, fun p hp' q hq o1 o2 a v1 v2 => ?_⟩, fun a o e => (hs'.2 a (fun q => by subst q; rw [z4 hw] at e; cases e)).trans (S.keep a o e), S.bL, S.z0,
      fun a o e => (hs'.2 a (fun q => by subst q; rw [z1] at e; cases e)).trans (S.zin a o e), S.zL, S.znew, fun y c' hc' => ?_, S.cinj, ⟨S.rest.1, S.rest.2, S.rest.3⟩⟩ ⟨.refl _, fun a o vs e d => ?_, fun _ _ _ _ _ z => z⟩ (fun b o h1 h2 e => (hs'.2 b (h2 x c hc)).trans e)
    · rcases hmem p hp' with ⟨q1, q2⟩ | ⟨q1, q2⟩
      · rw [q1, q2]; exact hv.ok hs' hat h1 h2 hx
      · exact (he p q2).write hs' h1 h2 h3 (fun v' => hvar _ v' q1)
    · rcases hmem p hp' with ⟨q1, q2⟩ | ⟨q1, q2⟩ <;> rcases hmem q hq with ⟨r1, r2⟩ | ⟨r1, r2⟩
      · rw [q1, r1]
      · rw [q1] at v1; have := hx.uniq v1; subst this
        rw [q2] at o1
        exact absurd (hvar' _ _ r1 v2) (hfr o1 q r2 r1 o2 m hn)
      · rw [r1] at v2; have := hx.uniq v2; subst this
        rw [r2] at o2
        exact absurd (hvar' _ _ q1 v1) (hfr o2 p q2 q1 o1 m hn)
      · exact hap p q2 q r2 o1 o2 a (hvar' _ _ q1 v1) (hvar' _ _ r1 v2)
    · obtain ⟨a1, a2, ⟨o, v', a3, a4⟩, a5⟩ := S.cells y c' hc'
      by_cases hcc : c' = c
      · subst hcc; exact ⟨a1, a2, ⟨oc', _, hoc', hdc'⟩, a5⟩
      · exact ⟨a1, a2, ⟨o, v', (hs'.2 _ hcc).trans a3, a4⟩, a5⟩
    · exact (hs'.2 a (fun q => by subst q; rw [hoc] at e; cases e; exact d.ncell hdc)).trans e

theorem Sat.store {ρ' : Rho} {x : Str} {v : Value} {e : Ent} {s : Shared} {Z : Zone} {Q : Unit → Shared → Prop} {E : Value → Shared → Prop} (S : Sat C ρ Z s) (hp : Put ρ x e ρ') (hw : C.wr = true ∨ C.env.kindOf x = some .local) (hv : EntNew C Z s.heap v e)
    (hfr : e.isOwn = true → ∀ p ∈ ρ, p.1 ≠ x → p.2.isOwn = true → ∀ m, s.heap.Ns C.L m → ¬ VarIs C.env s.heap m p.1 v)
    (k : ∀ s', Sat C ρ' Z s' → GrowS s Z s' Z → Q () s') : wpAny C.M C.A (storeName C.env x v) Q E s := S.storeK hp hw hv hfr fun s' S' g _ => k s' S' g

theorem Sat.store_val {ρ' : Rho} {x : Str} {v : Value} {d : D} {s : Shared} {Z : Zone} {Q : Unit → Shared → Prop} {E : Value → Shared → Prop} (S : Sat C ρ Z s) (hp : Put ρ x (.val d) ρ') (hw : C.wr = true ∨ C.env.kindOf x = some .local) (hv : Rep Z d v)
    (k : ∀ s', Sat C ρ' Z s' → GrowS s Z s' Z → Q () s') : wpAny C.M C.A (storeName C.env x v) Q E s := S.store hp hw hv (fun h => by cases h) k
end
end Mine
namespace Mine
section
variable {C : Cx} {ρ ρ' : Rho} {R : Out → Rho → Prop}

theorem Exs.nil (h : R .next ρ) : Exs C ρ [] R := ⟨fun s Z Q E S k => wpAny_execs_nil (k .next ρ s Z _ h S (.refl _ _) rfl)⟩
theorem Exs.cons {st : Stmt} {rest : List Stmt} {R' : Out → Rho → Prop} (h : Ex C ρ st R') (hr : ∀ ρ', R' .next ρ' → Exs C ρ' rest R) (hb : ∀ ρ', R' .brk ρ' → R .brk ρ') (hc : ∀ ρ', R' .cont ρ' → R .cont ρ') (hd : ∀ d ρ', R' (.ret d) ρ' → R (.ret d) ρ') : Exs C ρ (st :: rest) R := by
  refine ⟨fun s Z Q E S k => ?_⟩
  refine wpAny_execs_cons (h.run s Z _ E S fun o ρ1 s1 Z1 fl r S1 g1 hf => ?_)
  cases o with
  | next => rw [FlowIs] at hf; subst hf; exact (hr ρ1 r).run s1 Z1 Q E S1 fun o ρ2 s2 Z2 fl r2 S2 g2 hf2 => k o ρ2 s2 Z2 fl r2 S2 (g1.trans g2) hf2
  | brk => have hf' := hf; rw [FlowIs] at hf; subst hf; exact k .brk ρ1 s1 Z1 _ (hb _ r) S1 g1 hf'
  | cont => have hf' := hf; rw [FlowIs] at hf; subst hf; exact k .cont ρ1 s1 Z1 _ (hc _ r) S1 g1 hf'
  | ret d => have hf' := hf; rw [FlowIs] at hf; obtain ⟨v, rfl, _⟩ := hf; exact k (.ret d) ρ1 s1 Z1 _ (hd _ _ r) S1 g1 hf'
/-- a statement that goes on to one known frame -/
theorem Exs.step {st : Stmt} {rest : List Stmt} (h : Ex C ρ st (fun o q => o = .next ∧ q = ρ')) (hr : Exs C ρ' rest R) : Exs C ρ (st :: rest) R :=
  .cons h (fun _ ⟨_, e⟩ => e ▸ hr) (fun _ ⟨e, _⟩ => by cases e) (fun _ ⟨e, _⟩ => by cases e) (fun _ _ ⟨e, _⟩ => by cases e)
theorem ExT.mono {t : Sem Flow} {R' : Out → Rho → Prop} (h : ExT C ρ t R') (hr : ∀ o q, R' o q → R o q) : ExT C ρ t R := ⟨fun s Z Q E S k => h.run s Z Q E S fun o ρ1 s1 Z1 fl r => k o ρ1 s1 Z1 fl (hr _ _ r)⟩
theorem Exs.last {st : Stmt} (h : Ex C ρ st R) : Exs C ρ [st] R := .cons h (fun _ r => .nil r) (fun _ r => r) (fun _ r => r) (fun _ _ r => r)

theorem Ex.ret {e : Expr} {p : Pos} {d : D} (h : Ev C ρ e d) (r : R (.ret d) ρ) : Ex C ρ (.Return (some e) p) R := ⟨fun s Z Q E S k =>
  wpAny_Return_some (h.use S fun v s1 Z1 g1 S1 rv => k (.ret d) ρ s1 Z1 _ r S1 g1.s ⟨v, rfl, rv⟩)⟩
theorem Ex.brk {p : Pos} (r : R .brk ρ) : Ex C ρ (.Break p) R := ⟨fun s Z Q E S k => wpAny_Break (k .brk ρ s Z _ r S (.refl _ _) rfl)⟩
theorem Ex.cont {p : Pos} (r : R .cont ρ) : Ex C ρ (.Continue p) R := ⟨fun s Z Q E S k => wpAny_Continue (k .cont ρ s Z _ r S (.refl _ _) rfl)⟩
theorem Ex.pass {p : Pos} (r : R .next ρ) : Ex C ρ (.Pass p) R := ⟨fun s Z Q E S k => wpAny_Pass (k .next ρ s Z _ r S (.refl _ _) rfl)⟩

theorem Ex.if_ {t : Expr} {a b : List Stmt} {p : Pos} {c : Bool} (ht : Tr C ρ t c) (h1 : c = true → Exs C ρ a R) (h2 : c = false → Exs C ρ b R) : Ex C ρ (.If t a b p) R := by
  refine ⟨fun s Z Q E S k => ?_⟩
  refine wpAny_If (ht.use S fun s1 Z1 g1 S1 => ?_)
  have fin : ∀ sts, Exs C ρ sts R → wpAny C.M C.A (execs sts C.env) Q E s1 := fun sts h => h.run s1 Z1 Q E S1 fun o ρ2 s2 Z2 fl r S2 g2 hf => k o ρ2 s2 Z2 fl r S2 (g1.s.trans g2) hf
  cases c with
  | true => rw [if_pos rfl]; exact fin _ (h1 rfl)
  | false => rw [if_neg Bool.false_ne_true]; exact fin _ (h2 rfl)

theorem Ex.assign {x : Str} {e : Expr} {p' p : Pos} {d : D} (h : Ev C ρ e d) (hp : Put ρ x (.val d) ρ') (hw : C.wr = true) (r : R .next ρ')
    (hs : swapsWith e (some (.Name x p')) p.line C.env = pure false := by rfl) : Ex C ρ (.Assign [.Name x p'] e p) R := by
  refine ⟨fun s Z Q E S k => ?_⟩
  refine wpAny_Assign_Name (h.use S fun v s1 Z1 g1 S1 rv => S1.store_val hp (.inl hw) rv fun s2 S2 g2 => ?_) hs
  exact k .next ρ' s2 Z1 _ r S2 (g1.s.trans g2) rfl

/-- own values cannot be one of the frame's own -/
theorem Sat.apart_new {s s' : Shared} {Z : Zone} {x : Str} {a : Addr} (S : Sat C ρ Z s) (hk : ∀ b o, s.heap.get? b = some o → s'.heap.get? b = some o) (ha : s.heap.get? a = none) :
    ∀ p ∈ ρ, p.1 ≠ x → p.2.isOwn = true → ∀ m, s'.heap.Ns C.L m → ¬ VarIs C.env s'.heap m p.1 (.ref a) := by
  intro p hp _ ho m hn hv
  obtain ⟨m0, hn0, he, _⟩ := S.ns
  have hmm : m = m0 := by
    obtain ⟨o, es, ep, h1, h2, _, h3⟩ := hn
    obtain ⟨o0, es0, ep0, h10, h20, _, h30⟩ := hn0
    rw [hk _ _ h10] at h1; cases h1
    rw [h20] at h2; cases h2
    funext y; rw [← h3, ← h30]
  subst hmm
  have own : ∃ b o, VarIs C.env s.heap m p.1 (.ref b) ∧ s.heap.get? b = some o := by
    have := he p hp
    obtain ⟨y, e⟩ := p
    cases e with
    | unset => cases ho
    | val d => cases ho
    | glob d => cases ho
    | own xs => obtain ⟨w, b, vs, n, hv, h1, _⟩ := this; exact ⟨b, _, hv, h1⟩
    | ownd xs => obtain ⟨w, b, vs, n, hv, h1, _⟩ := this; exact ⟨b, _, hv, h1⟩
    | oinst a0 K ns ds => obtain ⟨w, b, dx, es, n, vs, hv, h1, _⟩ := this; exact ⟨b, _, hv, h1⟩
  obtain ⟨b, o, v1, h1⟩ := own
  have := (v1.keep hk).uniq hv
  cases this
  rw [ha] at h1; cases h1

theorem Sat.b_none {s : Shared} {Z : Zone} {a : Addr} (S : Sat C ρ Z s) (ha : s.heap.get? a = none) : C.B a = none := by
  cases q : C.B a with
  | none => rfl
  | some o => rw [S.keep _ _ q] at ha; cases ha

theorem Ex.assignO {x : Str} {e : Expr} {p' p : Pos} {xs : List D} (h : EvO C ρ e xs) (hp : Put ρ x (.own xs) ρ') (hw : C.wr = true) (r : R .next ρ')
    (hs : swapsWith e (some (.Name x p')) p.line C.env = pure false := by rfl) : Ex C ρ (.Assign [.Name x p'] e p) R := by
  refine ⟨fun s Z Q E S k => ?_⟩
  refine wpAny_Assign_Name (h.run s Z _ E S fun a vs n s1 Z1 g1 ha ha' hz hl hr => ?_) hs
  have S1 := S.grow g1
  refine S1.store hp (.inl hw) ⟨a, vs, n, rfl, ha', hz, S.b_none ha, hl, hr⟩ (fun _ => S.apart_new g1.keep ha) fun s2 S2 g2 => ?_
  exact k .next ρ' s2 Z1 _ r S2 (g1.s.trans g2) rfl

theorem Ex.aug {x : Str} {e : Expr} {op : Operator} {p' p : Pos} {d0 d1 d : D} (h0 : (x, Ent.val d0) ∈ ρ) (h : Ev C ρ e d1) (hop : Op2 C (inplaceOp op) d0 d1 d) (hp : Put ρ x (.val d) ρ') (hw : C.wr = true) (r : R .next ρ') :
    Ex C ρ (.AugAssign (.Name x p') op e p) R := by
  refine ⟨fun s Z Q E S k => ?_⟩
  obtain ⟨m, hn, he, _⟩ := S.ns
  obtain ⟨⟨hd, _⟩, v, hv, hr⟩ := he _ h0
  refine wpAny_AugAssign_Name ?_
  have fin : wpAny C.M C.A (eval e C.env) (fun v2 s₂ => wpAny C.M C.A (inplaceOp op v v2) (fun r s₃ => wpAny C.M C.A (storeName C.env x r) (fun _ => Q Flow.next) E s₃) E s₂) E s :=
    h.use S fun v2 s1 Z1 g1 S1 r2 => hop.run s1 Z1 v v2 _ E S.cx S1.zok (hr.mono g1.sub) r2 fun v3 s2 Z2 g2 r3 => (S1.grow g2).store_val hp (.inl hw) r3 fun s3 S3 g3 => k .next ρ' s3 Z2 _ r S3 ((g1.trans g2).s.trans g3) rfl
  rcases hv with ⟨k1, e⟩ | ⟨k1, c, o, a, b, e⟩
  · exact wpAny_loadName_local S.cx.kind k1 hn e fin
  · exact wpAny_loadName_cell S.cx.kind k1 a ⟨o, b, e⟩ fin

/-- ghost: an own list is frozen -/
theorem Sat.freeze {x : Str} {xs : List D} {s : Shared} {Z : Zone} (S : Sat C ρ Z s) (hm : (x, Ent.own xs) ∈ ρ) (hp : Put ρ x (.val (.list xs)) ρ') : ∃ Z', Sat C ρ' Z' s ∧ GrowS s Z s Z' := by
  obtain ⟨m, hn, he, hap⟩ := S.ns
  obtain ⟨hat, a, vs, n, hv, h1, h2, h3, h4, h5⟩ := he _ hm
  have hsub : ZSub Z (Z.put a (listObj vs n)) := Zone.put_sub h2
  obtain ⟨oL, esL, epL, hL, hLd, _⟩ := id hn
  have hmem := hp.mem S.nodup
  have other : ∀ b o, s.heap.get? b = some o → b ≠ a → Z b = none → (Z.put a (listObj vs n)) b = none := fun b o _ hb hz => by unfold Zone.put; rw [if_neg hb]; exact hz
  refine ⟨Z.put a (listObj vs n), ⟨S.cx, by rw [hp.names]; exact S.nodup, ⟨m, hn, fun p hp' => ?_, fun p hp' q hq o1 o2 => ?_⟩, S.keep, S.bL, S.z0.trans hsub, fun b o e => ?_, ?_, fun b o e => ?_, fun y c hc => ?_, S.cinj, S.rest⟩, ⟨hsub, fun _ _ _ e _ => e, fun b o us e d z => other _ _ e (fun q => by rw [q, h1] at e; cases e; exact d.nlist) z⟩⟩
  · rcases hmem p hp' with ⟨q1, q2⟩ | ⟨q1, q2⟩
    · rw [q1, q2]
      exact ⟨hat, _, hv, rep_list.mpr ⟨a, vs, n, rfl, Zone.put_same _ _ _, h4, h5.mono hsub⟩⟩
    · have hk := he p q2
      have hapx : p.2.isOwn = true → ∀ b, VarIs C.env s.heap m p.1 (.ref b) → b ≠ a := fun ho b vb hba => q1 (hap p q2 (x, .own xs) hm ho rfl a (hba ▸ vb) hv)
      obtain ⟨y, e⟩ := p
      cases e with
      | unset => exact hk
      | val d => obtain ⟨w, v, hv, hr⟩ := hk; exact ⟨w, v, hv, hr.mono hsub⟩
      | own ys => obtain ⟨w, b, us, n', hv', k1, k2, k3, k4, k5⟩ := hk; exact ⟨w, b, us, n', hv', k1, other _ _ k1 (hapx rfl _ hv') k2, k3, k4, k5.mono hsub⟩
      | ownd ys => obtain ⟨w, b, us, n', hv', k1, k2, k3, k4, k5⟩ := hk; exact ⟨w, b, us, n', hv', k1, other _ _ k1 (hapx rfl _ hv') k2, k3, k4, k5⟩
      | oinst a0 K ns ds =>
        obtain ⟨w, b, dx, es, n', us, hv', k1, k2, k3, k4, k5, k6, k7, k8, k9, k10, k11, k12⟩ := hk
        refine ⟨w, b, dx, es, n', us, hv', k1, k2, other _ _ k1 (hapx rfl _ hv') k3, other _ _ k2 (fun q => ?_) k4, k5, k6, k7, k8, k9, k10, k11.mono hsub, k12⟩
        rw [q, h1] at k2; have := congrArg Obj.data (Option.some.inj k2); cases this
      | glob v => exact hk
  · rcases hmem p hp' with ⟨q1, q2⟩ | ⟨q1, q2⟩
    · rw [q2] at o1; cases o1
    · rcases hmem q hq with ⟨r1, r2⟩ | ⟨r1, r2⟩
      · rw [r2] at o2; cases o2
      · exact hap p q2 q r2 o1 o2
  · rcases Zone.put_cases e with ⟨q, r⟩ | e
    · subst q; subst r; exact h1
    · exact S.zin _ _ e
  · exact other _ _ hL (fun q => by rw [← q, hL] at h1; cases h1; cases hLd) S.zL
  · rcases Zone.put_cases e with ⟨q, r⟩ | e
    · subst q; exact .inr h3
    · exact S.znew _ _ e
  · obtain ⟨a1, a2, ⟨o, v', a3, a4⟩, a5⟩ := S.cells y c hc
    exact ⟨other _ _ a3 (fun q => by rw [q, h1] at a3; cases a3; cases a4) a1, a2, ⟨o, v', a3, a4⟩, a5⟩

theorem ExT.freeze {t : Sem Flow} {x : Str} {xs : List D} (hm : (x, Ent.own xs) ∈ ρ) (hp : Put ρ x (.val (.list xs)) ρ') (h : ExT C ρ' t R) : ExT C ρ t R := by
  refine ⟨fun s Z Q E S k => ?_⟩
  obtain ⟨Z', S', g⟩ := S.freeze hm hp
  exact h.run s Z' Q E S' fun o ρ2 s2 Z2 fl r S2 g2 hf => k o ρ2 s2 Z2 fl r S2 (g.trans g2) hf

/-- one write into an own list -/
theorem Sat.wrote {x : Str} {xs ys : List D} {s : Shared} {Z : Zone} {a : Addr} {vs : List Value} {n : Nat} {h' : Heap} {ws : List Value} {n' : Nat} {tk : Nat} {m : Str → Option Value} (S : Sat C ρ Z s) (hm : (x, Ent.own xs) ∈ ρ) (hp : Put ρ x (.own ys) ρ')
    (hn : s.heap.Ns C.L m) (hv : VarIs C.env s.heap m x (.ref a)) (ha : s.heap.get? a = some (listObj vs n)) (hz : Z a = none) (hb : C.B a = none) (hs : Heap.SameBut a s.heap h') (ha' : h'.get? a = some (listObj ws n')) (hl : ws.length ≤ sizeLine) (hr : Reps Z ys ws) :
    Sat C ρ' Z { s with heap := h', toks := tk } ∧ GrowS s Z { s with heap := h', toks := tk } Z := by
  obtain ⟨m0, hn0, he, hap⟩ := S.ns
  have hmm : m = m0 := by
    obtain ⟨o, es, ep, h1, h2, _, h3⟩ := hn
    obtain ⟨o0, es0, ep0, h10, h20, _, h30⟩ := hn0
    rw [h10] at h1; cases h1
    rw [h20] at h2; cases h2
    funext y; rw [← h3, ← h30]
  subst hmm
  obtain ⟨oL, esL, epL, hL, hLd, _⟩ := id hn
  have haL : C.L ≠ a := fun q => by rw [← q, hL] at ha; cases ha; cases hLd
  have hmem := hp.mem S.nodup
  have hcell : ∀ y c, C.env.cells.lookup y = some c → c ≠ a := fun y c hc q => by
    obtain ⟨a1, a2, ⟨o, v', a3, a4⟩, a5⟩ := S.cells y c hc
    rw [q, ha] at a3; cases a3; cases a4
  have hvar : ∀ y v, VarIs C.env s.heap m y v → VarIs C.env h' m y v := fun y v q => q.imp id fun ⟨a', c, o, b, e, d⟩ => ⟨a', c, o, b, (hs.2 _ (hcell _ _ b)).trans e, d⟩
  have hvar' : ∀ y v, VarIs C.env h' m y v → VarIs C.env s.heap m y v := fun y v q => q.imp id fun ⟨a', c, o, b, e, d⟩ => ⟨a', c, o, b, (hs.2 _ (hcell _ _ b)).symm.trans e, d⟩
  refine ⟨⟨S.cx, by rw [hp.names]; exact S.nodup, ⟨m, hn.sameBut hs haL, fun p hp' => ?_, fun p hp' q hq o1 o2 b v1 v2 => ?_⟩, fun b o e => (hs.2 b (fun q => by subst q; rw [hb] at e; cases e)).trans (S.keep b o e), S.bL, S.z0,
    fun b o e => (hs.2 b (fun q => by subst q; rw [hz] at e; cases e)).trans (S.zin b o e), S.zL, S.znew, fun y c hc => ?_, S.cinj, ⟨S.rest.1, S.rest.2, S.rest.3⟩⟩, ⟨.refl _, fun b o us e d => ?_, fun _ _ _ _ _ z => z⟩⟩
  · rcases hmem p hp' with ⟨q1, q2⟩ | ⟨q1, q2⟩
    · rw [q1, q2]
      exact ⟨(he _ hm).1, a, ws, n', hvar _ _ hv, ha', hz, hb, hl, hr⟩
    · have hk := he p q2
      have hapx : p.2.isOwn = true → ∀ b, VarIs C.env s.heap m p.1 (.ref b) → b ≠ a := fun ho b vb hba => q1 (hap p q2 (x, .own xs) hm ho rfl a (hba ▸ vb) hv)
      obtain ⟨y, e⟩ := p
      cases e with
      | unset => exact hk
      | val d => obtain ⟨w, v, hv, hr⟩ := hk; exact ⟨w, v, hvar _ _ hv, hr⟩
      | own ys => obtain ⟨w, b, us, n', hv', k1, k2⟩ := hk; exact ⟨w, b, us, n', hvar _ _ hv', (hs.2 _ (hapx rfl _ hv')).trans k1, k2⟩
      | ownd ys => obtain ⟨w, b, us, n', hv', k1, k2⟩ := hk; exact ⟨w, b, us, n', hvar _ _ hv', (hs.2 _ (hapx rfl _ hv')).trans k1, k2⟩
      | oinst a0 K ns ds =>
        obtain ⟨w, b, dx, es, n', us, hv', k1, k2, k3⟩ := hk
        refine ⟨w, b, dx, es, n', us, hvar _ _ hv', (hs.2 _ (hapx rfl _ hv')).trans k1, (hs.2 _ (fun q => ?_)).trans k2, k3⟩
        rw [q, ha] at k2; have := congrArg Obj.data (Option.some.inj k2); cases this
      | glob v => exact hk
  · rcases hmem p hp' with ⟨q1, q2⟩ | ⟨q1, q2⟩ <;> rcases hmem q hq with ⟨r1, r2⟩ | ⟨r1, r2⟩
    · rw [q1, r1]
    · rw [q1]; rw [q1] at v1; exact hap (x, .own xs) hm q r2 rfl o2 b (hvar' _ _ v1) (hvar' _ _ v2)
    · rw [r1]; rw [r1] at v2; exact hap p q2 (x, .own xs) hm o1 rfl b (hvar' _ _ v1) (hvar' _ _ v2)
    · exact hap p q2 q r2 o1 o2 b (hvar' _ _ v1) (hvar' _ _ v2)
  · obtain ⟨a1, a2, ⟨o, v', a3, a4⟩, a5⟩ := S.cells y c hc
    exact ⟨a1, a2, ⟨o, v', (hs.2 _ (hcell _ _ hc)).trans a3, a4⟩, a5⟩
  · exact (hs.2 b (fun q => by subst q; rw [ha] at e; cases e; exact d.nlist)).trans e
end
end Mine
namespace Mine

theorem wp_methCall {prog : Program} {w : World} {A : Around} {E : Value → Shared → Prop} {s : Shared} {env : Env} {o : Expr} {args : List Expr} {name : Str} {apos pos : Pos} {Q : Value → Shared → Prop}
    (hbase : attributeBase o name env (eval o env) = eval o env) (hst : (backTo pos (starEach args env)).all (fun x => !x.1) = true) (hfew : args.length < 30) (hline : (apos.endLine == pos.line) = true)
    (h : wpAny (model prog w) A (eval o env) (fun ov s₁ => ∀ pl, wpAny (model prog w) A (getMethod ov name pl) (fun fp s₂ => wpAny (model prog w) A (callWith pos fp.1 fp.2 (backTo pos (starEach args env)) []) Q E s₂) E s₁) E s) :
    wpAny (model prog w) A (eval (.Call (.Attribute o name apos) args [] pos) env) Q E s := by
  rw [arm_eval_Call, hbase]
  refine wpAny_bind (wpAny_mono h (fun ov s₁ h₁ => ?_) fun _ _ e => e)
  refine wpAny_bind (wpAny_standAt ?_)
  have hform : methodCallForm (args.length + ([] : List Keyword).length) (backTo pos (starEach args env)) (backToKw pos (keywordEach [] env)) = true := by
    unfold methodCallForm
    rw [hst]
    show (true && true && decide (args.length + 0 + 0 < 30)) = true
    simpa using hfew
  have hpos : methodCallPos true o env apos pos = pure pos := by unfold methodCallPos; simp [hline]
  unfold methodCall
  rw [hform]
  refine wpAny_bind (wpAny_holding (wpAny_mono (h₁ _) (fun fp s₂ h₂ => ?_) fun _ _ e => e))
  exact wpAny_bind (wpAny_of_eq hpos h₂)

section
variable {C : Cx} {ρ ρ' : Rho} {R : Out → Rho → Prop}

/-- a str's method -/
theorem Ev.strMeth {o : Expr} {args : List Expr} {name : Str} {id : String} {apos pos : Pos} {l : List Nat} {ds : List D} {d : D} (ho : Ev C ρ o (.str l)) (hs : Evs C ρ args ds)
    (hbase : attributeBase o name C.env (eval o C.env) = eval o C.env) (hfew : args.length < 30) (hline : (apos.endLine == pos.line) = true)
    (hgm : ∀ (s : Shared) (t : Tok) (pl : Sem Bool) (Q : Value × List Value → Shared → Prop) (E : Value → Shared → Prop), Q (.builtin id, [.str (st l) t]) s → wpAny C.M C.A (getMethod (.str (st l) t) name pl) Q E s)
    (hop : ∀ (s : Shared) (Z : Zone) (t : Tok) (vs : List Value) (Q E : Value → Shared → Prop), CxOk C → ZOk C.G Z s.heap → l.length ≤ sizeLine → Reps Z ds vs → (∀ v s' Z', Grow s Z s' Z' → Rep Z' d v → Q v s') →
      wpAny C.M C.A (call (.builtin id) (.str (st l) t :: vs)) Q E s) : Ev C ρ (.Call (.Attribute o name apos) args [] pos) d := by
  refine ⟨fun s Z Q E S k => ?_⟩
  refine wp_methCall hbase (noStar hs).2 hfew hline (ho.use S fun v s1 Z1 g1 S1 r1 pl => ?_)
  obtain ⟨hl, t, rfl⟩ := rep_str.mp r1
  refine hgm s1 t pl _ E (callOther_use (first := [.str (st l) t]) rfl hs S1 fun vs s2 Z2 g2 S2 r2 => ?_)
  exact hop s2 Z2 t vs Q E S.cx S2.zok hl r2 fun v s' Z' g r => k v s' Z' ((g1.trans g2).trans g) r

theorem Ev.strip {o : Expr} {apos pos : Pos} {l l' : List Nat} (ho : Ev C ρ o (.str l)) (he : Txt.strip (st l) = st l')
    (hbase : attributeBase o "strip" C.env (eval o C.env) = eval o C.env) (hline : (apos.endLine == pos.line) = true) : Ev C ρ (.Call (.Attribute o "strip" apos) [] [] pos) (.str l') := by
  refine Ev.strMeth (id := "str.strip") ho .nil hbase (by decide) hline (fun s t pl Q E h => GM.strip h) fun s Z t vs Q E cx z hl r k => ?_
  obtain rfl := reps_nil.mp r
  have hle : l'.length ≤ sizeLine := by
    have := fact_strip (st l)
    rw [he, st_length, st_length] at this; lia
  refine SC.strip (fun t' n => ?_) (by rw [st_length]; exact hl)
  rw [he]
  exact k _ _ Z (.tokA z.zin) (rep_str.mpr ⟨hle, t', rfl⟩)

theorem Ev.startswith {o e : Expr} {apos pos : Pos} {l y : List Nat} {b : Bool} (ho : Ev C ρ o (.str l)) (h : Ev C ρ e (.str y)) (he : Txt.startswith (st l) (st y) = b)
    (hbase : attributeBase o "startswith" C.env (eval o C.env) = eval o C.env) (hline : (apos.endLine == pos.line) = true) (hn : ∀ x p, e ≠ .Starred x p := by intro _ _ h; cases h) : Ev C ρ (.Call (.Attribute o "startswith" apos) [e] [] pos) (.bool b) := by
  refine Ev.strMeth (id := "str.startswith") ho (.cons h .nil hn) hbase (by simp) hline (fun s t pl Q E h => GM.startswith h) fun s Z t vs Q E cx z hl r k => ?_
  obtain ⟨v, rfl, r1⟩ := reps1 r
  obtain ⟨hl', t', rfl⟩ := rep_str.mp r1
  refine SC.startswith ?_
  rw [he]
  exact k _ _ Z (.refl z.zin) (rep_bool.mpr rfl)

theorem reps_strs {Z : Zone} : ∀ {ls : List (List Nat)} {vs : List Value}, Reps Z (ls.map .str) vs → ∃ l, vs = strValues l ∧ l.map (·.1) = ls.map st
  | [], vs, h => by rw [List.map_nil] at h; rw [reps_nil.mp h]; exact ⟨[], rfl, rfl⟩
  | n :: ns, vs, h => by
    rw [List.map_cons] at h
    obtain ⟨v, r, rfl, h1, h2⟩ := reps_cons.mp h
    obtain ⟨_, t, rfl⟩ := rep_str.mp h1
    obtain ⟨l, rfl, e⟩ := reps_strs h2
    exact ⟨(st n, t) :: l, rfl, by simp [e]⟩
theorem strs_reps {Z : Zone} : ∀ {ls : List (List Nat)} {l : List (Str × Tok)}, l.map (·.1) = ls.map st → (∀ x ∈ ls, x.length ≤ sizeLine) → Reps Z (ls.map .str) (strValues l)
  | [], l, h, _ => by cases l with | nil => exact .nil | cons a r => cases h
  | n :: ns, l, h, hl => by
    cases l with
    | nil => cases h
    | cons a r =>
      simp only [List.map_cons, List.cons.injEq] at h
      obtain ⟨x, t⟩ := a
      have h1 : x = st n := h.1
      subst h1
      exact .cons (rep_str.mpr ⟨hl n (.head _), t, rfl⟩) (strs_reps h.2 fun x hx => hl x (.tail _ hx))

noncomputable def joinL (sep : List Nat) : List (List Nat) → List Nat
  | [] => []
  | [x] => x
  | x :: rest => x ++ sep ++ joinL sep rest
theorem join_st (sep : List Nat) : ∀ ls : List (List Nat), Str.join (st sep) (ls.map st) = st (joinL sep ls)
  | [] => rfl
  | [x] => rfl
  | x :: y :: r => by
    have := join_st sep (y :: r)
    show st x ++ st sep ++ Str.join (st sep) ((y :: r).map st) = _
    rw [this, st_append, st_append]; rfl

theorem joinSum (sep : List Nat) (ls : List (List Nat)) : (ls.map st).toArray.foldl (fun a p => a + p.length + (st sep).length) 0 = (ls.map (·.length)).sum + ls.length * sep.length := by
  rw [StrLaws.joinTotal]
  simp [st_length, Function.comp_def]

theorem Ev.join {o e : Expr} {apos pos : Pos} {sep : List Nat} {ls : List (List Nat)} (ho : Ev C ρ o (.str sep)) (h : Ev C ρ e (.list (ls.map .str))) (hfit : (ls.map (·.length)).sum + ls.length * sep.length ≤ sizeLine)
    (hbase : attributeBase o "join" C.env (eval o C.env) = eval o C.env) (hline : (apos.endLine == pos.line) = true) (hn : ∀ x p, e ≠ .Starred x p := by intro _ _ h; cases h) : Ev C ρ (.Call (.Attribute o "join" apos) [e] [] pos) (.str (joinL sep ls)) := by
  refine Ev.strMeth (id := "str.join") ho (.cons h .nil hn) hbase (by simp) hline (fun s t pl Q E h => GM.join h) fun s Z t vs Q E cx z hl r k => ?_
  obtain ⟨v, rfl, r1⟩ := reps1 r
  obtain ⟨a, vs, n, rfl, za, la, ra⟩ := rep_list.mp r1
  obtain ⟨l, rfl, e1⟩ := reps_strs ra
  have hok : JoinOk (st sep) (ls.map st) = true := by
    unfold JoinOk
    rw [joinSum]
    show (!decide _) = true
    rw [decide_eq_false (by lia)]; rfl
  have hlen := joinOk_length hok
  have hj : Txt.join (st sep) (ls.map st) = st (joinL sep ls) := by
    have := join_plain_closes (st sep) (ls.map st)
    rw [beq_iff_eq.mp this, join_st]
  refine SC.join (isList_of (z.zin _ _ za)) e1 hok fun t' n' => ?_
  rw [hj]
  exact k _ _ Z (.tokA z.zin) (rep_str.mpr ⟨by rw [hj, st_length] at hlen; exact hlen, t', rfl⟩)

/-- a new list of texts -/
theorem newStrs {s : Shared} {Z : Zone} {l : List (Str × Tok)} {ls : List (List Nat)} {tk : Nat} {Q : Value → Shared → Prop} (hz : ∀ a o, Z a = some o → s.heap.get? a = some o) (e : l.map (·.1) = ls.map st) (hl : ∀ x ∈ ls, x.length ≤ sizeLine) (hn : ls.length ≤ sizeLine)
    (k : ∀ v s' Z', Grow s Z s' Z' → Rep Z' (.list (ls.map .str)) v → Q v s') : Q (.ref s.heap.objs.size) { s with heap := s.heap.push { cls := .type "list", data := .seq (strValues l).toArray }, toks := tk } := by
  have g : Grow s Z { s with heap := s.heap.push (listObj (strValues l) 0), toks := tk } (Z.put s.heap.objs.size (listObj (strValues l) 0)) :=
    ⟨fun _ _ e => Heap.get?_push_of_some _ e, Zone.put_sub (by cases q : Z s.heap.objs.size with | none => rfl | some o' => exact absurd (Heap.lt_size (hz _ _ q)) (Nat.lt_irrefl _)),
      fun a o' e => (Zone.put_cases e).elim (fun ⟨q, _⟩ => .inr (q ▸ get?_size _)) .inl,
      fun a o' e => (Zone.put_cases e).elim (fun ⟨q, r⟩ => by subst q; subst r; exact Heap.get?_push_size _ rfl) fun e => Heap.get?_push_of_some _ (hz _ _ e), ⟨rfl, rfl, rfl⟩⟩
  refine k _ _ _ g (rep_list.mpr ⟨_, strValues l, 0, rfl, Zone.put_same _ _ _, ?_, strs_reps e hl⟩)
  have : l.length = ls.length := by have := congrArg List.length e; simpa using this
  simp [strValues]; lia

/-- split by a text -/
theorem Ev.split {o e : Expr} {apos pos : Pos} {l y : List Nat} {ls : List (List Nat)} (ho : Ev C ρ o (.str l)) (h : Ev C ρ e (.str y)) (hy : y ≠ []) (he : Txt.split (st l) (st y) = ls.map st) (hsz : l.length + 2 ≤ sizeLine)
    (hbase : attributeBase o "split" C.env (eval o C.env) = eval o C.env) (hline : (apos.endLine == pos.line) = true) (hn : ∀ x p, e ≠ .Starred x p := by intro _ _ h; cases h) : Ev C ρ (.Call (.Attribute o "split" apos) [e] [] pos) (.list (ls.map .str)) := by
  refine Ev.strMeth (id := "str.split") ho (.cons h .nil hn) hbase (by simp) hline (fun s t pl Q E h => GM.split h) fun s Z t vs Q E cx z hl r k => ?_
  obtain ⟨v, rfl, r1⟩ := reps1 r
  obtain ⟨hl', u, rfl⟩ := rep_str.mp r1
  have hy0 : ((st y).length == 0) = false := by rw [st_length]; cases y with | nil => exact absurd rfl hy | cons a b => rfl
  have hshort : ∀ x ∈ ls, x.length ≤ sizeLine := fun x hx => by
    have := part_short (x := st l) (y := st y) (a := st x) (by rw [he]; exact List.mem_map_of_mem hx)
    rw [st_length, st_length] at this; lia
  have hcount : ls.length ≤ sizeLine := by
    have := split_le (st l) (st y)
    rw [he, st_length] at this; simp at this; lia
  have fin : ∀ (lt : List (Str × Tok)) (tk : Nat), lt.map (·.1) = Txt.split (st l) (st y) → Q (.ref s.heap.objs.size) { s with heap := s.heap.push { cls := .type "list", data := .seq (strValues lt).toArray }, toks := tk } :=
    fun lt tk e => newStrs z.zin (e.trans he) hshort hcount k
  have hsz1 : (st l).length ≤ sizeLine := by rw [st_length]; exact hl
  have hsz2 : (Builtin.Str.partsBetween (st l) (Builtin.Str.occurrences (st l) (st y) 0 (st l).length ((st l).length + 1)) (st y).length).length ≤ sizeLine := by
    have e1 := StrLaws.occ_length_le_len (st l) (st y) 0 (st l).length ((st l).length + 1)
    rw [length_partsBetween]; rw [st_length] at e1 ⊢; lia
  cases h1 : (decide ((st l).length < (st y).length) || decide (Builtin.Str.strKind (st l) < Builtin.Str.strKind (st y)))
  · cases hf : (Builtin.Str.occurrences (st l) (st y) 0 (st l).length ((st l).length + 1)).isEmpty
    · refine call_meets F.slot_str_split (typeIs_str _ _ _) F.entry_str_split (F.args_str_split_2 _ _) (meets_str_split_sep (st l) (st y) t u h1 hy0 hf hsz1 hsz2) ?_
      show wants Q E _ { s with toks := _, heap := s.heap.push { cls := .type "list", data := .seq (strsFrom s.toks (Builtin.Str.partsBetween (st l) (Builtin.Str.occurrences (st l) (st y) 0 (st l).length ((st l).length + 1)) (st y).length)).toArray } }
      rw [strsFrom_eq]
      exact fin (numbered s.toks _) _ ((numbered_texts _ _).trans ((if_neg (ne_true_of_eq_false h1)).trans (if_neg (ne_true_of_eq_false hf))).symm)
    · exact call_meets F.slot_str_split (typeIs_str _ _ _) F.entry_str_split (F.args_str_split_2 _ _) (meets_str_split_not_found (st l) (st y) t u h1 hy0 hf)
        (fin [(st l, t)] s.toks ((if_neg (ne_true_of_eq_false h1)).trans (if_pos hf)).symm)
  · exact call_meets F.slot_str_split (typeIs_str _ _ _) F.entry_str_split (F.args_str_split_2 _ _) (meets_str_split_cannot_occur (st l) (st y) t u h1)
      (fin [(st l, t)] s.toks (if_pos h1).symm)

/-- split by a text, at most n cuts -/
theorem Ev.splitMax {o e e2 : Expr} {apos pos : Pos} {l y : List Nat} {n : Int} {ls : List (List Nat)} (ho : Ev C ρ o (.str l)) (h : Ev C ρ e (.str y)) (h2 : Ev C ρ e2 (.int n)) (hy : y ≠ []) (he : Txt.splitMax (st l) (st y) n = ls.map st) (hsz : l.length + 2 ≤ sizeLine)
    (hk : (decide (n < -(2 ^ 63 : Int)) || decide (n ≥ 2 ^ 63)) = false)
    (hbase : attributeBase o "split" C.env (eval o C.env) = eval o C.env) (hline : (apos.endLine == pos.line) = true) (hn : ∀ x p, e ≠ .Starred x p := by intro _ _ h; cases h) (hn2 : ∀ x p, e2 ≠ .Starred x p := by intro _ _ h; cases h) :
    Ev C ρ (.Call (.Attribute o "split" apos) [e, e2] [] pos) (.list (ls.map .str)) := by
  refine Ev.strMeth (id := "str.split") ho (.cons h (.cons h2 .nil hn2) hn) hbase (by simp) hline (fun s t pl Q E h => GM.split h) fun s Z t vs Q E cx z hl r k => ?_
  obtain ⟨v, v', rfl, r1, r2⟩ := reps2 r
  obtain ⟨hl', u, rfl⟩ := rep_str.mp r1
  obtain ⟨w, rfl⟩ := rep_int.mp r2
  have hy0 : ((st y).length == 0) = false := by rw [st_length]; cases y with | nil => exact absurd rfl hy | cons a b => rfl
  have hsz1 : (st l).length ≤ sizeLine := by rw [st_length]; exact hl
  have hsz2 : (Builtin.Str.partsBetween (st l) (Builtin.Str.occurrences (st l) (st y) 0 (st l).length (limitOf (st l) n)) (st y).length).length ≤ (st l).length + 2 := by
    have e1 := StrLaws.occ_length_le_len (st l) (st y) 0 (st l).length (limitOf (st l) n)
    rw [length_partsBetween]; lia
  have hshort : ∀ x ∈ ls, x.length ≤ sizeLine := fun x hx => by
    have := partMax_short (x := st l) (y := st y) (k := n) (a := st x) (by rw [he]; exact List.mem_map_of_mem hx)
    rw [st_length, st_length] at this; lia
  have hcount : ls.length ≤ sizeLine := by
    have e0 := congrArg List.length he
    unfold Txt.splitMax at e0
    rw [st_length] at hsz2
    split at e0
    · simp at e0; lia
    · split at e0
      · simp at e0; lia
      · rw [List.length_map, st_length] at e0; lia
  have fin : ∀ (lt : List (Str × Tok)) (tk : Nat), lt.map (·.1) = Txt.splitMax (st l) (st y) n → Q (.ref s.heap.objs.size) { s with heap := s.heap.push { cls := .type "list", data := .seq (strValues lt).toArray }, toks := tk } :=
    fun lt tk e => newStrs z.zin (e.trans he) hshort hcount k
  cases h1 : (decide ((st l).length < (st y).length) || decide (Builtin.Str.strKind (st l) < Builtin.Str.strKind (st y)))
  · cases hf : (Builtin.Str.occurrences (st l) (st y) 0 (st l).length (limitOf (st l) n)).isEmpty
    · refine call_meets F.slot_str_split (typeIs_str _ _ _) F.entry_str_split (F.args_str_split_3 _ _ _) (meets_str_split_sep_max (st l) (st y) n t u w hk h1 hy0 hf hsz1 (by rw [st_length] at hsz2 ⊢; lia)) ?_
      show wants Q E _ { s with toks := _, heap := s.heap.push { cls := .type "list", data := .seq (strsFrom s.toks (Builtin.Str.partsBetween (st l) (Builtin.Str.occurrences (st l) (st y) 0 (st l).length (limitOf (st l) n)) (st y).length)).toArray } }
      rw [strsFrom_eq]
      exact fin (numbered s.toks _) _ ((numbered_texts _ _).trans ((if_neg (ne_true_of_eq_false h1)).trans (if_neg (ne_true_of_eq_false hf))).symm)
    · exact call_meets F.slot_str_split (typeIs_str _ _ _) F.entry_str_split (F.args_str_split_3 _ _ _) (meets_str_split_max_not_found (st l) (st y) n t u w hk h1 hy0 hf)
        (fin [(st l, t)] s.toks ((if_neg (ne_true_of_eq_false h1)).trans (if_pos hf)).symm)
  · exact call_meets F.slot_str_split (typeIs_str _ _ _) F.entry_str_split (F.args_str_split_3 _ _ _) (meets_str_split_max_cannot_occur (st l) (st y) n t u w hk h1)
      (fin [(st l, t)] s.toks (if_pos h1).symm)

/-- x.append(e), as a statement -/
theorem Ex.append {x : Str} {e : Expr} {xp apos pos p : Pos} {xs : List D} {d : D} (hm : (x, Ent.own xs) ∈ ρ) (h : Ev C ρ e d) (hp : Put ρ x (.own (xs ++ [d])) ρ') (hl : xs.length + 1 ≤ sizeLine) (r : R .next ρ')
    (hi : interactive C.env = false) (hline : (apos.endLine == pos.line) = true) (hn : ∀ x p, e ≠ .Starred x p := by intro _ _ h; cases h) : Ex C ρ (.Expr (.Call (.Attribute (.Name x xp) "append" apos) [e] [] pos) p) R := by
  refine ⟨fun s Z Q E S k => ?_⟩
  refine wpAny_Expr_any ?_ hi rfl
  obtain ⟨m, hnn, he, _⟩ := S.ns
  obtain ⟨⟨hd, _⟩, a, vs, n, hv, h1, h2, h3, h4, h5⟩ := he _ hm
  have hl5 := h5.length
  refine wp_methCall rfl (noStar (.cons h .nil hn)).2 (by simp) hline ?_
  have fin : ∀ pl, wpAny C.M C.A (getMethod (.ref a) "append" pl) (fun fp s₂ => wpAny C.M C.A (callWith pos fp.1 fp.2 (backTo pos (starEach [e] C.env)) []) (fun _ => Q .next) E s₂) E s := fun pl => by
    refine getMethod_builtin (T := "list") ⟨_, h1, rfl⟩ F.plainAttrs_list F.slot_list_append F.type_list_append (fun b q => by cases q; exact ⟨_, h1, rfl⟩) ?_
    refine callOther_use (first := [.ref a]) rfl (.cons h .nil hn) S fun ws s2 Z2 g2 S2 r2 => ?_
    obtain ⟨w, rfl, r3⟩ := reps1 r2
    obtain ⟨m2, hn2, he2, _⟩ := S2.ns
    obtain ⟨_, b, us, n', hv2, k1, k2, k3, k4, k5⟩ := he2 _ hm
    have hmm : m2 = m := by
      obtain ⟨o, es, ep, q1, q2, _, q3⟩ := hn2
      obtain ⟨o0, es0, ep0, q10, q20, _, q30⟩ := hnn
      rw [g2.keep _ _ q10] at q1; cases q1
      rw [q20] at q2; cases q2
      funext y; rw [← q3, ← q30]
    subst hmm
    have hab := (hv.keep g2.keep).uniq hv2
    cases hab
    rw [g2.keep _ _ h1] at k1
    have e1 : us = vs := by have := congrArg Obj.data (Option.some.inj k1); simpa using (Data.seq.inj this).1.symm
    subst e1
    refine call_meets F.slot_list_append ⟨_, g2.keep _ _ h1, rfl⟩ F.entry_list_append (F.args_list_append_2 _ _) (list_append a us.toArray n w (by simpa using h4)) ⟨g2.keep _ _ h1, ?_⟩
    have ha' : (s2.heap.update a (Obj.mapSeq fun xs => xs.push w)).get? a = some (listObj (us ++ [w]) (n + 1)) := by
      rw [Heap.get?_update_self _ (g2.keep _ _ h1) rfl]
      simp [Obj.mapSeq]
    obtain ⟨S3, g3⟩ := S2.wrote (tk := s2.toks) hm hp hn2 hv2 (g2.keep _ _ h1) k2 k3 (Heap.SameBut.update ..) ha' (by simp; lia) (k5.append (.cons r3 .nil))
    exact k .next ρ' _ Z2 _ r S3 (g2.s.trans g3) rfl
  rcases hv with ⟨q1, q⟩ | ⟨q1, c, o, q2, q3, q4⟩
  · exact wpAny_Name (wpAny_loadName_local S.cx.kind q1 hnn q fin) hd
  · exact wpAny_Name (wpAny_loadName_cell S.cx.kind q1 q2 ⟨o, q3, q4⟩ fin) hd
end
end Mine
namespace Mine
section
variable {C : Cx} {ρ ρ' : Rho} {R : Out → Rho → Prop}

noncomputable def Obj.noFields (o : Obj) : Prop := ∀ vs, ¬ IsIt o vs

theorem VarIs.keepF {env : Env} {h h' : Heap} {m : Str → Option Value} {x : Str} {v : Value} (k : ∀ a o, h.get? a = some o → Obj.noFields o → h'.get? a = some o) (V : VarIs env h m x v) : VarIs env h' m x v :=
  V.imp id fun ⟨a, c, o, b, e, d⟩ => ⟨a, c, o, b, k _ _ e (fun vs q => q.ncell d), d⟩

/-- iterators alone have moved -/
theorem Sat.moved {s : Shared} {Z : Zone} {h' : Heap} {tk : Nat} (S : Sat C ρ Z s) (k : ∀ a o, s.heap.get? a = some o → Obj.noFields o → h'.get? a = some o) (hz : ∀ a o, Z a = some o → h'.get? a = some o)
    (hB : ∀ a o, C.B a = some o → h'.get? a = some o) : Sat C ρ Z { s with heap := h', toks := tk } := by
  obtain ⟨m, hn, he, hap⟩ := S.ns
  obtain ⟨oL, esL, epL, hL, hLd, hr⟩ := id hn
  have hvar : ∀ y v, VarIs C.env s.heap m y v → VarIs C.env h' m y v := fun y v q => q.keepF k
  have back : ∀ p ∈ ρ, p.2.isOwn = true → ∀ a, VarIs C.env h' m p.1 (.ref a) → VarIs C.env s.heap m p.1 (.ref a) := fun p hp ho a v => by
    have := he p hp
    obtain ⟨x, e⟩ := p
    cases e with
    | unset => cases ho
    | val d => cases ho
    | glob d => cases ho
    | own xs => obtain ⟨w, a, vs, n, hv, _⟩ := this; rw [(hvar _ _ hv).uniq v] at hv; exact hv
    | ownd xs => obtain ⟨w, a, vs, n, hv, _⟩ := this; rw [(hvar _ _ hv).uniq v] at hv; exact hv
    | oinst a0 K ns ds => obtain ⟨w, a, dx, es, n, vs, hv, _⟩ := this; rw [(hvar _ _ hv).uniq v] at hv; exact hv
  refine ⟨S.cx, S.nodup, ⟨m, ⟨oL, esL, epL, k _ _ hL (fun vs q => q.ndict hLd), hLd, hr⟩, fun p hp => ?_, fun p hp q hq o1 o2 a v1 v2 => hap p hp q hq o1 o2 a (back p hp o1 a v1) (back q hq o2 a v2)⟩, hB, S.bL, S.z0, hz, S.zL, S.znew, fun y c hc => ?_, S.cinj, ⟨S.rest.1, S.rest.2, S.rest.3⟩⟩
  · have hk := he p hp
    obtain ⟨y, e⟩ := p
    cases e with
    | unset => exact hk
    | val d => obtain ⟨w, v, hv, hr⟩ := hk; exact ⟨w, v, hvar _ _ hv, hr⟩
    | own ys => obtain ⟨w, b, us, n', hv', k1, k2⟩ := hk; exact ⟨w, b, us, n', hvar _ _ hv', k _ _ k1 (fun _ q => q.nlist), k2⟩
    | ownd ys => obtain ⟨w, b, us, n', hv', k1, k2⟩ := hk; exact ⟨w, b, us, n', hvar _ _ hv', k _ _ k1 (fun _ q => q.ndict rfl), k2⟩
    | oinst a0 K ns ds => obtain ⟨w, b, dx, es, n', us, hv', k1, k2, k3⟩ := hk; exact ⟨w, b, dx, es, n', us, hvar _ _ hv', k _ _ k1 (fun _ q => q.ninst), k _ _ k2 (fun _ q => q.ndict rfl), k3⟩
    | glob v => exact hk
  · obtain ⟨a1, a2, ⟨o, v', a3, a4⟩, a5⟩ := S.cells y c hc
    exact ⟨a1, a2, ⟨o, v', k _ _ a3 (fun _ q => q.ncell a4), a4⟩, a5⟩

/-- an iterator over known data -/
structure Itr (C : Cx) (target : Expr) (I : Addr) (wr : List Addr) (St : List D → Zone → Heap → Prop) : Prop where
  next : ∀ (d : D) (ds : List D) (ρ : Rho) (Z : Zone) (s : Shared) (Q : Value → Shared → Prop) (E : Value → Shared → Prop), Sat C ρ Z s → St (d :: ds) Z s.heap →
    (∀ v s' Z', Sat C ρ Z' s' → ZSub Z Z' → (∀ b o, b ∉ wr → s.heap.get? b = some o → s'.heap.get? b = some o) → (∀ b o, Z' b = some o → Z b = some o ∨ s.heap.get? b = none ∨ b ∈ wr) → Rep Z' d v → St ds Z' s'.heap → Q v s') →
    wpAny C.M C.A (pyNext (.ref I)) (fun r s₁ => ∃ v, r = some v ∧ wpAny C.M C.A (letOwnedTupleGo target (.ref I) v) (fun _ s₂ => Q v s₂) E s₁) E s
  done : ∀ (ρ : Rho) (Z : Zone) (s : Shared) (Q : Option Value → Shared → Prop) (E : Value → Shared → Prop), Sat C ρ Z s → St [] Z s.heap →
    (∀ s', Sat C ρ Z s' → (∀ b o, b ∉ wr → s.heap.get? b = some o → s'.heap.get? b = some o) → Q none s') → wpAny C.M C.A (pyNext (.ref I)) Q E s
  frame : ∀ (ds : List D) (Z Z' : Zone) (s s' : Shared), St ds Z s.heap → (∀ a o, Z a = some o → s.heap.get? a = some o) → GrowS s Z s' Z' → (∀ a o, Z' a = some o → s'.heap.get? a = some o) → St ds Z' s'.heap
  self : ∀ (ds : List D) (Z : Zone) (s : Shared) (Q : Value → Shared → Prop) (E : Value → Shared → Prop), St ds Z s.heap → Q (.ref I) s → wpAny C.M C.A (pyIter (.ref I)) Q E s

theorem wp_letGo {M : Model} {A : Around} {E : Value → Shared → Prop} {s : Shared} {target : Expr} {I : Addr} {v : Value} {o : Obj} {n : String} {vs : Array Value} {Q : Unit → Shared → Prop} (ho : s.heap.get? I = some o) (hc : o.cls = .type n) (hd : o.data = .fields vs)
    (hn : (["enumerate", "zip", "dict_itemiterator", "dict_reverseitemiterator", "odict_iterator", "itertools.zip_longest", "itertools.pairwise"] : List String).contains n = false) (h : Q () s) :
    wpAny M A (letOwnedTupleGo target (.ref I) v) Q E s := by
  have fin : wpAny M A (do
      let (.ref r, .ref a) := (Value.ref I, v) | return
      let o ← load r
      match o.cls, o.data with
      | .type n, .fields vs =>
        if ["enumerate", "zip", "dict_itemiterator", "dict_reverseitemiterator", "odict_iterator", "itertools.zip_longest", "itertools.pairwise"].contains n && vs[0]? == some (rawInt a) then
          rule "for.unpacks-the-owned-tuple"
          updateField r 0 .none
      | _, _ => pure ()) Q E s := by
    cases v with
    | ref a =>
      refine wpAny_bind (wpAny_load ho ?_)
      rw [hc, hd]
      simp only [hn, Bool.false_and, Bool.false_eq_true, if_false]
      exact wpAny_pure h
    | _ => exact wpAny_pure h
  unfold letOwnedTupleGo
  split
  · exact fin
  · exact fin
  · exact wpAny_pure h

theorem Itr.of_walks {target : Expr} {I : Addr} {fp wr : List Addr} {n : Nat} {P : Nat → Value → Prop} {St0 : Nat → Heap → Prop} {items : List D} {Z0 : Zone} (W : Walks C.G.prog C.G.w C.A I fp wr n P St0) (hn : items.length = n)
    (hfp : ∀ b ∈ fp, b ∈ wr ∨ ∃ o, Z0 b = some o) (hfl : ∀ i h, St0 i h → ∀ b ∈ wr, ∃ o vs, h.get? b = some o ∧ o.data = .fields vs)
    (hcl : ∀ i h, St0 i h → ∃ o vs T, h.get? I = some o ∧ o.cls = .type T ∧ o.data = .fields vs ∧ (["enumerate", "zip", "dict_itemiterator", "dict_reverseitemiterator", "odict_iterator", "itertools.zip_longest", "itertools.pairwise"] : List String).contains T = false)
    (hB : ∀ b ∈ wr, C.B b = none) (hP : ∀ j v d, P j v → items[j]? = some d → Rep Z0 d v) :
    Itr C target I wr (fun ds Z h => ∃ i, ds = items.drop i ∧ i ≤ n ∧ St0 i h ∧ ZSub Z0 Z ∧ ∀ b ∈ wr, Z b = none) where
  next := by
    rintro d ds ρ Z s Q E S ⟨i, hd, hi, hst, hz, hw⟩ k
    have hlt : i < n := by
      have := congrArg List.length hd
      simp at this; lia
    refine W.item i s _ E hlt hst fun v h' tk hv hst' hk => ⟨v, rfl, ?_⟩
    obtain ⟨o, vs, T, q1, q2, q3, q4⟩ := hcl _ _ hst'
    refine wp_letGo (s := { s with heap := h', toks := tk }) q1 q2 q3 q4 ?_
    have S' : Sat C ρ Z { s with heap := h', toks := tk } := S.moved (fun a o e nf => hk a o (fun q => by obtain ⟨o', us, e1, e2⟩ := hfl _ _ hst a q; rw [e] at e1; cases e1; exact nf _ (.inl e2)) e)
      (fun a o e => hk a o (fun q => by rw [hw a q] at e; cases e) (S.zin _ _ e)) (fun a o e => hk a o (fun q => by rw [hB a q] at e; cases e) (S.keep _ _ e))
    have hdd : items[i]? = some d := by
      have := congrArg (·[0]?) hd
      simpa using this.symm
    refine k v _ Z S' (.refl _) (fun b o hb e => hk b o hb e) (fun b o e => .inl e) ((hP i v d hv hdd).mono hz) ⟨i + 1, ?_, hlt, hst', hz, hw⟩
    have := congrArg List.tail hd
    simpa [List.tail_drop] using this
  done := by
    rintro ρ Z s Q E S ⟨i, hd, hi, hst, hz, hw⟩ k
    have hin : i = n := by
      have := congrArg List.length hd
      simp at this; lia
    subst hin
    refine W.done s Q E hst fun h' tk hk => ?_
    refine k _ (S.moved (fun a o e nf => hk a o (fun q => by obtain ⟨o', us, e1, e2⟩ := hfl _ _ hst a q; rw [e] at e1; cases e1; exact nf _ (.inl e2)) e)
      (fun a o e => hk a o (fun q => by rw [hw a q] at e; cases e) (S.zin _ _ e)) (fun a o e => hk a o (fun q => by rw [hB a q] at e; cases e) (S.keep _ _ e))) hk
  frame := by
    rintro ds Z Z' s s' ⟨i, hd, hi, hst, hz, hw⟩ zin g zin'
    refine ⟨i, hd, hi, W.frame i _ _ hst fun b hb o e => ?_, hz.trans g.sub, fun b hb => ?_⟩
    · rcases hfp b hb with q | ⟨o', q⟩
      · obtain ⟨o', us, e1, e2⟩ := hfl _ _ hst b q
        rw [e] at e1; cases e1
        exact g.iter _ _ _ e (.inl e2)
      · have q' := zin _ _ (hz _ _ q)
        rw [e] at q'; cases q'
        exact zin' _ _ (g.sub _ _ (hz _ _ q))
    · obtain ⟨o', us, e1, e2⟩ := hfl _ _ hst b hb
      exact g.iterz _ _ _ e1 (.inl e2) (hw b hb)
  self := by
    rintro ds Z s Q E ⟨i, hd, hi, hst, hz, hw⟩ h
    exact W.self i s Q E hst h

/-- the iterable comes to these data -/
structure EvI (C : Cx) (ρ : Rho) (target e : Expr) (items : List D) : Prop where
  run : ∀ (s : Shared) (Z : Zone) (Q E : Value → Shared → Prop), Sat C ρ Z s →
    (∀ I wr St s' Z', Itr C target I wr St → Sat C ρ Z' s' → Grow s Z s' Z' → (∀ b ∈ wr, s.heap.get? b = none) → (∀ b ∈ wr, Z' b = none) → (∀ b ∈ wr, b < s'.heap.objs.size) → St items Z' s'.heap → Q (.ref I) s') →
    wpAny C.M C.A (eval e C.env) (fun x s₁ => wpAny C.M C.A (pyIter x) Q E s₁) E s

theorem EvI.list {target e : Expr} {xs : List D} (h : Ev C ρ e (.list xs)) : EvI C ρ target e xs := by
  refine ⟨fun s Z Q E S k => ?_⟩
  refine h.use S fun v s1 Z1 g1 S1 r1 => ?_
  obtain ⟨a, vs, n, rfl, za, la, ra⟩ := rep_list.mp r1
  have hl := isList_of (S1.zin _ _ za)
  refine wpAny_pyIter_list hl ?_
  have hfresh : ∀ s0 : Shared, (∀ a o, s0.heap.get? a = some o → s1.heap.get? a = some o) → s0.heap.get? s1.heap.objs.size = none := fun s0 hk => by
    cases q : s0.heap.get? s1.heap.objs.size with
    | none => rfl
    | some o => exact absurd (Heap.lt_size (hk _ _ q)) (Nat.lt_irrefl _)
  have hz1 : Z1 s1.heap.objs.size = none := by
    cases q : Z1 s1.heap.objs.size with
    | none => rfl
    | some o => exact absurd (Heap.lt_size (S1.zin _ _ q)) (Nat.lt_irrefl _)
  have hne : a ≠ s1.heap.objs.size := fun q => by rw [q, hz1] at za; cases za
  have g2 : Grow s1 Z1 { s1 with heap := s1.heap.push { cls := .type "list_iterator", data := .fields #[.ref a, .int 0 0] } } Z1 := .drop S1.zin (fun _ _ e => Heap.get?_push_of_some _ e) (Nat.le_refl _)
  refine k s1.heap.objs.size [s1.heap.objs.size] _ _ Z1 (Itr.of_walks (target := target) (items := xs) (Z0 := Z1) (Walks.list S.cx.handled s1.heap.objs.size a hne vs.toArray) (by rw [← ra.length]; simp) ?_ ?_ ?_ ?_ ?_) (S1.grow g2) (g1.trans g2) (fun b hb => ?_) (fun b hb => ?_) (fun b hb => ?_) ?_
  · intro b hb
    simp at hb
    rcases hb with rfl | rfl
    · exact .inl (by simp)
    · exact .inr ⟨_, za⟩
  · rintro i h ⟨⟨o, e1, e2, e3⟩, _⟩ b hb
    simp at hb; subst hb
    exact ⟨o, _, e1, e3⟩
  · rintro i h ⟨⟨o, e1, e2, e3⟩, _⟩
    exact ⟨o, _, "list_iterator", e1, e2, e3, by decide⟩
  · intro b hb
    simp at hb; subst hb
    exact S.b_none (hfresh s g1.keep)
  · intro j v d hv hd
    obtain ⟨w, e1, e2⟩ := ra.get hd
    have e3 : vs[j]? = some v := by simpa using hv
    rw [e1] at e3; cases e3; exact e2
  · simp at hb; subst hb; exact hfresh s g1.keep
  · simp at hb; subst hb; exact hz1
  · simp at hb; subst hb; show s1.heap.objs.size < (s1.heap.push _).objs.size; rw [Heap.size_push]; exact Nat.lt_succ_self _
  · exact ⟨0, rfl, Nat.zero_le _, ⟨⟨_, Heap.get?_push_size _ rfl, rfl, rfl⟩, hl.push _⟩, .refl _, fun b hb => by simp at hb; subst hb; exact hz1⟩

theorem EvI.str {target e : Expr} {l : List Nat} (h : Ev C ρ e (.str l)) : EvI C ρ target e (l.map fun c => .str [c]) := by
  refine ⟨fun s Z Q E S k => ?_⟩
  refine h.use S fun v s1 Z1 g1 S1 r1 => ?_
  obtain ⟨hl, t, rfl⟩ := rep_str.mp r1
  have hfresh : ∀ s0 : Shared, (∀ a o, s0.heap.get? a = some o → s1.heap.get? a = some o) → s0.heap.get? s1.heap.objs.size = none := fun s0 hk => by
    cases q : s0.heap.get? s1.heap.objs.size with
    | none => rfl
    | some o => exact absurd (Heap.lt_size (hk _ _ q)) (Nat.lt_irrefl _)
  have hz1 : Z1 s1.heap.objs.size = none := by
    cases q : Z1 s1.heap.objs.size with
    | none => rfl
    | some o => exact absurd (Heap.lt_size (S1.zin _ _ q)) (Nat.lt_irrefl _)
  have fin : ∀ T, (["enumerate", "zip", "dict_itemiterator", "dict_reverseitemiterator", "odict_iterator", "itertools.zip_longest", "itertools.pairwise"] : List String).contains T = false →
      Walks C.G.prog C.G.w C.A s1.heap.objs.size [s1.heap.objs.size] [s1.heap.objs.size] (st l).cps.size (SignAt (st l)) (fun i h => h.IsStrIter s1.heap.objs.size T (st l) t i) →
      Q (.ref s1.heap.objs.size) { s1 with heap := s1.heap.push { cls := .type T, data := .fields #[.str (st l) t, .int 0 0] } } := fun T hT W => by
    have g2 : Grow s1 Z1 { s1 with heap := s1.heap.push { cls := .type T, data := .fields #[.str (st l) t, .int 0 0] } } Z1 := .drop S1.zin (fun _ _ e => Heap.get?_push_of_some _ e) (Nat.le_refl _)
    refine k s1.heap.objs.size [s1.heap.objs.size] _ _ Z1 (Itr.of_walks (target := target) (items := l.map fun c => .str [c]) (Z0 := Z1) W (by simp [st]) ?_ ?_ ?_ ?_ ?_) (S1.grow g2) (g1.trans g2) (fun b hb => ?_) (fun b hb => ?_) (fun b hb => ?_) ?_
    · intro b hb; exact .inl hb
    · rintro i h ⟨o, e1, e2, e3⟩ b hb
      simp at hb; subst hb
      exact ⟨o, _, e1, e3⟩
    · rintro i h ⟨o, e1, e2, e3⟩
      exact ⟨o, _, T, e1, e2, e3, hT⟩
    · intro b hb
      simp at hb; subst hb
      exact S.b_none (hfresh s g1.keep)
    · rintro j v d ⟨c, u, e1, rfl⟩ hd
      have e2 : l[j]? = some c := by simpa [st] using e1
      rw [List.getElem?_map, e2] at hd
      cases hd
      exact rep_str.mpr ⟨by show 1 ≤ sizeLine; decide, u, rfl⟩
    · simp at hb; subst hb; exact hfresh s g1.keep
    · simp at hb; subst hb; exact hz1
    · simp at hb; subst hb; show s1.heap.objs.size < (s1.heap.push _).objs.size; rw [Heap.size_push]; exact Nat.lt_succ_self _
    · exact ⟨0, rfl, Nat.zero_le _, ⟨_, Heap.get?_push_size _ rfl, rfl, rfl⟩, .refl _, fun b hb => by simp at hb; subst hb; exact hz1⟩
  cases ha : (st l).cps.all (· < 128)
  · exact wpAny_pyIter_wide ha (fin "str_iterator" (by decide) (Walks.strWide S.cx.handled _ _ _))
  · exact wpAny_pyIter_ascii ha (fin "str_ascii_iterator" (by decide) (Walks.strAscii S.cx.handled _ _ _))
end
end Mine
namespace Mine

theorem codeAny_forLoopL {prog : Program} {w : World} {A : Around} {s : Shared} {R : Result → Shared → Prop} {target : Expr} {it : Value} {body : List Stmt} {env : Env} (I : Nat → Shared → Prop)
    (turn : ∀ n s, I n s → ∀ E, wpAny (model prog w) A (pyNext it) (fun r s₁ => match r with
      | none => R (.ok .next) s₁
      | some v => wpAny (model prog w) A (letOwnedTupleGo target it v) (fun _ s₂ => wpAny (model prog w) A (assign target env v) (fun _ s₃ => wpAny (model prog w) A (execs body env) (fun f s₄ => match f with
          | .next | .cont => ∃ m, m < n ∧ I m s₄
          | .brk => R (.ok .next) s₄
          | .ret v => R (.ok (.ret v)) s₄) E s₃) E s₂) E s₁) E s)
    (n : Nat) (h : I n s) : codeAny (model prog w) A (.forLoop target it body [] env) R s := by
  refine codeAny_loop' rfl I (fun n s hI => ?_) n h
  show wpAny _ _ ((forTurn target it body [] env).onRaise (fun x => do noteFrame x env; theTreesLotGoes x)) _ _ s
  refine wpAny_noted ?_
  simp only [forTurn]
  refine wpAny_bind (wpAny_standAt (wpAny_bind (wpAny_onRaise (wpAny_mono (turn n s hI _) (fun r s₁ h₁ => ?_) fun _ _ h' => wpAny_standAt h'))))
  cases r with
  | none => exact wpAny_pure (.inr ⟨rfl, codeAny_block (wpAny_execs_nil h₁)⟩)
  | some v =>
    refine wpAny_bind (wpAny_mono h₁ (fun _ s₂ h₂ => wpAny_bind (wpAny_mono h₂ (fun _ s₃ h₃ => wpAny_bind (wpAny_mono h₃ (fun f s₄ h₄ => ?_) fun _ _ h' => h')) fun _ _ h' => h')) fun _ _ h' => h')
    cases f with
    | next => exact wpAny_pure (.inl ⟨rfl, h₄⟩)
    | cont => exact wpAny_pure (.inl ⟨rfl, h₄⟩)
    | brk => exact wpAny_pure h₄
    | ret v => exact wpAny_pure h₄

section
variable {C : Cx} {ρ ρ' : Rho} {R : Out → Rho → Prop}

/-- a target takes a datum -/
structure As (C : Cx) (ρ : Rho) (target : Expr) (d : D) (K : Rho → Prop) : Prop where
  run : ∀ (s : Shared) (Z : Zone) (v : Value) (Q : Unit → Shared → Prop) (E : Value → Shared → Prop), Sat C ρ Z s → Rep Z d v →
    (∀ ρ' s' Z', K ρ' → Sat C ρ' Z' s' → GrowS s Z s' Z' → Q () s') → wpAny C.M C.A (assign target C.env v) Q E s

theorem As.name {x : Str} {p : Pos} {d : D} {K : Rho → Prop} (hp : Put ρ x (.val d) ρ') (hw : C.wr = true ∨ C.env.kindOf x = some .local) (h : K ρ') : As C ρ (.Name x p) d K :=
  ⟨fun s Z v Q E S r k => wpAny_assign_Name (S.store_val hp hw r fun s' S' g => k ρ' s' Z h S' g)⟩

noncomputable def ForL (C : Cx) (target : Expr) (body : List Stmt) (R : Out → Rho → Prop) : List D → Rho → Prop
  | [], ρ => R .next ρ
  | d :: ds, ρ => As C ρ target d fun ρ1 => Exs C ρ1 body fun o ρ2 => match o with
      | .next | .cont => ForL C target body R ds ρ2
      | .brk => R .next ρ2
      | .ret x => R (.ret x) ρ2

theorem Ex.for_ {target iter : Expr} {body : List Stmt} {pos : Pos} {items : List D} (hi : EvI C ρ target iter items) (h : ForL C target body R items ρ)
    (hs : ∀ x, foldedSetIterable iter C.env x = pure x := by intro _; rfl) : Ex C ρ (.For target iter body [] pos) R := by
  refine ⟨fun s Z Q E S k => ?_⟩
  refine wpAny_For (hi.run s Z _ E S fun I wr St s1 Z1 it S1 g1 hf hz hlt hst => ?_) hs
  refine codeAny_forLoopL (I := fun n s' => ∃ ds ρ1 Z', n = ds.length ∧ Sat C ρ1 Z' s' ∧ St ds Z' s'.heap ∧ ForL C target body R ds ρ1 ∧ GrowS s Z s' Z') ?_ items.length ⟨items, ρ, Z1, rfl, S1, hst, h, g1.s⟩
  rintro n s2 ⟨ds, ρ1, Z2, rfl, S2, hst2, h2, g2⟩ E'
  cases ds with
  | nil =>
    refine it.done ρ1 Z2 s2 _ E' S2 hst2 fun s3 S3 hk => ?_
    refine k .next ρ1 s3 Z2 _ h2 S3 ⟨g2.sub, fun a o vs e d => hk a o (fun q => ?_) (g2.iter a o vs e d), g2.iterz⟩ rfl
    rw [hf a q] at e; cases e
  | cons d ds =>
    refine wpAny_mono (it.next d ds ρ1 Z2 s2 (fun v s₂ => wpAny C.M C.A (PySem.assign target C.env v) (fun _ s₃ => wpAny C.M C.A (execs body C.env) (fun f s₄ => match f with
          | .next | .cont => ∃ m, m < (d :: ds).length ∧ ∃ ds ρ1 Z', m = ds.length ∧ Sat C ρ1 Z' s₄ ∧ St ds Z' s₄.heap ∧ ForL C target body R ds ρ1 ∧ GrowS s Z s₄ Z'
          | .brk => Q .next s₄
          | .ret v => Q (.ret v) s₄) E' s₃) E' s₂) E' S2 hst2 fun v s3 Z3 S3 hz3 hk3 hn3 r3 hst3 => ?_) (fun r s₁ h₁ => ?_) fun _ _ e => e
    · have g3 : GrowS s Z s3 Z3 := ⟨g2.sub.trans hz3, fun a o vs e d => hk3 a o (fun q => by rw [hf a q] at e; cases e) (g2.iter a o vs e d), fun a o vs e d z => by
        cases q : Z3 a with
        | none => rfl
        | some o' =>
          rcases hn3 _ _ q with q | q | q
          · rw [g2.iterz a o vs e d z] at q; cases q
          · rw [g2.iter a o vs e d] at q; cases q
          · rw [hf a q] at e; cases e⟩
      rw [ForL] at h2
      refine h2.run s3 Z3 v _ E' S3 r3 fun ρ4 s4 Z4 h4 S4 g4 => ?_
      refine h4.run s4 Z4 _ E' S4 fun o ρ5 s5 Z5 fl h5 S5 g5 hfl => ?_
      have g45 := g4.trans g5
      have g6 : GrowS s Z s5 Z5 := g3.trans g45
      have fr : St ds Z5 s5.heap := it.frame ds Z3 Z5 s3 s5 hst3 S3.zin g45 S5.zin
      cases o with
      | next => rw [FlowIs] at hfl; subst hfl; exact ⟨ds.length, Nat.lt_succ_self _, ds, ρ5, Z5, rfl, S5, fr, h5, g6⟩
      | cont => rw [FlowIs] at hfl; subst hfl; exact ⟨ds.length, Nat.lt_succ_self _, ds, ρ5, Z5, rfl, S5, fr, h5, g6⟩
      | brk => rw [FlowIs] at hfl; subst hfl; exact k .next ρ5 s5 Z5 _ h5 S5 g6 rfl
      | ret x => have hfl' := hfl; rw [FlowIs] at hfl; obtain ⟨w, rfl, rw⟩ := hfl; exact k (.ret x) ρ5 s5 Z5 _ h5 S5 g6 hfl'
    · obtain ⟨v, rfl, h₁⟩ := h₁; exact h₁

/-! ranges -/
theorem rangeItr {target : Expr} {r : Addr} {a b c : Int} {t u w : Tok} {n : Nat} {s0 s : Shared} {Z : Zone} {Q E : Value → Shared → Prop} (S : Sat C ρ Z s) (hr : IsRange s.heap r a b c t u w) (hs : Builtin.Range.small a b c = true) (hn : Builtin.Range.rangeSize a b c = n)
    (hk0 : ∀ a o, s0.heap.get? a = some o → s.heap.get? a = some o)
    (k : ∀ I wr St s' Z', Itr C target I wr St → Sat C ρ Z' s' → Grow s Z s' Z' → (∀ b ∈ wr, s0.heap.get? b = none) → (∀ b ∈ wr, Z' b = none) → (∀ b ∈ wr, b < s'.heap.objs.size) → St ((List.range n).map fun i : Nat => D.int (a + i * c)) Z' s'.heap → Q (.ref I) s') :
    wpAny C.M C.A (pyIter (.ref r)) Q E s := by
  refine wpAny_pyIter_range hr hs ?_
  have hfresh : ∀ s0 : Shared, (∀ a o, s0.heap.get? a = some o → s.heap.get? a = some o) → s0.heap.get? s.heap.objs.size = none := fun s0 hk => by
    cases q : s0.heap.get? s.heap.objs.size with
    | none => rfl
    | some o => exact absurd (Heap.lt_size (hk _ _ q)) (Nat.lt_irrefl _)
  have hz1 : Z s.heap.objs.size = none := by
    cases q : Z s.heap.objs.size with
    | none => rfl
    | some o => exact absurd (Heap.lt_size (S.zin _ _ q)) (Nat.lt_irrefl _)
  have g2 : Grow s Z { s with heap := s.heap.push { cls := .type "range_iterator", data := .fields #[rawInt a, rawInt (Builtin.Range.rangeSize a b c), rawInt c] } } Z := .drop S.zin (fun _ _ e => Heap.get?_push_of_some _ e) (Nat.le_refl _)
  refine k s.heap.objs.size [s.heap.objs.size] _ _ Z (Itr.of_walks (target := target) (items := (List.range n).map fun i : Nat => D.int (a + i * c)) (Z0 := Z) (Walks.range S.cx.handled s.heap.objs.size a c n) (by simp) ?_ ?_ ?_ ?_ ?_) (S.grow g2) g2 (fun b hb => ?_) (fun b hb => ?_) (fun b hb => ?_) ?_
  · intro b hb; exact .inl hb
  · intro i h e1 b hb
    simp at hb; subst hb
    exact ⟨_, _, e1, rfl⟩
  · intro i h e1
    exact ⟨_, _, "range_iterator", e1, rfl, rfl, by decide⟩
  · intro b hb
    simp at hb; subst hb
    exact S.b_none (get?_size _)
  · rintro j v d ⟨t, rfl⟩ hd
    rw [List.getElem?_map] at hd
    cases q : (List.range n)[j]? with
    | none => rw [q] at hd; cases hd
    | some i =>
      rw [q] at hd; cases hd
      have : i = j := by
        have := List.getElem?_eq_some_iff.mp q
        obtain ⟨h1, h2⟩ := this
        simpa using h2.symm
      subst this
      exact rep_int.mpr ⟨t, rfl⟩
  · simp at hb; subst hb; exact hfresh s0 hk0
  · simp at hb; subst hb; exact hz1
  · simp at hb; subst hb; show s.heap.objs.size < (s.heap.push _).objs.size; rw [Heap.size_push]; exact Nat.lt_succ_self _
  · refine ⟨0, rfl, Nat.zero_le _, ?_, .refl _, fun b hb => by simp at hb; subst hb; exact hz1⟩
    show IsRangeIter _ _ _ _ _
    rw [hn]
    simpa using Heap.get?_push_size _ rfl

theorem EvI.range1 {target : Expr} {x : Str} {xp pos : Pos} {e : Expr} {n : Nat} (hm : (x, Ent.glob (.type "range")) ∈ ρ) (h : Ev C ρ e (.int n)) (hn : n ≤ sizeLine) (hst : ∀ x p, e ≠ .Starred x p := by intro _ _ h; cases h) :
    EvI C ρ target (.Call (.Name x xp) [e] [] pos) ((List.range n).map fun i : Nat => D.int i) := by
  refine ⟨fun s Z Q E S k => ?_⟩
  have hs := sizeLine_lt
  refine Call_ (glob_use hm S (callOther_use rfl (.cons h .nil hst) S fun vs s1 Z1 g1 S1 r1 => ?_))
  obtain ⟨v, rfl, r2⟩ := reps1 r1
  obtain ⟨t, rfl⟩ := rep_int.mp r2
  refine call_range_1 ?_
  have g2 : Grow s1 Z1 { s1 with heap := s1.heap.push { cls := .type "range", data := .fields #[.int 0 s1.toks, .int n t, .int 1 (s1.toks + 1)] }, toks := s1.toks + 1 + 1 } Z1 := .dropA S1.zin (fun _ _ e => Heap.get?_push_of_some _ e)
  refine rangeItr (target := target) (n := n) (s0 := s) (S1.grow g2) (IsRange.new _ _ _ _ _ _ _) (small_one (by decide) (by decide) (by lia) (by lia)) ?_ (fun a o e => g2.keep _ _ (g1.keep _ _ e)) fun I wr St s' Z' it S' g hf hz hlt hst => ?_
  · rw [rangeSize_one]; split <;> lia
  · refine k I wr St s' Z' it S' ((g1.trans g2).trans g) hf hz hlt ?_
    have e : ((List.range n).map fun i : Nat => D.int (0 + i * 1)) = (List.range n).map fun i : Nat => D.int i := by
      apply List.map_congr_left; intro i _; simp
    rw [e] at hst; exact hst

theorem EvI.range2 {target : Expr} {x : Str} {xp pos : Pos} {e1 e2 : Expr} {a b : Int} (hm : (x, Ent.glob (.type "range")) ∈ ρ) (h1 : Ev C ρ e1 (.int a)) (h2 : Ev C ρ e2 (.int b)) (ha : -16777216 ≤ a ∧ a ≤ 16777216) (hb : -16777216 ≤ b ∧ b ≤ 16777216)
    (hst1 : ∀ x p, e1 ≠ .Starred x p := by intro _ _ h; cases h) (hst2 : ∀ x p, e2 ≠ .Starred x p := by intro _ _ h; cases h) :
    EvI C ρ target (.Call (.Name x xp) [e1, e2] [] pos) ((List.range (b - a).toNat).map fun i : Nat => D.int (a + i)) := by
  refine ⟨fun s Z Q E S k => ?_⟩
  refine Call_ (glob_use hm S (callOther_use rfl (.cons h1 (.cons h2 .nil hst2) hst1) S fun vs s1 Z1 g1 S1 r1 => ?_))
  obtain ⟨v, v', rfl, r2, r3⟩ := reps2 r1
  obtain ⟨t, rfl⟩ := rep_int.mp r2
  obtain ⟨u, rfl⟩ := rep_int.mp r3
  refine call_range_2 ?_
  have g2 : Grow s1 Z1 { s1 with heap := s1.heap.push { cls := .type "range", data := .fields #[.int a t, .int b u, .int 1 s1.toks] }, toks := s1.toks + 1 } Z1 := .dropA S1.zin (fun _ _ e => Heap.get?_push_of_some _ e)
  refine rangeItr (target := target) (n := (b - a).toNat) (s0 := s) (S1.grow g2) (IsRange.new _ _ _ _ _ _ _) (small_one (by lia) (by lia) (by lia) (by lia)) ?_ (fun a o e => g2.keep _ _ (g1.keep _ _ e)) fun I wr St s' Z' it S' g hf hz hlt hst => ?_
  · rw [rangeSize_one]; split <;> lia
  · refine k I wr St s' Z' it S' ((g1.trans g2).trans g) hf hz hlt ?_
    have e : ((List.range (b - a).toNat).map fun i : Nat => D.int (a + i * 1)) = (List.range (b - a).toNat).map fun i : Nat => D.int (a + i) := by
      apply List.map_congr_left; intro i _; simp
    rw [e] at hst; exact hst

/-- range(n - 1, -1, -1) -/
theorem EvI.rangeDown {target : Expr} {x : Str} {xp pos : Pos} {e1 e2 e3 : Expr} {a : Int} (hm : (x, Ent.glob (.type "range")) ∈ ρ) (h1 : Ev C ρ e1 (.int a)) (h2 : Ev C ρ e2 (.int (-1))) (h3 : Ev C ρ e3 (.int (-1))) (ha : -1 ≤ a ∧ a ≤ 16777216)
    (hst1 : ∀ x p, e1 ≠ .Starred x p := by intro _ _ h; cases h) (hst2 : ∀ x p, e2 ≠ .Starred x p := by intro _ _ h; cases h) (hst3 : ∀ x p, e3 ≠ .Starred x p := by intro _ _ h; cases h) :
    EvI C ρ target (.Call (.Name x xp) [e1, e2, e3] [] pos) ((List.range (a + 1).toNat).map fun i : Nat => D.int (a - i)) := by
  refine ⟨fun s Z Q E S k => ?_⟩
  refine Call_ (glob_use hm S (callOther_use rfl (.cons h1 (.cons h2 (.cons h3 .nil hst3) hst2) hst1) S fun vs s1 Z1 g1 S1 r1 => ?_))
  obtain ⟨v, v', v'', rfl, r2, r3, r4⟩ := reps3 r1
  obtain ⟨t, rfl⟩ := rep_int.mp r2
  obtain ⟨u, rfl⟩ := rep_int.mp r3
  obtain ⟨w, rfl⟩ := rep_int.mp r4
  refine call_range_3 (by decide) ?_ (.inl (PyProof.noPylong_small (by lia)))
  have g2 : Grow s1 Z1 { s1 with heap := s1.heap.push { cls := .type "range", data := .fields #[.int a t, .int (-1) u, .int (-1) w] }, toks := s1.toks } Z1 := .dropA S1.zin (fun _ _ e => Heap.get?_push_of_some _ e)
  have hsz : Builtin.Range.rangeSize a (-1) (-1) = (a + 1).toNat := by
    unfold Builtin.Range.rangeSize
    rw [if_neg (by decide)]
    have : (a - -1 - 1) / (- -1) = a := by rw [show (- -1 : Int) = 1 by decide, Int.ediv_one]; lia
    rw [this]
    split <;> lia
  refine rangeItr (target := target) (n := (a + 1).toNat) (s0 := s) (S1.grow g2) (IsRange.new _ _ _ _ _ _ _) ?_ hsz (fun a o e => g2.keep _ _ (g1.keep _ _ e)) fun I wr St s' Z' it S' g hf hz hlt hst => ?_
  · unfold Builtin.Range.small
    rw [hsz]
    simp only [Builtin.Range.rangeFitsLong, Bool.and_eq_true, Bool.or_eq_true, decide_eq_true_eq, beq_iff_eq]
    refine ⟨⟨⟨⟨⟨by lia, by lia⟩, by decide, by decide⟩, by decide, by decide⟩, by lia, by lia⟩, .inr ?_⟩
    rw [if_neg (by decide)]; simp
  · refine k I wr St s' Z' it S' ((g1.trans g2).trans g) hf hz hlt ?_
    have e : ((List.range (a + 1).toNat).map fun i : Nat => D.int (a + i * (-1))) = (List.range (a + 1).toNat).map fun i : Nat => D.int (a - i) := by
      apply List.map_congr_left; intro i _; congr 1; lia
    rw [e] at hst; exact hst
end
end Mine
namespace Mine

theorem lookup_mem {α : Type} : ∀ {l : List (Str × α)} {x : Str} {c : α}, l.lookup x = some c → (x, c) ∈ l
  | [], _, _, h => by cases h
  | (y, b) :: r, x, c, h => by
    rw [List.lookup_cons] at h
    cases q : x == y with
    | true => rw [q] at h; cases h; rw [beq_iff_eq.mp q]; exact .head _
    | false => rw [q] at h; exact .tail _ (lookup_mem h)
theorem pair_inj : ∀ {l : List (Str × Addr)} {x y : Str} {c : Addr}, l.Pairwise (fun x y => x.2 ≠ y.2) → (x, c) ∈ l → (y, c) ∈ l → x = y
  | [], _, _, _, _, h, _ => by cases h
  | p :: r, x, y, c, hp, h1, h2 => by
    obtain ⟨ha, hb⟩ := List.pairwise_cons.mp hp
    rcases List.mem_cons.mp h1 with e1 | h1 <;> rcases List.mem_cons.mp h2 with e2 | h2
    · rw [← e1] at e2; exact (congrArg Prod.fst e2).symm
    · exact absurd rfl (e1 ▸ ha _ h2)
    · exact absurd rfl (e2 ▸ ha _ h1)
    · exact pair_inj hb h1 h2

theorem bindL_not {k : Str → Option NameKind} : ∀ {b : List (Str × Value)} {m : Str → Option Value} {x : Str}, x ∉ b.map (·.1) → bindL k b m x = m x
  | [], _, _, _ => rfl
  | (n, v) :: r, m, x, h => by
    simp only [List.map_cons, List.mem_cons, not_or] at h
    rw [bindL, bindL_not h.2]
    split
    · simp [h.1]
    · rfl
theorem bindL_mem {k : Str → Option NameKind} : ∀ {b : List (Str × Value)} {m : Str → Option Value} {x : Str} {v : Value}, (b.map (·.1)).Nodup → (x, v) ∈ b → k x = some .local → bindL k b m x = some v
  | (n, w) :: r, m, x, v, hn, h, hk => by
    rw [List.map_cons, List.nodup_cons] at hn
    rw [bindL]
    rcases List.mem_cons.mp h with e | h
    · cases e
      rw [bindL_not hn.1, if_pos hk]; simp
    · exact bindL_mem hn.2 h hk
theorem bindC_not {k : Str → Option NameKind} : ∀ {b : List (Str × Value)} {m : Str → Option Value} {x : Str}, x ∉ b.map (·.1) → bindC k b m x = m x
  | [], _, _, _ => rfl
  | (n, v) :: r, m, x, h => by
    simp only [List.map_cons, List.mem_cons, not_or] at h
    rw [bindC, bindC_not h.2]
    split
    · rfl
    · simp [h.1]
theorem bindC_mem {k : Str → Option NameKind} : ∀ {b : List (Str × Value)} {m : Str → Option Value} {x : Str} {v : Value}, (b.map (·.1)).Nodup → (x, v) ∈ b → k x ≠ some .local → bindC k b m x = some v
  | (n, w) :: r, m, x, v, hn, h, hk => by
    rw [List.map_cons, List.nodup_cons] at hn
    rw [bindC]
    rcases List.mem_cons.mp h with e | h
    · cases e
      rw [bindC_not hn.1, if_neg hk]; simp
    · exact bindC_mem hn.2 h hk

/-- what the text says of a name ahead of a call -/
noncomputable def EntStatic (G : Glo) (scope : Scope) (binds : List (Str × D)) (x : Str) : Ent → Prop
  | .unset => (x == ("__debug__" : Str)) = false ∧ (scope.names.lookup x = some .local ∨ scope.names.lookup x = some .cell)
  | .val d => (x == ("__debug__" : Str)) = false ∧ (scope.names.lookup x = some .local ∨ scope.names.lookup x = some .cell) ∧ (x, d) ∈ binds
  | .glob v => scope.names.lookup x = some .globalImplicit ∧ (x == ("__debug__" : Str)) = false ∧ (nsIn G.K mainGlobals x = some (some v) ∨ (nsIn G.K mainGlobals x = some none ∧ bootBuiltins x = some v ∧ x ≠ "__name__"))
  | _ => False

theorem zip_reps {Z : Zone} : ∀ {ps : List Str} {ds : List D} {vs : List Value} {x : Str} {d : D}, Reps Z ds vs → (x, d) ∈ ps.zip ds → ∃ v, (x, v) ∈ ps.zip vs ∧ Rep Z d v
  | [], _, _, _, _, _, h => by simp at h
  | p :: ps, [], _, _, _, _, h => by simp at h
  | p :: ps, d' :: ds, vs, x, d, hr, h => by
    obtain ⟨v, r, rfl, h1, h2⟩ := reps_cons.mp hr
    rw [List.zip_cons_cons] at h
    rcases List.mem_cons.mp h with e | h
    · cases e; exact ⟨v, .head _, h1⟩
    · obtain ⟨w, a, b⟩ := zip_reps h2 h; exact ⟨w, .tail _ a, b⟩

theorem zip_names : ∀ {ps : List Str} {vs : List Value}, ps.length = vs.length → (ps.zip vs).map (·.1) = ps
  | [], _, _ => rfl
  | p :: ps, [], h => by simp at h
  | p :: ps, v :: vs, h => by simp at h; simp [zip_names h]

/-- the frame at a call's start -/
theorem frame_start {G : Glo} {n : Nat} {f : Addr} {fd : FuncData} {params : List Str} {ds : List D} {ρ₀ : Rho} {A : Around} {s s₁ : Shared} {Z : Zone} {vs : List Value} (hG : GloOk G)
    (hgl : fd.globals = mainGlobals) (hbu : fd.builtins = builtinsNs) (hkind : fd.scope.kind = .function)
    (hpl : params.length = ds.length) (hpn : params.Nodup) (hnd : (ρ₀.map (·.1)).Nodup) (hst : ∀ p ∈ ρ₀, EntStatic G fd.scope (params.zip ds) p.1 p.2)
    (hh : A.handled = none) (hdep : A.depth + (n + 1) < recursionLimit) (hun : A.units + 64 * (n + 1) + 64 < cLine) (z : ZOk G Z s.heap) (hr : Reps Z ds vs)
    (x : InCallC s (callEnvC fd s.heap.objs.size f).locals (bindL (callEnvC fd s.heap.objs.size f).kindOf (params.zip vs) fun _ => none) (callEnvC fd s.heap.objs.size f).cells (bindC (callEnvC fd s.heap.objs.size f).kindOf (params.zip vs) fun _ => none) s₁) :
    Sat { G := G, A := A.deeper (callEnvC fd s.heap.objs.size f), env := callEnvC fd s.heap.objs.size f, room := n, B := s.heap.get?, Zb := Z, s0 := s, wr := true } ρ₀ Z s₁ := by
  have hvl := hr.length
  have hzn : ((params.zip vs).map (·.1)) = params := zip_names (by lia)
  obtain ⟨h1, tk, e1⟩ := x.toInCall.same
  have fresh : ∀ a, s.heap.objs.size ≤ a → s.heap.get? a = none := fun a ha => by
    cases q : s.heap.get? a with
    | none => rfl
    | some o => exact absurd (Heap.lt_size q) (Nat.not_lt.mpr ha)
  have znone : ∀ a, s.heap.get? a = none → Z a = none := fun a ha => by
    cases q : Z a with
    | none => rfl
    | some o => rw [z.zin _ _ q] at ha; cases ha
  have hcells : ∀ y, fd.scope.names.lookup y = some .cell → ∃ c, (callEnvC fd s.heap.objs.size f).cells.lookup y = some c := fun y hy => by
    have := cellsFrom_some fd.scope.names (s.heap.objs.size + 1) [] (.inl hy)
    exact Option.isSome_iff_exists.mp this
  have vat : ∀ y, (y == ("__debug__" : Str)) = false → (fd.scope.names.lookup y = some .local ∨ fd.scope.names.lookup y = some .cell) → VarAt (callEnvC fd s.heap.objs.size f) y := fun y h0 hy =>
    ⟨h0, hy.imp id fun q => ⟨q, hcells y q⟩⟩
  refine ⟨⟨hG, hkind, hgl, hbu, hh, by show A.depth + 1 + n < _; lia, by show A.units + 3 + 64 * n + 64 < _; lia, z.top⟩, hnd, ⟨_, x.toInCall.ns, fun p hp => ?_, fun p hp q hq o1 => ?_⟩, fun a o e => x.toInCall.keep a o e, fresh _ (Nat.le_refl _), .refl _,
    fun a o e => x.toInCall.keep _ _ (z.zin _ _ e), znone _ (fresh _ (Nat.le_refl _)), fun a o e => .inl e, fun y c hc => ?_, fun y y' c h1 h2 => pair_inj x.apart (lookup_mem h1) (lookup_mem h2), by rw [e1]; exact ⟨rfl, rfl, rfl⟩⟩
  · have hp' := hst p hp
    obtain ⟨y, e⟩ := p
    cases e with
    | unset => exact vat y hp'.1 hp'.2
    | val d =>
      obtain ⟨a1, a2, a3⟩ := hp'
      obtain ⟨v, b1, b2⟩ := zip_reps hr a3
      refine ⟨vat y a1 a2, v, ?_, b2⟩
      rcases a2 with a2 | a2
      · exact .inl ⟨a2, bindL_mem (by rw [hzn]; exact hpn) b1 a2⟩
      · obtain ⟨c, hc⟩ := hcells y a2
        obtain ⟨o, q1, q2⟩ := x.cell y c hc
        refine .inr ⟨a2, c, o, hc, q1, ?_⟩
        rw [q2, bindC_mem (by rw [hzn]; exact hpn) b1 (by show fd.scope.names.lookup y ≠ _; rw [a2]; decide)]
    | glob v =>
      obtain ⟨a1, a2, a3⟩ := hp'
      refine ⟨a1, a2, a3.imp (fun q => mg_of hG.kin hG.g q) fun ⟨q1, q2, q3⟩ => ⟨mg_none_of hG.kin hG.g q1, (hG.builtins y q3).trans q2⟩⟩
    | own xs => cases hp'
    | ownd xs => cases hp'
    | oinst a0 K ns ds => cases hp'
  · have hp' := hst p hp
    obtain ⟨y, e⟩ := p
    cases e with
    | unset => cases o1
    | val d => cases o1
    | glob v => cases o1
    | own xs => cases hp'
    | ownd xs => cases hp'
    | oinst a0 K ns ds => cases hp'
  · have hlt := x.above y c (lookup_mem hc)
    have hge : s.heap.objs.size ≤ c := Nat.le_of_lt hlt
    obtain ⟨o, q1, q2⟩ := x.cell y c hc
    exact ⟨znone _ (fresh _ hge), Nat.ne_of_gt hlt, ⟨o, _, q1, q2⟩, fun _ => fresh _ hge⟩

theorem Sat.end_grow {G : Glo} {A : Around} {env : Env} {n : Nat} {s s' : Shared} {Z Z' : Zone} {ρ : Rho} (S : Sat { G := G, A := A, env := env, room := n, B := s.heap.get?, Zb := Z, s0 := s, wr := true } ρ Z' s') : Grow s Z s' Z' :=
  ⟨S.keep, S.z0, S.znew, S.zin, S.rest⟩

theorem FnOk.intro {G : Glo} {n : Nat} {f : Addr} {o : Obj} {fd : FuncData} {body : List Stmt} {params : List Str} {ds : List D} {d : D} {ρ₀ : Rho} (hG : GloOk G) (ho : G.K.lookup f = some o) (hd : o.data = .func fd) (hcode : codeIn G.K fd.code fd.qualname = true)
    (hgl : fd.globals = mainGlobals) (hbu : fd.builtins = builtinsNs) (hclo : fd.closure = []) (hkind : fd.scope.kind = .function) (hco : fd.scope.isCoroutine = false) (hgen : fd.scope.isGenerator = false) (hbody : fd.body = .stmts body)
    (hbind : ∀ vs : List Value, vs.length = ds.length → bindArgs fd ⟨vs, []⟩ = pure (params.zip vs))
    (hpl : params.length = ds.length) (hpn : params.Nodup) (hpk : ∀ x ∈ params, fd.scope.names.lookup x = some .local ∨ fd.scope.names.lookup x = some .cell)
    (hnd : (ρ₀.map (·.1)).Nodup) (hst : ∀ p ∈ ρ₀, EntStatic G fd.scope (params.zip ds) p.1 p.2)
    (hrun : ∀ C : Cx, C.G = G → C.room = n → C.wr = true → (∃ L, C.env = callEnvC fd L f) → Exs C ρ₀ body (fun o ρ => o = .ret d)) : FnOk G (n + 1) f ds d := by
  refine ⟨⟨o, fd, hG.kin _ _ ho, hd⟩, fun A s Z vs Q E hh hdep hun z hr k => ?_⟩
  have hvl := hr.length
  have hzn : ((params.zip vs).map (·.1)) = params := zip_names (by lia)
  refine wpAny_call (codeAny_call_cells (binds := params.zip vs) (by lia) (z.keep _ _ (hG.kin _ _ ho)) hd (hG.nolimit.keeps z.keep) (codeRec_of (hG.kin.keeps z.keep) hcode) hbody (hbind vs (by lia)) hclo ?_ (fun s₁ x => ?_) hco hgen hkind)
  · intro p hp
    have : p.1 ∈ params := by rw [← hzn]; exact List.mem_map_of_mem hp
    exact (hpk _ this).imp id fun q => ⟨q, cellsFrom_some fd.scope.names _ [] (.inl q)⟩
  · have S := frame_start (n := n) (f := f) hG hgl hbu hkind hpl hpn hnd hst hh hdep hun z hr x
    refine (hrun _ rfl rfl rfl ⟨_, rfl⟩).run s₁ Z _ _ S fun o ρ' s' Z' fl hR S' g hf => ?_
    subst hR
    rw [FlowIs] at hf
    obtain ⟨v, rfl, rv⟩ := hf
    exact k v s' Z' S'.end_grow rv

noncomputable def rho0 (params : List Str) (ds : List D) (locals : List Str) (globs : List (Str × Value)) : Rho := (params.zip ds).map (fun p => (p.1, Ent.val p.2)) ++ (locals.map (fun x => (x, Ent.unset)) ++ globs.map fun p => (p.1, Ent.glob p.2))

noncomputable def kindsOk (scope : Scope) (xs : List Str) : Bool := xs.all fun x => !(x == ("__debug__" : Str)) && (scope.names.lookup x == some .local || scope.names.lookup x == some .cell)
noncomputable def globKinds (scope : Scope) (xs : List Str) : Bool := xs.all fun x => !(x == ("__debug__" : Str)) && scope.names.lookup x == some .globalImplicit
noncomputable def GlobsAre (K : Frag) : List (Str × Value) → Prop
  | [] => True
  | (x, v) :: r => (nsIn K mainGlobals x = some (some v) ∨ (nsIn K mainGlobals x = some none ∧ bootBuiltins x = some v ∧ x ≠ "__name__")) ∧ GlobsAre K r
theorem GlobsAre.mem {K : Frag} : ∀ {l : List (Str × Value)} {x : Str} {v : Value}, GlobsAre K l → (x, v) ∈ l → (nsIn K mainGlobals x = some (some v) ∨ (nsIn K mainGlobals x = some none ∧ bootBuiltins x = some v ∧ x ≠ "__name__"))
  | (y, w) :: r, x, v, h, hm => by
    rcases List.mem_cons.mp hm with e | hm
    · cases e; exact h.1
    · exact GlobsAre.mem h.2 hm

theorem kindsOk.mem {scope : Scope} {xs : List Str} (h : kindsOk scope xs = true) {x : Str} (hx : x ∈ xs) : (x == ("__debug__" : Str)) = false ∧ (scope.names.lookup x = some .local ∨ scope.names.lookup x = some .cell) := by
  have := List.all_eq_true.mp h x hx
  simp only [Bool.and_eq_true, Bool.not_eq_true', Bool.or_eq_true, beq_iff_eq] at this
  exact this

theorem static_of {G : Glo} {scope : Scope} {params : List Str} {ds : List D} {locals : List Str} {globs : List (Str × Value)} (hk : kindsOk scope (params ++ locals) = true) (hg : globKinds scope (globs.map (·.1)) = true) (hgl : GlobsAre G.K globs) :
    ∀ p ∈ rho0 params ds locals globs, EntStatic G scope (params.zip ds) p.1 p.2 := by
  intro p hp
  rcases List.mem_append.mp hp with hp | hp
  · obtain ⟨q, hq, rfl⟩ := List.mem_map.mp hp
    have hx : q.1 ∈ params ++ locals := List.mem_append_left _ (List.of_mem_zip hq).1
    obtain ⟨a, b⟩ := kindsOk.mem hk hx
    exact ⟨a, b, hq⟩
  · rcases List.mem_append.mp hp with hp | hp
    · obtain ⟨q, hq, rfl⟩ := List.mem_map.mp hp
      exact kindsOk.mem hk (List.mem_append_right _ hq)
    · obtain ⟨q, hq, rfl⟩ := List.mem_map.mp hp
      have := List.all_eq_true.mp hg q.1 (List.mem_map_of_mem hq)
      simp only [Bool.and_eq_true, Bool.not_eq_true', beq_iff_eq] at this
      exact ⟨this.2, this.1, hgl.mem hq⟩

theorem FnOk.def {G : Glo} {n : Nat} {f : Addr} {o : Obj} {fd : FuncData} {scope : Scope} {body : List Stmt} (params : List Str) (locals : List Str) (globs : List (Str × Value)) {ds : List D} {d : D} {ρ₀ : Rho} (hG : GloOk G) (ho : G.K.lookup f = some o) (hd : o.data = .func fd) (hcode : codeIn G.K fd.code fd.qualname = true)
    (hgl : fd.globals = mainGlobals) (hbu : fd.builtins = builtinsNs) (hclo : fd.closure = []) (hsc : fd.scope = scope) (hbody : fd.body = .stmts body) (hρ : ρ₀ = rho0 params ds locals globs) (hglobs : GlobsAre G.K globs)
    (hbind : ∀ vs : List Value, vs.length = ds.length → bindArgs fd ⟨vs, []⟩ = pure (params.zip vs)) (hpl : params.length = ds.length)
    (hkind : scope.kind = .function) (hco : scope.isCoroutine = false) (hgen : scope.isGenerator = false) 
    (hpk : kindsOk scope (params ++ locals) = true) (hgk : globKinds scope (globs.map (·.1)) = true) (hnd : (params ++ (locals ++ globs.map (·.1))).Nodup)
    (hrun : ∀ C : Cx, C.G = G → C.room = n → C.wr = true → (∃ L, C.env = callEnvC fd L f) → Exs C ρ₀ body (fun o ρ => o = .ret d)) : FnOk G (n + 1) f ds d := by
  subst hsc
  subst hρ
  refine FnOk.intro (params := params) hG ho hd hcode hgl hbu hclo hkind hco hgen hbody hbind hpl (List.nodup_append.mp hnd).1 (fun x hx => (kindsOk.mem hpk (List.mem_append_left _ hx)).2) ?_ (static_of hpk hgk hglobs) hrun
  have e : (rho0 params ds locals globs).map (·.1) = params ++ (locals ++ globs.map (·.1)) := by
    have h1 : ∀ (ps : List Str) (ds : List D), ps.length = ds.length → ((ps.zip ds).map (fun p => (p.1, Ent.val p.2))).map (·.1) = ps := by
      intro ps
      induction ps with
      | nil => intro _ _; rfl
      | cons p ps ih =>
        intro ds h
        cases ds with
        | nil => simp at h
        | cons d ds => simp at h; simpa using ih ds h
    unfold rho0
    rw [List.map_append, List.map_append, h1 _ _ hpl]
    simp [Function.comp_def]
  rw [e]; exact hnd
end Mine
namespace Mine

theorem codeAny_compLoopL {prog : Program} {w : World} {A : Around} {s : Shared} {R : Result → Shared → Prop} {elt target iter : Expr} {ifs : List Expr} {scope : Scope} {pos : Pos} {it acc : Value} {env : Env} (I : Nat → Shared → Prop)
    (turn : ∀ n s, I n s → ∀ E, wpAny (model prog w) A (pyNext it) (fun r s₁ => match r with
      | none => R (.ok .next) s₁
      | some v => wpAny (model prog w) A (letOwnedTupleGo target it v) (fun _ s₁' => wpAny (model prog w) A (assign target env v) (fun _ s₂ =>
          wpAny (model prog w) A (forIn ifs true fun c r => if r = true then do let ok ← isTrue c env (eval c env); pure (ForInStep.yield ok) else pure (ForInStep.yield r)) (fun ok s₃ =>
            if ok = true then wpAny (model prog w) A (eval elt env) (fun x s₄ =>
              wpAny (model prog w) A (call (.builtin "list.append") [acc, x]) (fun _ s₅ => ∃ m, m < n ∧ I m s₅) E s₄) E s₃
            else ∃ m, m < n ∧ I m s₃) E s₂) E s₁') E s₁) E s)
    (n : Nat) (h : I n s) :
    codeAny (model prog w) A (.compLoop (.ListComp elt [⟨target, iter, ifs, 0⟩] scope pos) 0 it acc env) R s := by
  refine codeAny_loop rfl I (fun n s hI => ?_) n h
  show wpAny _ A ((compTurn (.ListComp elt [⟨target, iter, ifs, 0⟩] scope pos) 0 it acc env).onRaise (fun x => do noteFrame x env; theTreesLotGoes x)) _ _ s
  refine wpAny_noted ?_
  rw [compTurn_list]
  refine wpAny_bind (wpAny_standAt (wpAny_bind (wpAny_mono (turn n s hI _) (fun r s₁ h₁ => ?_) fun _ _ h' => h')))
  cases r with
  | none => exact wpAny_pure h₁
  | some v =>
    refine wpAny_bind (wpAny_mono h₁ (fun _ s₁' h₁' => ?_) fun _ _ h' => h')
    refine wpAny_bind (wpAny_mono h₁' (fun _ s₂ h₂ => wpAny_bind (wpAny_mono h₂ (fun ok s₃ h₃ => ?_) fun _ _ h' => h')) fun _ _ h' => h')
    cases ok with
    | false => exact wpAny_pure ⟨rfl, h₃⟩
    | true => exact wpAny_bind (wpAny_bind (wpAny_mono h₃ (fun x s₄ h₄ => wpAny_bind (wpAny_mono h₄ (fun _ s₅ h₅ => wpAny_pure (wpAny_pure ⟨rfl, h₅⟩)) fun _ _ h' => h')) fun _ _ h' => h'))

section
variable {C : Cx} {ρ ρ' : Rho}

noncomputable def CT (C : Cx) (ρ1 : Rho) (elt : Expr) (o : Option D) : List Expr → Prop
  | [] => ∃ y, o = some y ∧ Ev C ρ1 elt y
  | [c] => ∃ b, Tr C ρ1 c b ∧ (b = false → o = none) ∧ (b = true → ∃ y, o = some y ∧ Ev C ρ1 elt y)
  | _ => False

noncomputable def rhoC (ls : List Str) (frees : List (Str × D)) : Rho := ls.map (fun x => (x, Ent.unset)) ++ frees.map fun p => (p.1, Ent.val p.2)

/-- what the text says of a comprehension's block -/
structure CompOk (C : Cx) (ρ : Rho) (scope : Scope) (cl : List (Str × Addr)) (ls : List Str) (frees : List (Str × D)) : Prop where
  clos : closureFor scope C.env = pure cl
  nocell : ∀ y ∈ scope.names, y.2 ≠ .cell
  kind : scope.kind = .function
  names : ∀ y ∈ scope.names, y.2 = .local → scope.names.lookup y.1 = some .local
  locals : ∀ x ∈ ls, (x == ("__debug__" : Str)) = false ∧ scope.names.lookup x = some .local
  free : ∀ p ∈ frees, (p.1 == ("__debug__" : Str)) = false ∧ (relabel scope C.env).names.lookup p.1 = some .cell ∧ (p.1, Ent.val p.2) ∈ ρ ∧ C.env.kindOf p.1 = some .cell ∧ ∃ c, cl.lookup p.1 = some c
  sub : ∀ x c, cl.lookup x = some c → C.env.cells.lookup x = some c
  nodup : (ls ++ frees.map (·.1)).Nodup

noncomputable def compCx (C : Cx) (scope : Scope) (cl : List (Str × Addr)) (L : Addr) (s : Shared) (Z : Zone) : Cx :=
  { G := C.G, A := C.A, env := compEnvC scope cl L C.env, room := C.room, B := fun a => if a = L then none else s.heap.get? a, Zb := Z, s0 := s, wr := false }

/-- a turn's start -/
theorem comp_start {scope : Scope} {cl : List (Str × Addr)} {ls : List Str} {frees : List (Str × D)} {L : Addr} {s : Shared} {Z : Zone} {m : Str → Option Value} (O : CompOk C ρ scope cl ls frees) (S : Sat C ρ Z s) (hn : s.heap.Ns L m) (hz : Z L = none) (hL : L ≠ C.L)
    (hc : ∀ x c, C.env.cells.lookup x = some c → c ≠ L) : Sat (compCx C scope cl L s Z) (rhoC ls frees) Z s := by
  have hk : (compEnvC scope cl L C.env).scope.kind = .function := O.kind
  have keep : ∀ a o, (compCx C scope cl L s Z).B a = some o → s.heap.get? a = some o := fun a o e => by
    have e' : (if a = L then none else s.heap.get? a) = some o := e
    split at e'
    · cases e'
    · exact e'
  refine ⟨⟨S.cx.glo, hk, S.cx.globals, S.cx.builtins, S.cx.handled, S.cx.depth, S.cx.units, fun a o e => S.zok.top a o e⟩, ?_, ⟨m, hn, fun p hp => ?_, fun p hp q hq o1 => ?_⟩, keep, ?_, .refl _, S.zin, hz, fun a o e => .inl e, fun x c e => ?_, fun x y c h1 h2 => S.cinj x y c (O.sub _ _ h1) (O.sub _ _ h2), .refl _⟩
  · have e : (rhoC ls frees).map (·.1) = ls ++ frees.map (·.1) := by simp [rhoC, Function.comp_def]
    rw [e]; exact O.nodup
  · rcases List.mem_append.mp hp with hp | hp
    · obtain ⟨x, hx, rfl⟩ := List.mem_map.mp hp
      obtain ⟨a, b⟩ := O.locals x hx
      exact ⟨a, .inl (lookup_relabel_local b)⟩
    · obtain ⟨q, hq, rfl⟩ := List.mem_map.mp hp
      obtain ⟨a, b, c, d, cc, hcc⟩ := O.free q hq
      obtain ⟨m0, hn0, he, _⟩ := S.ns
      obtain ⟨_, v, hv, hr⟩ := he _ c
      refine ⟨⟨a, .inr ⟨b, cc, hcc⟩⟩, v, ?_, hr⟩
      rcases hv with ⟨k1, _⟩ | ⟨k1, c', o, k2, k3, k4⟩
      · rw [d] at k1; cases k1
      · have : c' = cc := by have := O.sub _ _ hcc; rw [k2] at this; exact Option.some.inj this
        subst this
        exact .inr ⟨b, c', o, hcc, k3, k4⟩
  · rcases List.mem_append.mp hp with hp | hp
    · obtain ⟨x, hx, rfl⟩ := List.mem_map.mp hp; cases o1
    · obtain ⟨x, hx, rfl⟩ := List.mem_map.mp hp; cases o1
  · show (if L = L then none else s.heap.get? L) = none
    rw [if_pos rfl]
  · obtain ⟨a1, a2, a3, a4⟩ := S.cells x c (O.sub _ _ e)
    exact ⟨a1, hc _ _ (O.sub _ _ e), a3, fun h => by cases h⟩

theorem comp_core {target iter elt : Expr} {ifs : List Expr} {scope : Scope} {pos : Pos} {cl : List (Str × Addr)} {ls : List Str} {frees : List (Str × D)} {items : List D} {f : D → Option D} {s : Shared} {Z : Zone} {E : Value → Shared → Prop} {RR : Value → Addr → Result → Shared → Prop}
    (O : CompOk C ρ scope cl ls frees) (hi : EvI C ρ target iter items) (hlen : items.length ≤ sizeLine)
    (hturn : ∀ C' : Cx, C'.G = C.G → C'.room = C.room → (∀ x ∈ ls, C'.env.kindOf x = some .local) → ∀ d ∈ items, As C' (rhoC ls frees) target d fun ρ1 => CT C' ρ1 elt (f d) ifs)
    (S : Sat C ρ Z s)
    (hRR : ∀ a L ys n s' Z' m, Grow s Z s' Z' → s.heap.get? a = none → s.heap.get? L = none → a ≠ L → s'.heap.get? a = some (listObj ys n) → Z' a = none → Z' L = none → s'.heap.Ns L m → ys.length ≤ sizeLine → Reps Z' (items.filterMap f) ys → RR (.ref a) L (.ok .next) s') :
    wpAny C.M C.A (eval iter C.env) (fun x s₁ => wpAny C.M C.A (pyIter x) (fun it s₂ => wpAny C.M C.A (newList []) (fun acc s₃ =>
      wpAny C.M C.A (newFunctionEnv scope C.env.globals cl [] C.env.qual none .none (some C.env)) (fun cenv s₄ =>
        codeAny C.M C.A (.compStart (.ListComp elt [⟨target, iter, ifs, 0⟩] scope pos) 0 it acc { cenv with scope := relabel scope C.env }) (RR acc cenv.locals) s₄) E s₃) E s₂) E s₁) E s := by
  refine hi.run s Z _ E S fun I wr St s1 Z1 it S1 g1 hf hz hlt hst => ?_
  refine wpAny_newObj_type (wpAny_newFunctionEnv O.nocell (by intro y hy; simp at hy) (fun h₁ hns₁ hsb₁ => ?_) O.kind) (by show 0 ≤ sizeLine; lia)
  dsimp only at hns₁ hsb₁ ⊢
  generalize hH2 : s1.heap.push { cls := .type "list", dict := none, data := .seq ([] : List Value).toArray } = H2 at hns₁ hsb₁ ⊢
  have hC : H2.objs.size = s1.heap.objs.size + 1 := by rw [← hH2, Heap.size_push]
  generalize hL : H2.objs.size = L at hns₁ hsb₁ ⊢
  generalize ha : s1.heap.objs.size = a at *
  have haL : a ≠ L := by lia
  have fresh1 : ∀ b, a ≤ b → s1.heap.get? b = none := fun b hb => by
    cases q : s1.heap.get? b with
    | none => rfl
    | some o => exact absurd (Heap.lt_size q) (by rw [ha]; exact Nat.not_lt.mpr hb)
  have fresh : ∀ b, a ≤ b → s.heap.get? b = none := fun b hb => by
    cases q : s.heap.get? b with
    | none => rfl
    | some o => have := g1.keep _ _ q; rw [fresh1 b hb] at this; cases this
  have hsa := fresh a (Nat.le_refl _)
  have hsL := fresh L (by lia)
  have znone : ∀ b, a ≤ b → Z1 b = none := fun b hb => by
    cases q : Z1 b with
    | none => rfl
    | some o => have := S1.zin _ _ q; rw [fresh1 b hb] at this; cases this
  have hwr : ∀ b ∈ wr, b < a := hlt
  have old : ∀ b o, s1.heap.get? b = some o → h₁.get? b = some o := fun b o e => by
    have hb : @LT.lt Nat _ b a := by rw [← ha]; exact Heap.lt_size e
    have hbL : @LT.lt Nat _ b L := by lia
    exact hsb₁.extBut b o (Nat.ne_of_lt hbL) (Heap.get?_push_of_some _ (hH2 ▸ Heap.get?_push_of_some _ e))
  have hacc : h₁.get? a = some (listObj [] 0) := hsb₁.extBut _ _ haL (Heap.get?_push_of_some _ (by rw [← hH2, ← ha]; exact Heap.get?_push_size _ rfl))
  have g2 : Grow s1 Z1 { s1 with heap := h₁, toks := s1.toks + ([] : List (Str × Value)).length } Z1 := .dropA S1.zin old
  have gs : Grow s Z { s1 with heap := h₁, toks := s1.toks + ([] : List (Str × Value)).length } Z1 := g1.trans g2
  obtain ⟨mC, hnC, _, _⟩ := S.ns
  have hLC : L ≠ C.L := fun q => by obtain ⟨o, _, _, e, _⟩ := hnC; rw [← q, hsL] at e; cases e
  have hcL : ∀ x c, C.env.cells.lookup x = some c → c ≠ L := fun x c e q => by obtain ⟨_, _, ⟨o, v, e1, _⟩, _⟩ := S.cells x c e; rw [q, hsL] at e1; cases e1
  have loop : ∀ s₃ : Shared, s₃ = { s1 with heap := h₁, toks := s1.toks + ([] : List (Str × Value)).length } →
      codeAny C.M C.A (.compLoop (.ListComp elt [⟨target, iter, ifs, 0⟩] scope pos) 0 (.ref I) (.ref a) (compEnvC scope cl L C.env)) (RR (.ref a) L) s₃ := by
    rintro s₃ rfl
    refine codeAny_compLoopL (I := fun k s' => ∃ dn ds Zc ys n m, items = dn ++ ds ∧ k = ds.length ∧ Grow s Z s' Zc ∧ St ds Zc s'.heap ∧ s'.heap.get? a = some (listObj ys n) ∧ Zc a = none ∧ Zc L = none ∧ s'.heap.Ns L m ∧ ys.length ≤ dn.length ∧ Reps Zc (dn.filterMap f) ys) ?_ items.length
      ⟨[], items, Z1, [], 0, _, rfl, rfl, gs, it.frame _ _ _ _ _ hst S1.zin g2.s g2.zin, hacc, znone a (Nat.le_refl _), znone L (by lia), hns₁, Nat.le_refl _, .nil⟩
    rintro k s2 ⟨dn, ds, Zc, ys, n, m, hit, rfl, g, hst2, hacc2, hza, hzL, hn2, hyl, hry⟩ E'
    have Sc := S.grow g
    have haw : a ∉ wr := fun q => Nat.lt_irrefl _ (hwr a q)
    have hLw : L ∉ wr := fun q => by have h9 : @LT.lt Nat _ L a := hwr L q; lia
    cases ds with
    | nil =>
      refine it.done ρ Zc s2 _ E' Sc hst2 fun s3 S3 hk => ?_
      have g3 : Grow s Z s3 Zc := ⟨fun b o e => hk b o (fun q => by rw [hf b q] at e; cases e) (g.keep b o e), g.sub, g.new, S3.zin, ⟨S3.rest.1.trans S.rest.1.symm, S3.rest.2.trans S.rest.2.symm, S3.rest.3.trans S.rest.3.symm⟩⟩
      rw [List.append_nil] at hit
      subst hit
      exact hRR a L ys n s3 Zc m g3 hsa hsL haL (hk _ _ haw hacc2) hza hzL (hn2.at' fun o e => hk L o hLw e) (by lia) hry
    | cons d ds =>
      refine wpAny_mono (it.next d ds ρ Zc s2 (fun v s₁' => wpAny C.M C.A (PySem.assign target (compEnvC scope cl L C.env) v) (fun _ s₂ =>
          wpAny C.M C.A (forIn ifs true fun c r => if r = true then do let ok ← isTrue c (compEnvC scope cl L C.env) (eval c (compEnvC scope cl L C.env)); pure (ForInStep.yield ok) else pure (ForInStep.yield r)) (fun ok s₃ =>
            if ok = true then wpAny C.M C.A (eval elt (compEnvC scope cl L C.env)) (fun x s₄ =>
              wpAny C.M C.A (PySem.call (.builtin "list.append") [.ref a, x]) (fun _ s₅ => ∃ m, m < (d :: ds).length ∧ ∃ dn ds Zc ys n m', items = dn ++ ds ∧ m = ds.length ∧ Grow s Z s₅ Zc ∧ St ds Zc s₅.heap ∧ s₅.heap.get? a = some (listObj ys n) ∧ Zc a = none ∧ Zc L = none ∧ s₅.heap.Ns L m' ∧ ys.length ≤ dn.length ∧ Reps Zc (dn.filterMap f) ys) E' s₄) E' s₃
            else ∃ m, m < (d :: ds).length ∧ ∃ dn ds Zc ys n m', items = dn ++ ds ∧ m = ds.length ∧ Grow s Z s₃ Zc ∧ St ds Zc s₃.heap ∧ s₃.heap.get? a = some (listObj ys n) ∧ Zc a = none ∧ Zc L = none ∧ s₃.heap.Ns L m' ∧ ys.length ≤ dn.length ∧ Reps Zc (dn.filterMap f) ys) E' s₂) E' s₁') E' Sc hst2 fun v s3 Z3 S3 hz3 hk3 hn3 r3 hst3 => ?_) (fun r s₁ h₁ => by obtain ⟨v, rfl, h₁⟩ := h₁; exact h₁) fun _ _ e => e
      have hnew3 : ∀ b o, s2.heap.get? b = some o → b ∉ wr → Zc b = none → Z3 b = none := fun b o e hb z => by
        cases q : Z3 b with
        | none => rfl
        | some o' => rcases hn3 _ _ q with q | q | q
                     · rw [z] at q; cases q
                     · rw [e] at q; cases q
                     · exact absurd q hb
      obtain ⟨oL, _, _, hoL, _⟩ := id hn2
      have g3 : Grow s Z s3 Z3 := ⟨fun b o e => hk3 b o (fun q => by rw [hf b q] at e; cases e) (g.keep b o e), g.sub.trans hz3, fun b o e => by
        rcases hn3 _ _ e with q | q | q
        · exact g.new _ _ q
        · right
          cases q' : s.heap.get? b with
          | none => rfl
          | some o' => rw [g.keep _ _ q'] at q; cases q
        · exact .inr (hf b q), S3.zin, ⟨S3.rest.1.trans S.rest.1.symm, S3.rest.2.trans S.rest.2.symm, S3.rest.3.trans S.rest.3.symm⟩⟩
      have hza3 := hnew3 a _ hacc2 haw hza
      have hzL3 := hnew3 L _ hoL hLw hzL
      have hacc3 := hk3 _ _ haw hacc2
      have hnL3 : s3.heap.Ns L m := hn2.at' fun o e => hk3 L o hLw e
      have S3c := comp_start O S3 hnL3 hzL3 hLC hcL
      have hdm : d ∈ items := by rw [hit]; simp
      refine (hturn (compCx C scope cl L s3 Z3) rfl rfl (fun x hx => lookup_relabel_local (O.locals x hx).2) d hdm).run s3 Z3 v _ E' S3c r3 fun ρ1 s4 Z4 hct S4 g4 => ?_
      have hBL : ∀ b, b ≠ L → (compCx C scope cl L s3 Z3).B b = s3.heap.get? b := fun b hb => by
        show (if b = L then none else s3.heap.get? b) = _
        rw [if_neg hb]
      /- what any later state of the turn keeps -/
      have after : ∀ s5 Z5, Sat (compCx C scope cl L s3 Z3) ρ1 Z5 s5 → GrowS s3 Z3 s5 Z5 → Grow s Z s5 Z5 ∧ St ds Z5 s5.heap ∧ s5.heap.get? a = some (listObj ys n) ∧ Z5 a = none ∧ Z5 L = none ∧ ∃ m', s5.heap.Ns L m' := fun s5 Z5 S5 g5 => by
        have ka : ∀ b o, s3.heap.get? b = some o → b ≠ L → s5.heap.get? b = some o := fun b o e hb => S5.keep b o ((hBL b hb).trans e)
        have hz5a : Z5 a = none := by
          cases q : Z5 a with
          | none => rfl
          | some o => rcases S5.znew _ _ q with q | q
                      · have q' : Z3 a = some o := q
                        rw [hza3] at q'; cases q'
                      · rw [hBL a haL, hacc3] at q; cases q
        obtain ⟨m5, hm5, _, _⟩ := S5.ns
        refine ⟨⟨fun b o e => ka b o (g3.keep b o e) (fun q => by rw [q, hsL] at e; cases e), g3.sub.trans g5.sub, fun b o e => ?_, S5.zin, g3.rest.trans S5.rest⟩, it.frame ds Z3 Z5 s3 s5 hst3 S3.zin g5 S5.zin, ka _ _ hacc3 haL, hz5a, S5.zL, m5, hm5⟩
        rcases S5.znew _ _ e with q | q
        · exact g3.new b o q
        · by_cases hb : b = L
          · rw [hb]; exact .inr hsL
          · right
            rw [hBL b hb] at q
            cases q' : s.heap.get? b with
            | none => rfl
            | some o' => rw [g3.keep _ _ q'] at q; cases q
      /- the element and its append -/
      have fin : ∀ y s5 Z5, Sat (compCx C scope cl L s3 Z3) ρ1 Z5 s5 → GrowS s3 Z3 s5 Z5 → f d = some y → Ev (compCx C scope cl L s3 Z3) ρ1 elt y → wpAny C.M C.A (eval elt (compEnvC scope cl L C.env)) (fun x s₄ =>
              wpAny C.M C.A (PySem.call (.builtin "list.append") [.ref a, x]) (fun _ s₅ => ∃ m, m < (d :: ds).length ∧ ∃ dn ds Zc ys n m', items = dn ++ ds ∧ m = ds.length ∧ Grow s Z s₅ Zc ∧ St ds Zc s₅.heap ∧ s₅.heap.get? a = some (listObj ys n) ∧ Zc a = none ∧ Zc L = none ∧ s₅.heap.Ns L m' ∧ ys.length ≤ dn.length ∧ Reps Zc (dn.filterMap f) ys) E' s₄) E' s5 := fun y s5 Z5 S5 g5 hfy hev => by
        refine hev.use S5 fun x s6 Z6 g6 S6 r6 => ?_
        obtain ⟨G6, st6, ha6, hza6, hzL6, m6, hm6⟩ := after s6 Z6 S6 (g5.trans g6.s)
        have hsz : ys.toArray.size ≤ sizeLine := by
          have : dn.length ≤ items.length := by rw [hit]; simp
          simp; lia
        refine call_meets F.slot_list_append ⟨_, ha6, rfl⟩ F.entry_list_append (F.args_list_append_2 _ _) (list_append a ys.toArray n x hsz) ⟨ha6, ?_⟩
        have ha' : (s6.heap.update a (Obj.mapSeq fun xs => xs.push x)).get? a = some (listObj (ys ++ [x]) (n + 1)) := by
          rw [Heap.get?_update_self _ ha6 rfl]
          simp [Obj.mapSeq]
        have hsb := Heap.SameBut.update s6.heap a (Obj.mapSeq fun xs => xs.push x)
        refine ⟨ds.length, Nat.lt_succ_self _, dn ++ [d], ds, Z6, ys ++ [x], n + 1, m6, by rw [hit]; simp, rfl, ⟨fun b o e => (hsb.2 b (fun q => by rw [q, hsa] at e; cases e)).trans (G6.keep b o e), G6.sub, G6.new, fun b o e => (hsb.2 b (fun q => by rw [q, hza6] at e; cases e)).trans (G6.zin b o e), ⟨G6.rest.1, G6.rest.2, G6.rest.3⟩⟩,
          ?_, ha', hza6, hzL6, hm6.sameBut hsb (Ne.symm haL), by simp; exact hyl, ?_⟩
        · refine it.frame ds Z6 Z6 s6 _ st6 G6.zin ⟨.refl _, fun b o vs e dd => (hsb.2 b (fun q => by rw [q, ha6] at e; cases e; exact dd.nlist)).trans e, fun _ _ _ _ _ z => z⟩ (fun b o e => (hsb.2 b (fun q => by rw [q, hza6] at e; cases e)).trans (G6.zin b o e))
        · rw [List.filterMap_append]
          refine (hry.mono (hz3.trans (g5.sub.trans g6.sub))).append ?_
          rw [show [d].filterMap f = [y] by simp [hfy]]
          exact .cons r6 .nil
      match ifs, hct with
      | [], ⟨y, hfy, hev⟩ =>
        refine wpAny_pure ?_
        rw [if_pos rfl]
        exact fin y s4 Z4 S4 g4 hfy hev
      | [c], ⟨b, htr, hb1, hb2⟩ =>
        have body : wpAny C.M C.A (do let ok ← isTrue c (compEnvC scope cl L C.env) (eval c (compEnvC scope cl L C.env)); pure (ForInStep.yield ok)) (fun r s₃ => wpAny C.M C.A (match r with | ForInStep.done x => pure x | ForInStep.yield x => pure x) (fun ok s₃ =>
            if ok = true then wpAny C.M C.A (eval elt (compEnvC scope cl L C.env)) (fun x s₄ =>
              wpAny C.M C.A (PySem.call (.builtin "list.append") [.ref a, x]) (fun _ s₅ => ∃ m, m < (d :: ds).length ∧ ∃ dn ds Zc ys n m', items = dn ++ ds ∧ m = ds.length ∧ Grow s Z s₅ Zc ∧ St ds Zc s₅.heap ∧ s₅.heap.get? a = some (listObj ys n) ∧ Zc a = none ∧ Zc L = none ∧ s₅.heap.Ns L m' ∧ ys.length ≤ dn.length ∧ Reps Zc (dn.filterMap f) ys) E' s₄) E' s₃
            else ∃ m, m < (d :: ds).length ∧ ∃ dn ds Zc ys n m', items = dn ++ ds ∧ m = ds.length ∧ Grow s Z s₃ Zc ∧ St ds Zc s₃.heap ∧ s₃.heap.get? a = some (listObj ys n) ∧ Zc a = none ∧ Zc L = none ∧ s₃.heap.Ns L m' ∧ ys.length ≤ dn.length ∧ Reps Zc (dn.filterMap f) ys) E' s₃) E' s4 := by
          refine wpAny_bind (htr.use S4 fun s5 Z5 g5 S5 => wpAny_pure (wpAny_pure ?_))
          cases b with
          | true =>
            rw [if_pos rfl]
            obtain ⟨y, hfy, hev⟩ := hb2 rfl
            exact fin y s5 Z5 S5 (g4.trans g5.s) hfy hev
          | false =>
            rw [if_neg Bool.false_ne_true]
            obtain ⟨G6, st6, ha6, hza6, hzL6, m6, hm6⟩ := after s5 Z5 S5 (g4.trans g5.s)
            refine ⟨ds.length, Nat.lt_succ_self _, dn ++ [d], ds, Z5, ys, n, m6, by rw [hit]; simp, rfl, G6, st6, ha6, hza6, hzL6, hm6, by simp; lia, ?_⟩
            rw [List.filterMap_append, show [d].filterMap f = [] by simp [hb1 rfl], List.append_nil]
            exact hry.mono (hz3.trans (g4.sub.trans g5.sub))
        rw [List.forIn_cons]
        refine wpAny_bind (wpAny_mono body (fun r s₃ h₃ => ?_) fun _ _ e => e)
        cases r with
        | done x => exact h₃
        | yield x => exact h₃
  exact codeAny_compStart_list (loop _ rfl) (it.self items Z1 _ _ _ (it.frame _ _ _ _ _ hst S1.zin g2.s g2.zin) (loop _ rfl))
end
end Mine
namespace Mine

noncomputable def plainT : Expr → Bool
  | .Starred .. => false
  | _ => true

theorem assignEach_plain {env : Env} : ∀ {es : List Expr}, es.all plainT = true → (assignEach es env).length = es.length ∧ (assignEach es env).findIdx? (·.1) = none ∧ (assignEach es env).map (·.2) = es.map fun e => assign e env
  | [], _ => ⟨rfl, rfl, rfl⟩
  | e :: es, h => by
    rw [List.all_cons, Bool.and_eq_true] at h
    have hn : assignEach (e :: es) env = (false, assign e env) :: assignEach es env := by
      cases e with
      | Starred x p => cases h.1
      | _ => rfl
    obtain ⟨a, b, c⟩ := assignEach_plain (env := env) h.2
    rw [hn]
    refine ⟨by simp [a], ?_, by simp [c]⟩
    rw [List.findIdx?_cons]
    simp [b]

section
variable {C : Cx} {ρ ρ' : Rho} {R : Out → Rho → Prop}

/-! targets one by one -/
noncomputable def AsL (C : Cx) (K : Rho → Prop) : List Expr → List D → Rho → Prop
  | [], [], ρ => K ρ
  | e :: es, d :: ds, ρ => As C ρ e d fun ρ1 => AsL C K es ds ρ1
  | _, _, _ => False

theorem AsL.run {K : Rho → Prop} {E : Value → Shared → Prop} : ∀ {es : List Expr} {ds : List D} {ρ : Rho} {s : Shared} {Z : Zone} {vs : List Value} {Q : Unit → Shared → Prop}, AsL C K es ds ρ → Sat C ρ Z s → Reps Z ds vs →
    (∀ ρ' s' Z', K ρ' → Sat C ρ' Z' s' → GrowS s Z s' Z' → Q () s') → wpAny C.M C.A (assignInOrder (es.map fun e => assign e C.env) vs) Q E s
  | [], [], ρ, s, Z, vs, Q, h, S, r, k => by
    obtain rfl := reps_nil.mp r
    exact wpAny_pure (k ρ s Z h S (.refl _ _))
  | [], _ :: _, _, _, _, _, _, h, _, _, _ => h.elim
  | _ :: _, [], _, _, _, _, _, h, _, _, _ => h.elim
  | e :: es, d :: ds, ρ, s, Z, vs, Q, h, S, r, k => by
    obtain ⟨v, vs, rfl, r1, r2⟩ := reps_cons.mp r
    rw [AsL] at h
    show wpAny C.M C.A (do holding vs (assign e C.env v); assignInOrder (es.map fun e => assign e C.env) vs) Q E s
    refine wpAny_bind (wpAny_holding (h.run s Z v _ E S r1 fun ρ1 s1 Z1 h1 S1 g1 => ?_))
    exact AsL.run h1 S1 (r2.mono g1.sub) fun ρ2 s2 Z2 h2 S2 g2 => k ρ2 s2 Z2 h2 S2 (g1.trans g2)

theorem As.tup {es : List Expr} {k : Nat} {p : Pos} {ds : List D} {K : Rho → Prop} (h : AsL C K es ds ρ) (hp : es.all plainT = true) (hl : es.length = ds.length) : As C ρ (.Tuple es k p) (.tup ds) K := by
  refine ⟨fun s Z v Q E S r kk => ?_⟩
  obtain ⟨a, vs, n, rfl, za, la, ra⟩ := rep_tup.mp r
  obtain ⟨e1, e2, e3⟩ := assignEach_plain (env := C.env) hp
  have el := ra.length
  refine wpAny_assign_Tuple S.cx.handled ⟨_, S.zin _ _ za, rfl, n, rfl⟩ (by rw [e1]; simp; lia) e2 fun h' he => ?_
  rw [e3]
  have g : Grow s Z { s with heap := h', toks := s.toks } Z := .dropA S.zin fun b o e => he b o (fun q => by rw [q, get?_size] at e; cases e) e
  exact AsL.run h (S.grow g) ra fun ρ2 s2 Z2 h2 S2 g2 => kk ρ2 s2 Z2 h2 S2 (g.s.trans g2)

/-- a, b = e, where e is no display -/
theorem Ex.unpack {es : List Expr} {k : Nat} {tp p : Pos} {e : Expr} {ds : List D} (he : Ev C ρ e (.tup ds)) (h : AsL C (fun ρ' => R .next ρ') es ds ρ) (hp : es.all plainT = true) (hl : es.length = ds.length)
    (hs : swapsWithSole [.Tuple es k tp] e p.line C.env = pure false := by rfl) (hw : swappedStores [.Tuple es k tp] e C.env = pure none := by rfl) : Ex C ρ (.Assign [.Tuple es k tp] e p) R := by
  refine ⟨fun s Z Q E S kk => ?_⟩
  refine Assign_Tuple (he.use S fun v s1 Z1 g1 S1 r1 => ?_) hs hw
  exact (As.tup h hp hl).run s1 Z1 v _ E S1 r1 fun ρ2 s2 Z2 h2 S2 g2 => kk .next ρ2 s2 Z2 _ h2 S2 (g1.s.trans g2) rfl

/-! comprehensions -/
theorem EvO.comp {target iter elt : Expr} {ifs : List Expr} {scope : Scope} {pos : Pos} {cl : List (Str × Addr)} {ls : List Str} {frees : List (Str × D)} {items : List D} {f : D → Option D}
    (O : CompOk C ρ scope cl ls frees) (hi : EvI C ρ target iter items) (hlen : items.length ≤ sizeLine)
    (hturn : ∀ C' : Cx, C'.G = C.G → C'.room = C.room → (∀ x ∈ ls, C'.env.kindOf x = some .local) → ∀ d ∈ items, As C' (rhoC ls frees) target d fun ρ1 => CT C' ρ1 elt (f d) ifs)
    (hs : ∀ x, foldedSetIterable iter C.env x = pure x := by intro _; rfl) : EvO C ρ (.ListComp elt [⟨target, iter, ifs, 0⟩] scope pos) (items.filterMap f) := by
  refine ⟨fun s Z Q E S k => ?_⟩
  rw [eval_ListComp]
  refine wpAny_comprehension_free (use := none) rfl hs O.clos O.kind O.names ?_
  refine comp_core (RR := fun acc L => compPost C.M C.A E none Q acc L) O hi hlen hturn S fun a L ys n s' Z' m g ha hL haL h1 h2 h3 hn hl hr => ?_
  refine ⟨m, hn, fun h' hs' => ?_⟩
  refine k a ys n _ Z' ⟨fun b o e => (hs'.2 b (fun q => by rw [q, hL] at e; cases e)).trans (g.keep b o e), g.sub, g.new, fun b o e => (hs'.2 b (fun q => by rw [q, h3] at e; cases e)).trans (g.zin b o e), ⟨g.rest.1, g.rest.2, g.rest.3⟩⟩ ha ((hs'.2 a haL).trans h1) h2 hl hr

/-- a write at an address that is none of the frame's -/
theorem Sat.sameBut {s : Shared} {Z : Zone} {w : Addr} {h' : Heap} {o : Obj} {es : Array DictEntry} {ep : Nat} (S : Sat C ρ Z s) (hs : Heap.SameBut w s.heap h') (ho : s.heap.get? w = some o) (hd : o.data = .dict es ep) (hL : w ≠ C.L) (hZ : Z w = none) (hB : C.B w = none)
    (hown : ∀ p ∈ ρ, match p.2 with | .ownd _ => False | .oinst .. => False | _ => True) : Sat C ρ Z { s with heap := h' } := by
  obtain ⟨m, hn, he, hap⟩ := S.ns
  have hcell : ∀ y c, C.env.cells.lookup y = some c → c ≠ w := fun y c hc q => by
    obtain ⟨a1, a2, ⟨o', v', a3, a4⟩, a5⟩ := S.cells y c hc
    rw [q, ho] at a3; cases a3; rw [hd] at a4; cases a4
  have hvar : ∀ y v, VarIs C.env s.heap m y v → VarIs C.env h' m y v := fun y v q => q.imp id fun ⟨a', c, o, b, e, d⟩ => ⟨a', c, o, b, (hs.2 _ (hcell _ _ b)).trans e, d⟩
  have hvar' : ∀ y v, VarIs C.env h' m y v → VarIs C.env s.heap m y v := fun y v q => q.imp id fun ⟨a', c, o, b, e, d⟩ => ⟨a', c, o, b, (hs.2 _ (hcell _ _ b)).symm.trans e, d⟩
  refine ⟨S.cx, S.nodup, ⟨m, hn.sameBut hs (Ne.symm hL), fun p hp => ?_, fun p hp q hq o1 o2 b v1 v2 => hap p hp q hq o1 o2 b (hvar' _ _ v1) (hvar' _ _ v2)⟩, fun b o e => (hs.2 b (fun q => by rw [q, hB] at e; cases e)).trans (S.keep b o e), S.bL, S.z0,
    fun b o e => (hs.2 b (fun q => by rw [q, hZ] at e; cases e)).trans (S.zin b o e), S.zL, S.znew, fun y c hc => ?_, S.cinj, ⟨S.rest.1, S.rest.2, S.rest.3⟩⟩
  · have hk := he p hp
    have hk' := hown p hp
    obtain ⟨y, e⟩ := p
    cases e with
    | unset => exact hk
    | val d => obtain ⟨w, v, hv, hr⟩ := hk; exact ⟨w, v, hvar _ _ hv, hr⟩
    | own ys => obtain ⟨w', b, us, n', hv', k1, k2⟩ := hk; exact ⟨w', b, us, n', hvar _ _ hv', (hs.2 _ (fun q => by rw [q, ho] at k1; cases k1; cases hd)).trans k1, k2⟩
    | ownd ys => exact hk'.elim
    | oinst a0 K ns ds => exact hk'.elim
    | glob v => exact hk
  · obtain ⟨a1, a2, ⟨o, v', a3, a4⟩, a5⟩ := S.cells y c hc
    exact ⟨a1, a2, ⟨o, v', (hs.2 _ (hcell _ _ hc)).trans a3, a4⟩, a5⟩

/-- x = [comprehension], x a local name -/
theorem Ex.assignComp {x : Str} {px spos : Pos} {target iter elt : Expr} {ifs : List Expr} {scope : Scope} {pos : Pos} {cl : List (Str × Addr)} {ls : List Str} {frees : List (Str × D)} {items : List D} {f : D → Option D}
    (O : CompOk C ρ scope cl ls frees) (hi : EvI C ρ target iter items) (hlen : items.length ≤ sizeLine)
    (hturn : ∀ C' : Cx, C'.G = C.G → C'.room = C.room → (∀ x ∈ ls, C'.env.kindOf x = some .local) → ∀ d ∈ items, As C' (rhoC ls frees) target d fun ρ1 => CT C' ρ1 elt (f d) ifs)
    (hsw : swapsWith (.ListComp elt [⟨target, iter, ifs, 0⟩] scope pos) (some (.Name x px)) spos.line C.env = pure true)
    (hp : Put ρ x (.val (.list (items.filterMap f))) ρ') (hx : C.env.kindOf x = some .local) (hown : ∀ p ∈ ρ', match p.2 with | .ownd _ => False | .oinst .. => False | _ => True) (r : R .next ρ')
    (hs : ∀ x, foldedSetIterable iter C.env x = pure x := by intro _; rfl) : Ex C ρ (.Assign [.Name x px] (.ListComp elt [⟨target, iter, ifs, 0⟩] scope pos) spos) R := by
  refine ⟨fun s Z Q E S k => ?_⟩
  rw [exec_Assign_Name_used _ _ _ _ hsw]
  refine wpAny_bind (wpAny_standAt (wpAny_bind ?_))
  show wpAny _ C.A (do let _ ← comprehension (.ListComp elt [⟨target, iter, ifs, 0⟩] scope pos) scope C.env _ (newList []) false (eval iter C.env) (some (PySem.assign (.Name x px) C.env))) _ _ s
  refine wpAny_bind (wpAny_mono (wpAny_comprehension_free (use := some (PySem.assign (.Name x px) C.env)) (Q := fun _ s' => Q .next s') rfl hs O.clos O.kind O.names ?_) (fun _ s' hq => wpAny_pure (wpAny_pure hq)) fun _ _ e => e)
  refine comp_core (RR := fun acc L => compPost C.M C.A E (some (PySem.assign (.Name x px) C.env)) (fun _ s' => Q .next s') acc L) O hi hlen hturn S fun a L ys n s' Z' m g ha hL haL h1 h2 h3 hn hl hr => ?_
  show wpAny _ C.A (PySem.assign (.Name x px) C.env (.ref a)) _ _ _
  have gz : Grow s Z s' (Z'.put a (listObj ys n)) := g.freeze ha h1 h2
  have S' := S.grow gz
  have hzL : (Z'.put a (listObj ys n)) L = none := by unfold Zone.put; rw [if_neg (Ne.symm haL)]; exact h3
  obtain ⟨mC, hnC, _, _⟩ := S'.ns
  have hLC : L ≠ C.L := fun q => by
    obtain ⟨m0, hn0, _, _⟩ := S.ns
    obtain ⟨o, _, _, e, _⟩ := hn0; rw [← q, hL] at e; cases e
  have hBL := S.b_none hL
  refine wpAny_assign_Name (S'.storeK hp (.inr hx) (show EntNew C (Z'.put a (listObj ys n)) s'.heap (.ref a) (.val (.list (items.filterMap f))) from rep_list.mpr ⟨a, ys, n, rfl, Zone.put_same _ _ _, hl, hr.mono (Zone.put_sub h2)⟩) (fun h => by cases h) fun s2 S2 g2 hk2 => ?_)
  obtain ⟨oL, esL, epL, e1, e2, e3⟩ := id hn
  have hkL : ∀ o, s'.heap.get? L = some o → s2.heap.get? L = some o := fun o e => hk2 L o hLC (fun y c hc q => by obtain ⟨_, _, ⟨o', v', q1, _⟩, _⟩ := S.cells y c hc; rw [← q, hL] at q1; cases q1) e
  refine ⟨m, hn.at' hkL, fun h' hs' => ?_⟩
  have S3 := S2.sameBut hs' (hkL _ e1) e2 hLC hzL hBL hown
  refine k .next ρ' _ _ _ r S3 ?_ rfl
  refine (gz.s.trans g2).trans ⟨.refl _, fun b o vs e d => (hs'.2 b (fun q => by rw [q, hkL _ e1] at e; cases e; exact d.ndict e2)).trans e, fun _ _ _ _ _ z => z⟩
end
end Mine
namespace Mine

mutual
noncomputable def toP : D → PyData
  | .none => .none
  | .bool b => .bool b
  | .int i => .int i
  | .str l => .str (st l)
  | .list xs => .list (toPs xs)
  | .tup xs => .tuple (toPs xs)
  | .dict _ _ => .dict []
  | .inst .. => .dict []
noncomputable def toPs : List D → List PyData
  | [] => []
  | x :: xs => toP x :: toPs xs
end

mutual
/-- data that == looks into; n floors -/
noncomputable def flat : Nat → D → Bool
  | _, .none => true
  | _, .bool _ => true
  | _, .int _ => true
  | _, .str l => l.all (· < 0x110000)
  | n + 1, .list xs => flats n xs
  | n + 1, .tup xs => flats n xs
  | _, _ => false
noncomputable def flats : Nat → List D → Bool
  | _, [] => true
  | n, x :: xs => flat n x && flats n xs
end

theorem flats_all {n : Nat} : ∀ {xs : List D}, flats n xs = xs.all (flat n)
  | [] => by simp [flats]
  | x :: xs => by rw [flats, List.all_cons, flats_all]

mutual
theorem reads_of {Z : Zone} {h : Heap} (hz : ∀ a o, Z a = some o → h.get? a = some o) : ∀ {n : Nat} {d : D} {v : Value}, Rep Z d v → flat n d = true → ∃ as, PySem.Reads h v (toP d) as
  | n, .none, v, r, _ => by rw [rep_none.mp r, toP]; exact ⟨_, .none⟩
  | n, .bool b, v, r, _ => by rw [rep_bool.mp r, toP]; exact ⟨_, .bool b⟩
  | n, .int i, v, r, _ => by obtain ⟨t, rfl⟩ := rep_int.mp r; rw [toP]; exact ⟨_, .int i t⟩
  | n, .str l, v, r, _ => by obtain ⟨_, t, rfl⟩ := rep_str.mp r; rw [toP]; exact ⟨_, .str _ t⟩
  | n + 1, .list xs, v, r, hf => by
    obtain ⟨a, vs, k, rfl, za, la, ra⟩ := rep_list.mp r
    rw [flat] at hf
    obtain ⟨as, q⟩ := readsAll_of hz ra hf
    rw [toP]
    exact ⟨_, .list (hz _ _ za) rfl rfl (by simpa using q)⟩
  | n + 1, .tup xs, v, r, hf => by
    obtain ⟨a, vs, k, rfl, za, la, ra⟩ := rep_tup.mp r
    rw [flat] at hf
    obtain ⟨as, q⟩ := readsAll_of hz ra hf
    rw [toP]
    exact ⟨_, .tuple (hz _ _ za) rfl rfl (by simpa using q)⟩
  | 0, .list _, _, _, hf => by simp [flat] at hf
  | 0, .tup _, _, _, hf => by simp [flat] at hf
  | n, .dict _ _, _, _, hf => by cases n <;> simp [flat] at hf
  | n, .inst .., _, _, hf => by cases n <;> simp [flat] at hf
theorem readsAll_of {Z : Zone} {h : Heap} (hz : ∀ a o, Z a = some o → h.get? a = some o) : ∀ {n : Nat} {ds : List D} {vs : List Value}, Reps Z ds vs → flats n ds = true → ∃ as, PySem.ReadsAll h vs (toPs ds) as
  | n, [], vs, r, _ => by rw [reps_nil.mp r, toPs]; exact ⟨_, .nil⟩
  | n, d :: ds, vs, r, hf => by
    obtain ⟨v, vs, rfl, r1, r2⟩ := reps_cons.mp r
    rw [flats, Bool.and_eq_true] at hf
    obtain ⟨as, q⟩ := reads_of hz r1 hf.1
    obtain ⟨bs, p⟩ := readsAll_of hz r2 hf.2
    rw [toPs]
    exact ⟨_, .cons q p⟩
end

mutual
theorem lay_of : ∀ {n : Nat} {d : D}, flat n d = true → (toP d).canLay0 = true ∧ (toP d).depth ≤ n
  | n, .none, _ => by rw [toP]; exact ⟨rfl, Nat.zero_le _⟩
  | n, .bool b, _ => by rw [toP]; exact ⟨rfl, Nat.zero_le _⟩
  | n, .int i, _ => by rw [toP]; exact ⟨rfl, Nat.zero_le _⟩
  | n, .str l, h => by
    rw [toP]
    refine ⟨?_, Nat.zero_le _⟩
    show PyData.strOk (st l) = true
    unfold PyData.strOk
    cases n <;> (rw [flat] at h; simpa using h)
  | n + 1, .list xs, h => by rw [flat] at h; rw [toP]; obtain ⟨a, b⟩ := layAll_of h; exact ⟨a, Nat.succ_le_succ b⟩
  | n + 1, .tup xs, h => by rw [flat] at h; rw [toP]; obtain ⟨a, b⟩ := layAll_of h; exact ⟨a, Nat.succ_le_succ b⟩
  | 0, .list _, hf => by simp [flat] at hf
  | 0, .tup _, hf => by simp [flat] at hf
  | n, .dict _ _, hf => by cases n <;> simp [flat] at hf
  | n, .inst .., hf => by cases n <;> simp [flat] at hf
theorem layAll_of : ∀ {n : Nat} {ds : List D}, flats n ds = true → PyData.canLayAll0 (toPs ds) = true ∧ PyData.depthAll (toPs ds) ≤ n
  | n, [], _ => by rw [toPs]; exact ⟨rfl, Nat.zero_le _⟩
  | n, d :: ds, h => by
    rw [flats, Bool.and_eq_true] at h
    obtain ⟨a, b⟩ := lay_of h.1
    obtain ⟨c, e⟩ := layAll_of h.2
    rw [toPs]
    refine ⟨?_, ?_⟩
    · show (_ && _) = true; rw [a, c]; rfl
    · show max _ _ ≤ n; lia
end

section
variable {C : Cx} {ρ ρ' : Rho} {R : Out → Rho → Prop}

theorem shaped_of {n : Nat} {d : D} (hn : n ≤ 64) (h : flat n d = true) : SeqAt.shaped (toP d) = true := by
  obtain ⟨a, b⟩ := lay_of h
  unfold SeqAt.shaped
  rw [a, decide_eq_true (by lia)]; rfl

theorem Op2.eqD {n m : Nat} {d1 d2 : D} (h1 : flat n d1 = true) (h2 : flat m d2 = true) (hn : n ≤ 64 := by decide) (hm : m ≤ 64 := by decide) : Op2 C (compareOp .Eq) d1 d2 (.bool (PyData.eqv (toP d1) (toP d2))) := by
  refine ⟨fun s Z v1 v2 Q E cx z r1 r2 k => ?_⟩
  obtain ⟨as, q1⟩ := reads_of z.zin r1 h1
  obtain ⟨bs, q2⟩ := reads_of z.zin r2 h2
  have hu := cx.units
  exact SeqAt.compareEq_shaped q1 q2 (shaped_of hn h1) (shaped_of hm h2) (by lia) (k _ _ Z (.refl z.zin) (rep_bool.mpr rfl))
theorem Op2.neD {n m : Nat} {d1 d2 : D} (h1 : flat n d1 = true) (h2 : flat m d2 = true) (hn : n ≤ 64 := by decide) (hm : m ≤ 64 := by decide) : Op2 C (compareOp .NotEq) d1 d2 (.bool (!PyData.eqv (toP d1) (toP d2))) := by
  refine ⟨fun s Z v1 v2 Q E cx z r1 r2 k => ?_⟩
  obtain ⟨as, q1⟩ := reads_of z.zin r1 h1
  obtain ⟨bs, q2⟩ := reads_of z.zin r2 h2
  have hu := cx.units
  exact SeqAt.compareNe_shaped q1 q2 (shaped_of hn h1) (shaped_of hm h2) (by lia) (k _ _ Z (.refl z.zin) (rep_bool.mpr rfl))

theorem Op2.isBool {a b : Bool} : Op2 C (compareOp .Is) (.bool a) (.bool b) (.bool (a == b)) := by
  refine ⟨fun s Z v1 v2 Q E cx z r1 r2 k => ?_⟩
  rw [rep_bool.mp r1, rep_bool.mp r2]
  exact PyProof.Rows.is_bool (k _ _ Z (.refl z.zin) (rep_bool.mpr rfl))
theorem Op2.isNotBool {a b : Bool} : Op2 C (compareOp .IsNot) (.bool a) (.bool b) (.bool (a != b)) := by
  refine ⟨fun s Z v1 v2 Q E cx z r1 r2 k => ?_⟩
  rw [rep_bool.mp r1, rep_bool.mp r2]
  exact PyProof.Rows.isnot_bool (k _ _ Z (.refl z.zin) (rep_bool.mpr rfl))

theorem Op2.inInts {i : Int} {ns : List Int} : Op2 C (compareOp .In) (.int i) (.list (ns.map .int)) (.bool (ns.contains i)) := by
  refine ⟨fun s Z v1 v2 Q E cx z r1 r2 k => ?_⟩
  obtain ⟨t, rfl⟩ := rep_int.mp r1
  obtain ⟨a, vs, n, rfl, za, la, ra⟩ := rep_list.mp r2
  have hi := reps_ints ra
  let e : Value → Bool := fun y => match y with | .int j _ => j == i | _ => false
  have key : ∀ {vs : List Value} {ns : List Int}, IntsAre vs ns → (vs.any e = ns.contains i) ∧ ∀ y ∈ vs, ∃ j u, y = .int j u := by
    intro vs ns h
    induction h with
    | nil => exact ⟨rfl, fun _ h => by cases h⟩
    | cons n t h ih =>
      refine ⟨?_, fun y hy => (List.mem_cons.mp hy).elim (fun e => ⟨n, t, e⟩) (ih.2 y)⟩
      rw [List.any_cons, ih.1, List.contains_cons]
      congr 1
      show (n == i) = (i == n)
      exact Bool.beq_comm
  obtain ⟨k1, k2⟩ := key hi
  refine SeqAt.in_listAt e (isList_of (z.zin _ _ za)) (fun y hy => ?_) ?_
  · obtain ⟨j, u, rfl⟩ := k2 y (by simpa using hy)
    exact SeqAt.EqAt.int_int j u i t
  · have : (vs.toArray.any e) = ns.contains i := by rw [← k1]; simp
    rw [this]
    exact k _ _ Z (.refl z.zin) (rep_bool.mpr rfl)

theorem Tr.str {x : Str} {p : Pos} {l : List Nat} (h : Ev C ρ (.Name x p) (.str l)) : Tr C ρ (.Name x p) (!l.isEmpty) := by
  refine ⟨fun s Z Q E S k => ?_⟩
  refine wpAny_isTrue_value (h.use S fun v1 s1 Z1 g1 S1 r1 => ?_)
  obtain ⟨hl, t, rfl⟩ := rep_str.mp r1
  have hs := sizeLine_lt
  refine P.truthy_str (by rw [st_length]; lia) ?_
  have e : (((st l).length : Int) != 0) = !l.isEmpty := by
    rw [st_length]
    cases l with
    | nil => rfl
    | cons a b => simp; lia
  rw [e]
  exact k _ Z1 (g1.trans (.tokA S1.zin))

theorem Ev.sum {x : Str} {xp pos : Pos} {e : Expr} {ns : List Int} (hm : (x, Ent.glob (.builtin "sum")) ∈ ρ) (h : Ev C ρ e (.list (ns.map .int))) (hn : ∀ x p, e ≠ .Starred x p := by intro _ _ h; cases h) : Ev C ρ (.Call (.Name x xp) [e] [] pos) (.int ns.sum) := by
  refine Ev.callB hm rfl (.cons h .nil hn) fun s Z vs Q E cx z r k => ?_
  obtain ⟨v, rfl, r1⟩ := reps1 r
  obtain ⟨a, vs, n, rfl, za, la, ra⟩ := rep_list.mp r1
  have hi := reps_ints ra
  obtain ⟨xs, hx⟩ := hi.allInts.items
  have hL := isList_of (z.zin _ _ za)
  rw [hx] at hL
  refine sum_intListG cx.handled hL fun h' tk t' hk => k _ _ Z (.dropA z.zin hk) (rep_int.mpr ⟨t', ?_⟩)
  rw [preSum_eq, List.take_of_length_le (by simp), ← nums_intItems, ← hx, show vs.toArray.toList = vs from rfl, hi.numsOf]

theorem Ex.assign2 {x y : Str} {e : Expr} {p1 p2 p : Pos} {d : D} {ρ1 : Rho} (h : Ev C ρ e d) (hp : Put ρ x (.val d) ρ1) (hp2 : Put ρ1 y (.val d) ρ') (hw : C.wr = true) (r : R .next ρ') : Ex C ρ (.Assign [.Name x p1, .Name y p2] e p) R := by
  refine ⟨fun s Z Q E S k => ?_⟩
  refine wpAny_Assign_two (h.use S fun v s1 Z1 g1 S1 rv => wpAny_assign_Name (S1.store_val hp (.inl hw) rv fun s2 S2 g2 => wpAny_assign_Name (S2.store_val hp2 (.inl hw) rv fun s3 S3 g3 => ?_)))
  exact k .next ρ' s3 Z1 _ r S3 ((g1.s.trans g2).trans g3) rfl
theorem Ex.assign3 {x y z : Str} {e : Expr} {p1 p2 p3 p : Pos} {d : D} {ρ1 ρ2 : Rho} (h : Ev C ρ e d) (hp : Put ρ x (.val d) ρ1) (hp2 : Put ρ1 y (.val d) ρ2) (hp3 : Put ρ2 z (.val d) ρ') (hw : C.wr = true) (r : R .next ρ') : Ex C ρ (.Assign [.Name x p1, .Name y p2, .Name z p3] e p) R := by
  refine ⟨fun s Z Q E S k => ?_⟩
  refine wpAny_Assign_three (h.use S fun v s1 Z1 g1 S1 rv => wpAny_assign_Name (S1.store_val hp (.inl hw) rv fun s2 S2 g2 => wpAny_assign_Name (S2.store_val hp2 (.inl hw) rv fun s3 S3 g3 => wpAny_assign_Name (S3.store_val hp3 (.inl hw) rv fun s4 S4 g4 => ?_))))
  exact k .next ρ' s4 Z1 _ r S4 (((g1.s.trans g2).trans g3).trans g4) rfl
end
end Mine
namespace Mine
section
variable {C : Cx} {ρ ρ' : Rho} {R : Out → Rho → Prop}

/-- the dict's store, plainly -/
noncomputable def storedD (kvs : List (List Nat × List Nat)) (k v : List Nat) : List (List Nat × List Nat) :=
  if kvs.any (fun kv => kv.1 = k) then kvs.map (fun kv => if kv.1 = k then (kv.1, v) else kv) else kvs ++ [(k, v)]

inductive VR : List (Str × Value) → List (List Nat × List Nat) → Prop where
  | nil : VR [] []
  | cons {k v : List Nat} {u : Tok} {es kvs} : k.length ≤ sizeLine → v.length ≤ sizeLine → VR es kvs → VR ((st k, .str (st v) u) :: es) ((k, v) :: kvs)

theorem st_inj {a b : List Nat} : st a = st b ↔ a = b := by
  constructor
  · intro h; have := congrArg (fun s : Str => s.cps.toList) h; simpa using this
  · intro h; rw [h]

theorem DRep0.pairs {prog : Program} {w : World} {es : List DictEntry} {kvs : List (List Nat × List Nat)} (h : DRep0 w es kvs) : ∃ ps, Pairs (strKind prog w) es ps ∧ VR ps kvs ∧ (∀ e ∈ es, ∃ k, (strKind prog w).is k e.key = true ∧ e.hash = (strKind prog w).hash k) := by
  induction h with
  | nil => exact ⟨[], .nil, .nil, fun _ h => by cases h⟩
  | cons h1 h2 _ ih =>
    obtain ⟨ps, p1, p2, p3⟩ := ih
    refine ⟨_, .cons (kv := (_, _)) (strKind_is _ _ _ _) rfl p1, .cons h1 h2 p2, fun e he => ?_⟩
    rcases List.mem_cons.mp he with rfl | he
    · exact ⟨_, strKind_is _ _ _ _, rfl⟩
    · exact p3 e he
theorem VR.keys {ps : List (Str × Value)} {kvs : List (List Nat × List Nat)} (h : VR ps kvs) : ps.map (·.1) = kvs.map (fun kv => st kv.1) := by
  induction h with
  | nil => rfl
  | cons _ _ _ ih => simp [ih]
theorem VR.length {ps : List (Str × Value)} {kvs : List (List Nat × List Nat)} (h : VR ps kvs) : ps.length = kvs.length := by
  induction h with
  | nil => rfl
  | cons _ _ _ ih => simp [ih]
theorem VR.nodup {ps : List (Str × Value)} {kvs : List (List Nat × List Nat)} (h : VR ps kvs) : (ps.map (·.1)).Nodup ↔ (kvs.map (·.1)).Nodup := by
  rw [h.keys]
  have : kvs.map (fun kv => st kv.1) = (kvs.map (·.1)).map st := by simp
  rw [this]
  unfold List.Nodup
  rw [List.pairwise_map]
  simp only [ne_eq, st_inj]
theorem DRep0.of {prog : Program} {w : World} {es : List DictEntry} {ps : List (Str × Value)} {kvs : List (List Nat × List Nat)} (hp : Pairs (strKind prog w) es ps) (hv : VR ps kvs) (hk : ∀ e ∈ es, ∃ k, (strKind prog w).is k e.key = true ∧ e.hash = (strKind prog w).hash k) : DRep0 w es kvs := by
  induction hp generalizing kvs with
  | nil => cases hv; exact .nil
  | @cons e kv es ps h1 h2 _ ih =>
    cases hv with
    | cons l1 l2 hv =>
      obtain ⟨k, q1, q2⟩ := hk e (List.mem_cons_self ..)
      have := (strKind prog w).inj _ _ _ q1 h1
      subst this
      obtain ⟨t, ht⟩ := Value.isStrOf_shape h1
      obtain ⟨hh, key, val⟩ := e
      simp only at ht h2 q2
      subst ht; subst h2; subst q2
      exact .cons l1 l2 (ih hv fun e he => hk e (List.mem_cons_of_mem _ he))
theorem VR.stored {ps : List (Str × Value)} {kvs : List (List Nat × List Nat)} (h : VR ps kvs) {k v : List Nat} {u : Tok} (lk : k.length ≤ sizeLine) (lv : v.length ≤ sizeLine) : VR (PySem.stored ps (st k) (.str (st v) u)) (storedD kvs k v) := by
  have hany : (ps.any fun kv => decide (kv.1 = st k)) = kvs.any fun kv => decide (kv.1 = k) := by
    induction h with
    | nil => rfl
    | cons _ _ _ ih => simp only [List.any_cons, ih, st_inj]
  unfold PySem.stored storedD
  rw [hany]
  split
  · rename_i hq; clear hq hany
    induction h with
    | nil => exact .nil
    | @cons k' v' u' es kvs a b _ ih =>
      simp only [List.map_cons]
      by_cases hk : k' = k
      · subst hk; simp only [if_pos]; exact .cons a lv ih
      · rw [if_neg (fun e => hk (st_inj.mp e)), if_neg hk]; exact .cons a b ih
  · rename_i hq; clear hq hany
    induction h with
    | nil => exact .cons lk lv .nil
    | cons a b _ ih => exact .cons a b ih

theorem exact_dictOf {o : Obj} {es : Array DictEntry} {ep : Nat} (h : o.ExactDict) (hd : o.data = .dict es ep) : o = dictOf es.toList ep := by
  obtain ⟨c, d, dt, sl⟩ := o
  obtain ⟨h1, h2, h3⟩ := h
  simp only at h1 h2 h3 hd
  subst h1; subst h2; subst h3; subst hd
  simp [dictOf]

theorem dictAt_of {h : Heap} {a : Addr} {es : List DictEntry} {n : Nat} {prog : Program} {w : World} {kvs : List (List Nat × List Nat)} (ha : h.get? a = some (dictOf es n)) (hd : DRep w es kvs) :
    ∃ ps, h.DictAt (strKind prog w) a ps n ∧ VR ps kvs := by
  obtain ⟨ps, p1, p2, p3⟩ := hd.1.pairs (prog := prog)
  refine ⟨ps, ⟨_, es.toArray, ha, ⟨rfl, rfl, rfl⟩, rfl, fun e he => p3 e (by simpa using he), by simpa using p1, p2.nodup.mpr hd.2⟩, p2⟩

theorem dictOf_back {h : Heap} {a : Addr} {prog : Program} {w : World} {ps : List (Str × Value)} {kvs : List (List Nat × List Nat)} (hd : h.DictOf (strKind prog w) a ps) (hv : VR ps kvs) : ∃ es n, h.get? a = some (dictOf es n) ∧ DRep w es kvs ∧ es.length = kvs.length := by
  obtain ⟨o, es, ep, h1, h2, h3, h4, h5, h6⟩ := hd
  refine ⟨es.toList, ep, by rw [← exact_dictOf h2 h3]; exact h1, ⟨.of h5 hv (fun e he => h4 e (by simpa using he)), hv.nodup.mp h6⟩, ?_⟩
  rw [h5.length, hv.length]

/-- one write into an own dict -/
theorem Sat.wroteD {x : Str} {kvs kvs' : List (List Nat × List Nat)} {s : Shared} {Z : Zone} {a : Addr} {es : List DictEntry} {n : Nat} {h' : Heap} {es' : List DictEntry} {n' : Nat} {tk : Nat} {m : Str → Option Value} (S : Sat C ρ Z s) (hm : (x, Ent.ownd kvs) ∈ ρ) (hp : Put ρ x (.ownd kvs') ρ')
    (hno : ∀ p ∈ ρ, match p.2 with | .oinst .. => False | _ => True) (hn : s.heap.Ns C.L m) (hv : VarIs C.env s.heap m x (.ref a)) (ha : s.heap.get? a = some (dictOf es n)) (hz : Z a = none) (hb : C.B a = none) (haL : a ≠ C.L) (hs : Heap.SameBut a s.heap h')
    (ha' : h'.get? a = some (dictOf es' n')) (hl : es'.length ≤ sizeLine) (hr : DRep C.G.w es' kvs') (hsm : (a == sysModules) = false) :
    Sat C ρ' Z { s with heap := h', toks := tk } ∧ GrowS s Z { s with heap := h', toks := tk } Z := by
  obtain ⟨m0, hn0, he, hap⟩ := S.ns
  have hmm : m = m0 := by
    obtain ⟨o, es, ep, h1, h2, _, h3⟩ := hn
    obtain ⟨o0, es0, ep0, h10, h20, _, h30⟩ := hn0
    rw [h10] at h1; cases h1
    rw [h20] at h2; cases h2
    funext y; rw [← h3, ← h30]
  subst hmm
  have hmem := hp.mem S.nodup
  have hcell : ∀ y c, C.env.cells.lookup y = some c → c ≠ a := fun y c hc q => by
    obtain ⟨a1, a2, ⟨o, v', a3, a4⟩, a5⟩ := S.cells y c hc
    rw [q, ha] at a3; cases a3; cases a4
  have hvar : ∀ y v, VarIs C.env s.heap m y v → VarIs C.env h' m y v := fun y v q => q.imp id fun ⟨a', c, o, b, e, d⟩ => ⟨a', c, o, b, (hs.2 _ (hcell _ _ b)).trans e, d⟩
  have hvar' : ∀ y v, VarIs C.env h' m y v → VarIs C.env s.heap m y v := fun y v q => q.imp id fun ⟨a', c, o, b, e, d⟩ => ⟨a', c, o, b, (hs.2 _ (hcell _ _ b)).symm.trans e, d⟩
  refine ⟨⟨S.cx, by rw [hp.names]; exact S.nodup, ⟨m, hn.sameBut hs (Ne.symm haL), fun p hp' => ?_, fun p hp' q hq o1 o2 b v1 v2 => ?_⟩, fun b o e => (hs.2 b (fun q => by subst q; rw [hb] at e; cases e)).trans (S.keep b o e), S.bL, S.z0,
    fun b o e => (hs.2 b (fun q => by subst q; rw [hz] at e; cases e)).trans (S.zin b o e), S.zL, S.znew, fun y c hc => ?_, S.cinj, ⟨S.rest.1, S.rest.2, S.rest.3⟩⟩, ⟨.refl _, fun b o us e d => ?_, fun _ _ _ _ _ z => z⟩⟩
  · rcases hmem p hp' with ⟨q1, q2⟩ | ⟨q1, q2⟩
    · rw [q1, q2]
      exact ⟨(he _ hm).1, a, es', n', hvar _ _ hv, ha', hz, hb, haL, hl, hr, hsm⟩
    · have hk := he p q2
      have hapx : p.2.isOwn = true → ∀ b, VarIs C.env s.heap m p.1 (.ref b) → b ≠ a := fun ho b vb hba => q1 (hap p q2 (x, .ownd kvs) hm ho rfl a (hba ▸ vb) hv)
      have hno' := hno p q2
      obtain ⟨y, e⟩ := p
      cases e with
      | unset => exact hk
      | val d => obtain ⟨w, v, hv, hr⟩ := hk; exact ⟨w, v, hvar _ _ hv, hr⟩
      | own ys => obtain ⟨w, b, us, n', hv', k1, k2⟩ := hk; exact ⟨w, b, us, n', hvar _ _ hv', (hs.2 _ (hapx rfl _ hv')).trans k1, k2⟩
      | ownd ys => obtain ⟨w, b, us, n', hv', k1, k2⟩ := hk; exact ⟨w, b, us, n', hvar _ _ hv', (hs.2 _ (hapx rfl _ hv')).trans k1, k2⟩
      | oinst a0 K ns ds => exact hno'.elim
      | glob v => exact hk
  · rcases hmem p hp' with ⟨q1, q2⟩ | ⟨q1, q2⟩ <;> rcases hmem q hq with ⟨r1, r2⟩ | ⟨r1, r2⟩
    · rw [q1, r1]
    · rw [q1]; rw [q1] at v1; exact hap (x, .ownd kvs) hm q r2 rfl o2 b (hvar' _ _ v1) (hvar' _ _ v2)
    · rw [r1]; rw [r1] at v2; exact hap p q2 (x, .ownd kvs) hm o1 rfl b (hvar' _ _ v1) (hvar' _ _ v2)
    · exact hap p q2 q r2 o1 o2 b (hvar' _ _ v1) (hvar' _ _ v2)
  · obtain ⟨a1, a2, ⟨o, v', a3, a4⟩, a5⟩ := S.cells y c hc
    exact ⟨a1, a2, ⟨o, v', (hs.2 _ (hcell _ _ hc)).trans a3, a4⟩, a5⟩
  · exact (hs.2 b (fun q => by subst q; rw [ha] at e; cases e; exact d.ndict rfl)).trans e

/-- ghost: an own dict is frozen -/
theorem Sat.freezeD {x : Str} {kvs : List (List Nat × List Nat)} {s : Shared} {Z : Zone} (S : Sat C ρ Z s) (hno : ∀ p ∈ ρ, match p.2 with | .oinst .. => False | _ => True) (hm : (x, Ent.ownd kvs) ∈ ρ) (hp : Put ρ x (.val (.dict C.G.w kvs)) ρ') : ∃ Z', Sat C ρ' Z' s ∧ GrowS s Z s Z' := by
  obtain ⟨m, hn, he, hap⟩ := S.ns
  obtain ⟨hat, a, es, n, hv, h1, h2, h3, haL, h4, h5⟩ := he _ hm
  have hsub : ZSub Z (Z.put a (dictOf es n)) := Zone.put_sub h2
  have hmem := hp.mem S.nodup
  have other : ∀ b, b ≠ a → Z b = none → (Z.put a (dictOf es n)) b = none := fun b hb hz => by unfold Zone.put; rw [if_neg hb]; exact hz
  refine ⟨Z.put a (dictOf es n), ⟨S.cx, by rw [hp.names]; exact S.nodup, ⟨m, hn, fun p hp' => ?_, fun p hp' q hq o1 o2 => ?_⟩, S.keep, S.bL, S.z0.trans hsub, fun b o e => ?_, ?_, fun b o e => ?_, fun y c hc => ?_, S.cinj, S.rest⟩, ⟨hsub, fun _ _ _ e _ => e, fun b o us e d z => other _ (fun q => by rw [q, h1] at e; cases e; exact d.ndict rfl) z⟩⟩
  · rcases hmem p hp' with ⟨q1, q2⟩ | ⟨q1, q2⟩
    · rw [q1, q2]
      exact ⟨hat, _, hv, rep_dict.mpr ⟨a, es, n, rfl, Zone.put_same _ _ _, h4, h5⟩⟩
    · have hk := he p q2
      have hapx : p.2.isOwn = true → ∀ b, VarIs C.env s.heap m p.1 (.ref b) → b ≠ a := fun ho b vb hba => q1 (hap p q2 (x, .ownd kvs) hm ho rfl a (hba ▸ vb) hv)
      have hno' := hno p q2
      obtain ⟨y, e⟩ := p
      cases e with
      | unset => exact hk
      | val d => obtain ⟨w, v, hv, hr⟩ := hk; exact ⟨w, v, hv, hr.mono hsub⟩
      | own ys => obtain ⟨w, b, us, n', hv', k1, k2, k3, k4, k5⟩ := hk; exact ⟨w, b, us, n', hv', k1, other _ (hapx rfl _ hv') k2, k3, k4, k5.mono hsub⟩
      | ownd ys => obtain ⟨w, b, us, n', hv', k1, k2, k3, k4, k5⟩ := hk; exact ⟨w, b, us, n', hv', k1, other _ (hapx rfl _ hv') k2, k3, k4, k5⟩
      | oinst a0 K ns ds => exact hno'.elim
      | glob v => exact hk
  · rcases hmem p hp' with ⟨q1, q2⟩ | ⟨q1, q2⟩
    · rw [q2] at o1; cases o1
    · rcases hmem q hq with ⟨r1, r2⟩ | ⟨r1, r2⟩
      · rw [r2] at o2; cases o2
      · exact hap p q2 q r2 o1 o2
  · rcases Zone.put_cases e with ⟨q, r⟩ | e
    · subst q; subst r; exact h1
    · exact S.zin _ _ e
  · exact other _ (Ne.symm haL) S.zL
  · rcases Zone.put_cases e with ⟨q, r⟩ | e
    · subst q; exact .inr h3
    · exact S.znew _ _ e
  · obtain ⟨a1, a2, ⟨o, v', a3, a4⟩, a5⟩ := S.cells y c hc
    exact ⟨other _ (fun q => by rw [q, h1] at a3; cases a3; cases a4) a1, a2, ⟨o, v', a3, a4⟩, a5⟩

theorem ExT.freezeD {t : Sem Flow} {x : Str} {kvs : List (List Nat × List Nat)} (hno : ∀ p ∈ ρ, match p.2 with | .oinst .. => False | _ => True) (hm : (x, Ent.ownd kvs) ∈ ρ) (hp : Put ρ x (.val (.dict C.G.w kvs)) ρ') (h : ExT C ρ' t R) : ExT C ρ t R := by
  refine ⟨fun s Z Q E S k => ?_⟩
  obtain ⟨Z', S', g⟩ := S.freezeD hno hm hp
  exact h.run s Z' Q E S' fun o ρ2 s2 Z2 fl r S2 g2 hf => k o ρ2 s2 Z2 fl r S2 (g.trans g2) hf

/-- x = {} -/
theorem Ex.assignD {x : Str} {p' p'' p : Pos} (hp : Put ρ x (.ownd []) ρ') (hw : C.wr = true) (r : R .next ρ') : Ex C ρ (.Assign [.Name x p'] (.Dict [] [] p'') p) R := by
  refine ⟨fun s Z Q E S k => ?_⟩
  refine wpAny_Assign_Name (wpAny_Dict_empty ?_) rfl
  have hnone : s.heap.get? s.heap.objs.size = none := by
    cases q : s.heap.get? s.heap.objs.size with
    | none => rfl
    | some o => exact absurd (Heap.lt_size q) (Nat.lt_irrefl _)
  have hz : Z s.heap.objs.size = none := by
    cases q : Z s.heap.objs.size with
    | none => rfl
    | some o => rw [S.zin _ _ q] at hnone; cases hnone
  have g1 : Grow s Z { s with heap := s.heap.push { cls := .type "dict", data := .dict #[] } } Z := .drop S.zin (fun _ _ e => Heap.get?_push_of_some _ e) (Nat.le_refl _)
  have S1 := S.grow g1
  obtain ⟨m, ⟨oL, _, _, hL, _⟩, _⟩ := S.ns
  refine S1.store hp (.inl hw) ⟨s.heap.objs.size, [], 0, rfl, Heap.get?_push_size _ rfl, hz, S.b_none hnone, fun q => ?_, Nat.zero_le _, ⟨.nil, .nil⟩, ?_⟩ (fun _ => S.apart_new g1.keep hnone) fun s2 S2 g2 => ?_
  · rw [q, hL] at hnone; cases hnone
  · obtain ⟨og, _, _, hg, _⟩ := S.cx.glo.g
    have h1 := Heap.lt_size (S.zok.keep _ _ hg)
    have h2 : @LT.lt Nat _ 1 mainGlobals := by decide
    have h3 : @LT.lt Nat _ 1 s.heap.objs.size := Nat.lt_trans h2 h1
    exact beq_eq_false_iff_ne.mpr fun q => absurd (show (s.heap.objs.size : Nat) = 1 from q) (by lia)
  · exact k .next ρ' s2 Z _ r S2 (g1.s.trans g2) rfl

/-- x[k] = v for an own dict -/
theorem Ex.setD {x : Str} {e1 e2 : Expr} {p1 p2 p : Pos} {kvs : List (List Nat × List Nat)} {k0 v0 : List Nat} (h1 : Ev C ρ e1 (.str v0)) (h2 : Ev C ρ e2 (.str k0)) (hm : (x, Ent.ownd kvs) ∈ ρ) (hno : ∀ p ∈ ρ, match p.2 with | .oinst .. => False | _ => True)
    (hsz : kvs.length + 1 ≤ sizeLine) (hp : Put ρ x (.ownd (storedD kvs k0 v0)) ρ') (r : R .next ρ')
    (hs : swapsWith e1 (some (.Subscript (.Name x p1) e2 p2)) p.line C.env = pure false := by rfl) : Ex C ρ (.Assign [.Subscript (.Name x p1) e2 p2] e1 p) R := by
  refine ⟨fun s Z Q E S k => ?_⟩
  refine wpAny_Assign_Subscript (h1.use S fun v s1 Z1 g1 S1 r1 => ?_) hs
  obtain ⟨m, hn, he, _⟩ := S1.ns
  obtain ⟨⟨hd, _⟩, a, es, n, hv, ha, hz, hb, haL, hl, hr, hsm⟩ := he _ hm
  have fin : wpAny C.M C.A (eval e2 C.env) (fun iv s₃ => wpAny C.M C.A (setItem (.ref a) iv v) (fun _ => Q .next) E s₃) E s1 := by
    refine h2.use S1 fun iv s2 Z2 g2 S2 r2 => ?_
    obtain ⟨lv, t, rfl⟩ := rep_str.mp r1
    obtain ⟨lk, t', rfl⟩ := rep_str.mp r2
    obtain ⟨ps, hat, vr⟩ := dictAt_of (prog := C.G.prog) (g2.keep _ _ ha) hr
    have hlen : es.length = kvs.length := by
      obtain ⟨ps', p1, p2, _⟩ := hr.1.pairs (prog := C.G.prog)
      rw [p1.length, p2.length]
    have hz2 : Z2 a = none := by
      cases q : Z2 a with
      | none => rfl
      | some o => rcases g2.new _ _ q with q | q
                  · rw [hz] at q; cases q
                  · rw [ha] at q; cases q
    refine wpAny_setItem_pairs (knd := strKind C.G.prog C.G.w) (hsz := by rw [vr.length]; lia) (strKind_is _ _ _ _) hat.dictOf fun h' hdo hs' => ?_
    obtain ⟨es', n', q1, q2, q3⟩ := dictOf_back hdo (vr.stored lk lv)
    have hl' : (storedD kvs k0 v0).length ≤ kvs.length + 1 := by unfold storedD; split <;> simp
    obtain ⟨S3, g3⟩ := S2.wroteD (tk := s2.toks + 1) hm hp hno (hn.keeps g2.keep) (hv.keep g2.keep) (g2.keep _ _ ha) hz2 hb haL hs' q1 (by rw [q3]; lia) q2 hsm
    exact k .next ρ' _ Z2 _ r S3 ((g1.trans g2).s.trans g3) rfl
  refine wpAny_Name ?_ hd
  rcases hv with ⟨k1, e⟩ | ⟨k1, c, o, a', b, e⟩
  · exact wpAny_loadName_local S.cx.kind k1 hn e fin
  · exact wpAny_loadName_cell S.cx.kind k1 a' ⟨o, b, e⟩ fin
end
end Mine
namespace Mine
section
variable {C : Cx} {ρ ρ' : Rho} {R : Out → Rho → Prop}

theorem VR.get {ps : List (Str × Value)} {kvs : List (List Nat × List Nat)} (h : VR ps kvs) : ∀ {i : Nat} {k v : List Nat}, kvs[i]? = some (k, v) → k.length ≤ sizeLine ∧ v.length ≤ sizeLine ∧ ∃ u, ps[i]? = some (st k, .str (st v) u) := by
  induction h with
  | nil => intro i k v h; simp at h
  | @cons k' v' u es kvs a b _ ih =>
    intro i k v h
    cases i with
    | zero => simp at h; obtain ⟨rfl, rfl⟩ := h; exact ⟨a, b, u, rfl⟩
    | succ i => simp at h; obtain ⟨q1, q2, u, q3⟩ := ih h; exact ⟨q1, q2, u, by simpa using q3⟩

noncomputable def itemsD (kvs : List (List Nat × List Nat)) : List D := kvs.map fun kv => .tup [.str kv.1, .str kv.2]

theorem entry_items_iter : entryFor table "dict_itemiterator.__iter__" = some Builtin.«dict_keyiterator.__iter__» :=
  entryFor_alias (id' := "dict_keyiterator.__iter__") (by kernel_rfl) rfl (by decide +kernel) (by kernel_rfl)

theorem Itr.items {elts : List Expr} {x1} {tp : Pos} {it d : Addr} {kvs : List (List Nat × List Nat)} {ps : List (Str × Value)} {es : List DictEntry} {ep : Nat} {Z0 : Zone} (hh : C.A.handled = none) (hd : Z0 d = some (dictOf es ep)) (hr : DRep C.G.w es kvs) (hne : d ≠ it) (hB : C.B it = none) :
    Itr C (.Tuple elts x1 tp) it [it] (fun ds Z h => ∃ i ok ov, ds = (itemsD kvs).drop i ∧ i ≤ kvs.length ∧ IsItemIter h it d i kvs.length ep ok ov ∧ ZSub Z0 Z ∧ Z it = none) where
  next := by
    rintro dd ds ρ Z s Q E S ⟨i, ok, ov, hds, hi, hit, hz, hw⟩ k
    have hlt : i < kvs.length := by
      have := congrArg List.length hds
      simp [itemsD] at this; lia
    obtain ⟨ps, hat, vr⟩ := dictAt_of (prog := C.G.prog) (S.zin _ _ (hz _ _ hd)) hr
    have hkv : kvs[i]? = some (kvs[i].1, kvs[i].2) := by rw [List.getElem?_eq_getElem hlt]
    obtain ⟨lk, lv, u, hx⟩ := vr.get hkv
    have hdd : dd = .tup [.str kvs[i].1, .str kvs[i].2] := by
      have := congrArg (·[0]?) hds
      simp [itemsD, hlt] at this
      exact this
    rw [← vr.length] at hit
    refine wpAny_pyNext_items_item (knd := strKind C.G.prog C.G.w) hit hat hx fun key h' hkey hit' htup hsz hk => ⟨_, rfl, ?_⟩
    obtain ⟨t, rfl⟩ := Value.isStrOf_shape hkey
    refine wpAny_letOwnedTupleGo_items (s := { s with heap := h' }) hit' fun h'' hit'' hs'' => ?_
    have hitlt := Heap.lt_size hit
    have hnone := get?_size s.heap
    have hzn : Z s.heap.objs.size = none := by
      cases q : Z s.heap.objs.size with
      | none => rfl
      | some o => rw [S.zin _ _ q] at hnone; cases hnone
    have hne2 : s.heap.objs.size ≠ it := fun q => by rw [← q] at hitlt; exact absurd hitlt (Nat.lt_irrefl _)
    have htup2 : h''.get? s.heap.objs.size = some (tupObj [.str (st kvs[i].1) t, .str (st kvs[i].2) u] 0) := (hs''.2 _ hne2).trans htup
    have hkeep : ∀ b o, b ≠ it → s.heap.get? b = some o → h''.get? b = some o := fun b o hb e => (hs''.2 _ hb).trans (hk b o hb e)
    have g1 : Grow s Z { s with heap := s.heap.push (tupObj [.str (st kvs[i].1) t, .str (st kvs[i].2) u] 0) } (Z.put s.heap.objs.size (tupObj [.str (st kvs[i].1) t, .str (st kvs[i].2) u] 0)) := .push S.zin rfl (Nat.le_refl _)
    have S1 := S.grow g1
    have push_cases : ∀ b o, (s.heap.push (tupObj [.str (st kvs[i].1) t, .str (st kvs[i].2) u] 0)).get? b = some o → b ≠ it → h''.get? b = some o := fun b o e hb => by
      by_cases q : b = s.heap.objs.size
      · subst q
        rw [Heap.get?_push_size _ rfl] at e
        cases e; exact htup2
      · exact hkeep b o hb (by rw [← e]; exact (Heap.get?_push_ne _ _ _ q).symm)
    have S2 : Sat C ρ (Z.put s.heap.objs.size (tupObj [.str (st kvs[i].1) t, .str (st kvs[i].2) u] 0)) { s with heap := h'' } := by
      refine S1.moved (tk := s.toks) (fun a o e nf => push_cases a o e fun q => ?_) (fun a o e => push_cases a o (S1.zin _ _ e) fun q => ?_) (fun a o e => push_cases a o (S1.keep _ _ e) fun q => ?_)
      · subst q; rw [Heap.get?_push_of_some _ hit] at e; cases e; exact nf _ (.inl rfl)
      · subst q
        rcases Zone.put_cases e with ⟨q, _⟩ | e
        · exact hne2 q.symm
        · rw [hw] at e; cases e
      · subst q; rw [hB] at e; cases e
    refine k _ _ _ S2 g1.sub (fun b o hb e => hkeep b o (by simpa using hb) e) (fun b o e => ?_) ?_ ⟨i + 1, _, _, ?_, hlt, by rw [← vr.length]; exact hit'', hz.trans g1.sub, ?_⟩
    · rcases Zone.put_cases e with ⟨q, _⟩ | e
      · subst q; exact .inr (.inl hnone)
      · exact .inl e
    · rw [hdd]
      exact rep_tup.mpr ⟨_, _, 0, rfl, Zone.put_same _ _ _, by show 2 ≤ sizeLine; decide, .cons (rep_str.mpr ⟨lk, t, rfl⟩) (.cons (rep_str.mpr ⟨lv, u, rfl⟩) .nil)⟩
    · have := congrArg List.tail hds
      simpa [List.tail_drop] using this
    · unfold Zone.put; rw [if_neg (Ne.symm hne2)]; exact hw
  done := by
    rintro ρ Z s Q E S ⟨i, ok, ov, hds, hi, hit, hz, hw⟩ k
    have hin : i = kvs.length := by
      have := congrArg List.length hds
      simp [itemsD] at this; lia
    obtain ⟨ps, hat, vr⟩ := dictAt_of (prog := C.G.prog) (S.zin _ _ (hz _ _ hd)) hr
    rw [← vr.length] at hit hin
    subst hin
    refine wpAny_pyNext_items_end (knd := strKind C.G.prog C.G.w) hh hit hat (by simp) fun h' hs => ?_
    refine k _ (S.moved (tk := s.toks) (fun a o e nf => hs a o (fun q => ?_) e) (fun a o e => hs a o (fun q => ?_) (S.zin _ _ e)) (fun a o e => hs a o (fun q => ?_) (S.keep _ _ e))) (fun b o hb e => hs b o (by simpa using hb) e)
    · subst q; rw [hit] at e; cases e; exact nf _ (.inl rfl)
    · subst q; rw [hw] at e; cases e
    · subst q; rw [hB] at e; cases e
  frame := by
    rintro ds Z Z' s s' ⟨i, ok, ov, hds, hi, hit, hz, hw⟩ zin g zin'
    exact ⟨i, ok, ov, hds, hi, g.iter _ _ _ hit (.inl rfl), hz.trans g.sub, g.iterz _ _ _ hit (.inl rfl) hw⟩
  self := by
    rintro ds Z s Q E ⟨i, ok, ov, hds, hi, hit, hz, hw⟩ h
    have hT : s.TypeIs (.ref it) "dict_itemiterator" := ⟨_, hit, rfl⟩
    refine wpAny_pyIter_slot hT F.slot_dict_itemiterator_iter (wpAny_call_entry F.slot_dict_itemiterator_iter hT entry_items_iter ?_ (F.args_dict_itemiterator_iter_1 _))
    show wpAny _ _ (ret (.ref it)) _ _ s
    exact wpAny_pure ⟨_, rfl, "dict_itemiterator", _, hT, F.slot_dict_itemiterator_next.lookup, h⟩

/-- for k, v in x.items() -/
theorem EvI.items {elts : List Expr} {x1} {tp apos pos : Pos} {o : Expr} {kvs : List (List Nat × List Nat)} (h : Ev C ρ o (.dict C.G.w kvs)) (hbase : attributeBase o "items" C.env (eval o C.env) = eval o C.env) (hline : (apos.endLine == pos.line) = true) :
    EvI C ρ (.Tuple elts x1 tp) (.Call (.Attribute o "items" apos) [] [] pos) (itemsD kvs) := by
  refine ⟨fun s Z Q E S k => ?_⟩
  refine wp_methCall hbase rfl (by decide) hline (h.use S fun v s1 Z1 g1 S1 r1 pl => ?_)
  obtain ⟨d, es, ep, rfl, za, la, ra, hsm⟩ := rep_dict.mp r1
  have hd := S1.zin _ _ za
  obtain ⟨ps, hat, vr⟩ := dictAt_of (prog := C.G.prog) hd ra
  refine getMethod_builtin (T := "dict") ⟨_, hd, rfl⟩ F.plainAttrs_dict F.slot_dict_items F.type_dict_items (fun b q => by cases q; exact ⟨_, hd, rfl⟩) ?_
  refine callOther_use (first := [.ref d]) rfl .nil S1 fun ws s2 Z2 g2 S2 r2 => ?_
  obtain rfl := reps_nil.mp r2
  have hd2 := g2.keep _ _ hd
  obtain ⟨ps, hat, vr⟩ := dictAt_of (prog := C.G.prog) hd2 ra
  refine call_meetsIn F.slot_dict_items ⟨_, hd2, rfl⟩ F.entry_dict_items (F.args_dict_items_1 _) (meets_dict_items (strKind C.G.prog C.G.w) d hsm) ⟨⟨ps, hat.dictOf⟩, ?_⟩
  have hnone := get?_size s2.heap
  have g3 : Grow s2 Z2 { s2 with heap := s2.heap.push { cls := .type "dict_items", data := .fields #[.ref d] } } Z2 := .drop S2.zin (fun _ _ e => Heap.get?_push_of_some _ e) (Nat.le_refl _)
  have S3 := S2.grow g3
  refine wpAny_pyIter_items (knd := strKind C.G.prog C.G.w) (s := { s2 with heap := s2.heap.push { cls := .type "dict_items", data := .fields #[.ref d] } }) ⟨_, Heap.get?_push_size _ rfl, rfl, rfl⟩ (hat.push _) ?_
  generalize hs3 : ({ s2 with heap := s2.heap.push { cls := .type "dict_items", data := .fields #[.ref d] } } : Shared) = s3 at g3 S3
  have g4 : Grow s3 Z2 { s3 with heap := s3.heap.push { cls := .type "dict_itemiterator", data := .fields #[.none, .bool false, .ref d, .int 0 0, .int ps.length 0, .int ep 0, .none, .none] } } Z2 := .drop S3.zin (fun _ _ e => Heap.get?_push_of_some _ e) (Nat.le_refl _)
  have gg := (g1.trans g2).trans g3
  have hnone3 : s.heap.get? s3.heap.objs.size = none := by
    cases q : s.heap.get? s3.heap.objs.size with
    | none => rfl
    | some o => exact absurd (Heap.lt_size (gg.keep _ _ q)) (Nat.lt_irrefl _)
  have hz3 : Z2 s3.heap.objs.size = none := by
    cases q : Z2 s3.heap.objs.size with
    | none => rfl
    | some o => exact absurd (Heap.lt_size (S3.zin _ _ q)) (Nat.lt_irrefl _)
  have hne : d ≠ s3.heap.objs.size := fun q => by
    have := Heap.lt_size (g3.keep _ _ hd2)
    rw [q] at this; exact absurd this (Nat.lt_irrefl _)
  refine k s3.heap.objs.size [s3.heap.objs.size] _ _ Z2 (Itr.items (Z0 := Z2) (ps := ps) S.cx.handled (g2.sub _ _ za) ra hne (S.b_none hnone3)) (S3.grow g4) (gg.trans g4) (fun b hb => ?_) (fun b hb => ?_) (fun b hb => ?_) ⟨0, .none, .none, rfl, Nat.zero_le _, ?_, .refl _, hz3⟩
  · simp at hb; subst hb; exact hnone3
  · simp at hb; subst hb; exact hz3
  · simp at hb; subst hb; show s3.heap.objs.size < (s3.heap.push _).objs.size; rw [Heap.size_push]; exact Nat.lt_succ_self _
  · rw [← vr.length]; exact Heap.get?_push_size _ rfl
end
end Mine
namespace Mine

section
variable {prog : Program} {w : World} {A : Around} {E : Value → Shared → Prop} {s : Shared}
theorem wp_draw_list {it t : Addr} {items : Array Value} (hne : t ≠ it) : ∀ (n i : Nat) (s : Shared) (Q : List Value → Shared → Prop), s.heap.IsListIter it t i → s.heap.IsList t items → i + n ≤ items.size →
    (∀ h', h'.IsListIter it t (i + n) → Heap.SameBut it s.heap h' → Q ((items.toList.drop i).take n) { s with heap := h' }) → wpAny (model prog w) A (draw (.ref it) n) Q E s
  | 0, i, s, Q, hit, _, _, hQ => by
    show wpAny _ _ (pure []) Q E s
    exact wpAny_pure (by simpa using hQ s.heap hit (Heap.SameBut.refl ..))
  | n + 1, i, s, Q, hit, ht, hle, hQ => by
    have hlt : i < items.size := by lia
    show wpAny _ _ (pyNext (.ref it) >>= _) Q E s
    refine wpAny_bind (wpAny_pyNext_list_item hit ht (x := items[i]) (by simp [hlt]) fun h₁ hit₁ hs₁ => ?_)
    refine wpAny_bind (wpAny_holding (wp_draw_list hne n (i + 1) _ _ hit₁ (ht.extBut hs₁.extBut hne) (by lia) fun h₂ hit₂ hs₂ => wpAny_pure ?_))
    have hd : items.toList.drop i = items[i] :: items.toList.drop (i + 1) := by simp [List.drop_eq_getElem_cons, hlt]
    have := hQ h₂ (by rw [show i + (n + 1) = i + 1 + n by lia]; exact hit₂) (hs₁.trans hs₂)
    rw [hd, List.take_succ_cons] at this
    exact this

theorem wp_unpackItems_list {t : Addr} {items : Array Value} {Q : List Value → Shared → Prop} (hh : A.handled = none) (ht : s.heap.IsList t items)
    (hQ : ∀ h', Heap.ExtBut s.heap.objs.size s.heap h' → Q items.toList { s with heap := h' }) : wpAny (model prog w) A (unpackItems (.ref t) items.size none) Q E s := by
  have hlt : t ≠ s.heap.objs.size := by obtain ⟨o, ho, _⟩ := ht; exact Nat.ne_of_lt (Heap.lt_size ho)
  unfold unpackItems
  refine wpAny_bind ?_
  · unfold notIterableAtAll
    refine wpAny_bind (wpAny_specialOf ht.typeIs F.slot_list_iter.lookup ?_)
    refine wpAny_pure ?_
    simp only [Bool.false_eq_true, if_false]
    refine wpAny_bind (wpAny_holding (wpAny_pyIter_list ht ?_))
    refine wpAny_bind (wpAny_holding (wp_draw_list hlt items.size 0 _ _ ⟨_, Heap.get?_push_size _ rfl, rfl, rfl⟩ (ht.push _) (by lia) fun h₁ hit₁ hs₁ => ?_))
    have hall : List.take items.size (List.drop 0 items.toList) = items.toList := by
      rw [List.drop_zero]; exact List.take_of_length_le (by simp)
    rw [hall]
    rw [if_neg (by simp)]
    have ht₁ : h₁.IsList t items := (ht.push _).extBut hs₁.extBut hlt
    refine wpAny_bind (wpAny_holding (wpAny_pyNext_list_end hh hit₁ ht₁ (by simp) fun h₂ he₂ => ?_))
    simp only [Option.isSome_none, Bool.false_eq_true, if_false]
    refine wpAny_pure (hQ h₂ fun b o hb e => he₂ b o hb (hs₁.extBut b o hb (Heap.get?_push_of_some _ e)))

theorem wp_assign_Tuple_list {env : Env} {elts : List Expr} {x1} {pos : Pos} {t : Addr} {items : Array Value} {Q : Unit → Shared → Prop} (hh : A.handled = none) (ht : s.heap.IsList t items)
    (hn : (assignEach elts env).length = items.size) (hstar : (assignEach elts env).findIdx? (·.1) = none)
    (h : ∀ h', Heap.ExtBut s.heap.objs.size s.heap h' → wpAny (model prog w) A (assignInOrder ((assignEach elts env).map (·.2)) items.toList) Q E { s with heap := h' }) :
    wpAny (model prog w) A (assign (.Tuple elts x1 pos) env (.ref t)) Q E s := by
  rw [arm_assign_Tuple]
  refine wpAny_bind (wpAny_standAt ?_)
  unfold unpack
  rw [hn, hstar]
  exact wpAny_bind (wpAny_holding (wp_unpackItems_list hh ht h))
end

section
variable {C : Cx} {ρ ρ' : Rho} {R : Out → Rho → Prop}

theorem As.list {es : List Expr} {k : Nat} {p : Pos} {ds : List D} {K : Rho → Prop} (h : AsL C K es ds ρ) (hp : es.all plainT = true) (hl : es.length = ds.length) : As C ρ (.Tuple es k p) (.list ds) K := by
  refine ⟨fun s Z v Q E S r kk => ?_⟩
  obtain ⟨a, vs, n, rfl, za, la, ra⟩ := rep_list.mp r
  obtain ⟨e1, e2, e3⟩ := assignEach_plain (env := C.env) hp
  have el := ra.length
  refine wp_assign_Tuple_list S.cx.handled (isList_of (S.zin _ _ za)) (by rw [e1]; simp; lia) e2 fun h' he => ?_
  rw [e3]
  have g : Grow s Z { s with heap := h', toks := s.toks } Z := .dropA S.zin fun b o e => he b o (fun q => by rw [q, get?_size] at e; cases e) e
  exact AsL.run h (S.grow g) ra fun ρ2 s2 Z2 h2 S2 g2 => kk ρ2 s2 Z2 h2 S2 (g.s.trans g2)

/-- a, b = e, where e comes to a list -/
theorem Ex.unpackL {es : List Expr} {k : Nat} {tp p : Pos} {e : Expr} {ds : List D} (he : Ev C ρ e (.list ds)) (h : AsL C (fun ρ' => R .next ρ') es ds ρ) (hp : es.all plainT = true) (hl : es.length = ds.length)
    (hs : swapsWithSole [.Tuple es k tp] e p.line C.env = pure false := by rfl) (hw : swappedStores [.Tuple es k tp] e C.env = pure none := by rfl) : Ex C ρ (.Assign [.Tuple es k tp] e p) R := by
  refine ⟨fun s Z Q E S kk => ?_⟩
  refine Assign_Tuple (he.use S fun v s1 Z1 g1 S1 r1 => ?_) hs hw
  exact (As.list h hp hl).run s1 Z1 v _ E S1 r1 fun ρ2 s2 Z2 h2 S2 g2 => kk .next ρ2 s2 Z2 _ h2 S2 (g1.s.trans g2) rfl
end
end Mine
namespace Mine

section
variable {prog : Program} {w : World} {A : Around} {E : Value → Shared → Prop} {s : Shared}
theorem wp_setItem_list {l : Addr} {vs : List Value} {n : Nat} {k : Int} {t : Tok} {v : Value} {Q : Unit → Shared → Prop} (hl : s.heap.get? l = some (listObj vs n)) (h0 : 0 ≤ k) (hfit : k < 2 ^ 63) (hn : k < vs.length)
    (hQ : ∀ h' n', h'.get? l = some (listObj (vs.set k.toNat v) n') → Heap.SameBut l s.heap h' → Q () { s with heap := h' }) :
    wpAny (model prog w) A (setItem (.ref l) (.int k t) v) Q E s := by
  have hli := isList_of hl
  unfold setItem
  try with_reducible refine wpAny_holding ?_
  first | refine wpAny_bind (wpAny_pure ?_) | skip
  refine wpAny_bind (wpAny_sequenceKey hli.typeIs (by decide) ?_)
  refine wpAny_bind (wpAny_callSpecial?_slot (name := Str.ofString "__setitem__") hli.typeIs slot_list_setitem
    (wpAny_call_entry slot_list_setitem hli.typeIs entry_list_setitem ?_ (args_list_setitem _ _ _)))
  show wpAny _ _ (Builtin.List.listSubscript? (.int k t) >>= _) _ _ s
  refine wpAny_bind (wpAny_listSubscript_int (fitsIndex_of h0 hfit) ?_)
  clear hfit
  obtain ⟨j, rfl⟩ := Int.eq_ofNat_of_zero_le h0
  have hj : j < vs.length := by lia
  rw [Int.toNat_natCast] at hQ
  have hx' : vs.toArray[j]? = some vs[j] := by simp [hj]
  show wpAny _ _ ((seqItemAt l j >>= fun r => pure (r.map (j, ·))) >>= _) _ _ s
  refine wpAny_bind (wpAny_bind (wpAny_seqItemAt hl rfl (wpAny_pure ?_)))
  rw [hx']
  show wpAny _ _ (setSeqItemAt l j v >>= _) _ _ s
  have hfin : ∃ n', (s.heap.update l (Obj.mapSeq (·.setIfInBounds j v))).get? l = some (listObj (vs.set j v) n') := by
    refine ⟨n, ?_⟩
    rw [Heap.get?_update_self _ hl rfl]
    simp [Obj.mapSeq]
  obtain ⟨n', hfin⟩ := hfin
  refine wpAny_bind (wpAny_setSeqItemAt hl rfl ?_)
  first
    | exact wpAny_bind (wpAny_pure (wpAny_pure ⟨.none, rfl, wpAny_pure (hQ _ _ hfin (Heap.SameBut.update ..))⟩))
    | exact wpAny_pure ⟨.none, rfl, wpAny_pure (hQ _ _ hfin (Heap.SameBut.update ..))⟩
end

section
variable {C : Cx} {ρ ρ' ρ'' : Rho} {R : Out → Rho → Prop}

noncomputable def scalar : D → Bool
  | .none | .bool _ | .int _ | .str _ => true
  | _ => false
theorem scalar_rep {d : D} {Z Z' : Zone} {v : Value} (h : scalar d = true) (r : Rep Z d v) : Rep Z' d v := by
  cases d with
  | none => exact rep_none.mpr (rep_none.mp r)
  | bool b => exact rep_bool.mpr (rep_bool.mp r)
  | int i => exact rep_int.mpr (rep_int.mp r)
  | str l => exact rep_str.mpr (rep_str.mp r)
  | _ => cases h

/-- a plain value read out of an own list -/
theorem Ev.peek {x : Str} {xs : List D} {e : Expr} {d : D} (hm : (x, Ent.own xs) ∈ ρ) (hp : Put ρ x (.val (.list xs)) ρ') (h : Ev C ρ' e d) (hd : scalar d = true) : Ev C ρ e d := by
  refine ⟨fun s Z Q E S k => ?_⟩
  obtain ⟨Z', S', g⟩ := S.freeze hm hp
  refine h.run s Z' Q E S' fun v s' Z'' g' r => k v s' Z ⟨g'.keep, .refl _, fun _ _ e => .inl e, fun a o e => g'.keep _ _ (S.zin _ _ e), g'.rest⟩ (scalar_rep hd r)
theorem Tr.peek {x : Str} {xs : List D} {e : Expr} {b : Bool} (hm : (x, Ent.own xs) ∈ ρ) (hp : Put ρ x (.val (.list xs)) ρ') (h : Tr C ρ' e b) : Tr C ρ e b := by
  refine ⟨fun s Z Q E S k => ?_⟩
  obtain ⟨Z', S', g⟩ := S.freeze hm hp
  refine h.run s Z' Q E S' fun s' Z'' g' => k s' Z ⟨g'.keep, .refl _, fun _ _ e => .inl e, fun a o e => g'.keep _ _ (S.zin _ _ e), g'.rest⟩

/-- x[i] = v for an own list -/
theorem Ex.setO {x : Str} {e1 e2 : Expr} {p1 p2 p : Pos} {xs : List D} {j : Nat} {d : D} (h1 : Ev C ρ e1 d) (h2 : Ev C ρ e2 (.int j)) (hm : (x, Ent.own xs) ∈ ρ) (hj : j < xs.length) (hp : Put ρ x (.own (xs.set j d)) ρ') (r : R .next ρ')
    (hs : swapsWith e1 (some (.Subscript (.Name x p1) e2 p2)) p.line C.env = pure false := by rfl) : Ex C ρ (.Assign [.Subscript (.Name x p1) e2 p2] e1 p) R := by
  refine ⟨fun s Z Q E S k => ?_⟩
  refine wpAny_Assign_Subscript (h1.use S fun v s1 Z1 g1 S1 r1 => ?_) hs
  obtain ⟨m, hn, he, _⟩ := S1.ns
  obtain ⟨⟨hd, _⟩, a, vs, n, hv, ha, hz, hb, hl, hr⟩ := he _ hm
  have fin : wpAny C.M C.A (eval e2 C.env) (fun iv s₃ => wpAny C.M C.A (setItem (.ref a) iv v) (fun _ => Q .next) E s₃) E s1 := by
    refine h2.use S1 fun iv s2 Z2 g2 S2 r2 => ?_
    obtain ⟨t, rfl⟩ := rep_int.mp r2
    have hlen := hr.length
    have hz2 : Z2 a = none := by
      cases q : Z2 a with
      | none => rfl
      | some o => rcases g2.new _ _ q with q | q
                  · rw [hz] at q; cases q
                  · rw [ha] at q; cases q
    have hsz := sizeLine_is
    refine wp_setItem_list (g2.keep _ _ ha) (by lia) (by lia) (by lia) fun h' n' ha' hs' => ?_
    rw [Int.toNat_natCast] at ha'
    obtain ⟨S3, g3⟩ := S2.wrote (tk := s2.toks) hm hp (hn.keeps g2.keep) (hv.keep g2.keep) (g2.keep _ _ ha) hz2 hb hs' ha' (by simpa using hl) (.set (r1.mono g2.sub) j (hr.mono g2.sub))
    exact k .next ρ' _ Z2 _ r S3 ((g1.trans g2).s.trans g3) rfl
  refine wpAny_Name ?_ hd
  rcases hv with ⟨k1, e⟩ | ⟨k1, c, o, a', b, e⟩
  · exact wpAny_loadName_local S.cx.kind k1 hn e fin
  · exact wpAny_loadName_cell S.cx.kind k1 a' ⟨o, b, e⟩ fin

/-- x, y = (e1, e2) with two locals: the stores run backwards -/
theorem Ex.swap2 {x y : Str} {px py tp vp p : Pos} {k k' : Nat} {e1 e2 : Expr} {d1 d2 : D} (h : Ev C ρ (.Tuple [e1, e2] k' vp) (.tup [d1, d2])) (hp1 : Put ρ y (.val d2) ρ') (hp2 : Put ρ' x (.val d1) ρ'') (hw : C.wr = true) (r : R .next ρ'')
    (hs : swapsWithSole [.Tuple [.Name x px, .Name y py] k tp] (.Tuple [e1, e2] k' vp) p.line C.env = pure false := by rfl)
    (hw' : swappedStores [.Tuple [.Name x px, .Name y py] k tp] (.Tuple [e1, e2] k' vp) C.env = pure (some [x, y]) := by rfl) : Ex C ρ (.Assign [.Tuple [.Name x px, .Name y py] k tp] (.Tuple [e1, e2] k' vp) p) R := by
  refine ⟨fun s Z Q E S kk => ?_⟩
  refine Assign_Tuple_swapped (names := [x, y]) (h.use S fun v s1 Z1 g1 S1 r1 => ?_) hs hw'
  obtain ⟨a, vs, n, rfl, za, la, ra⟩ := rep_tup.mp r1
  obtain ⟨v1, v2, rfl, r1, r2⟩ := reps2 ra
  refine wpAny_unpackItems_tuple (items := #[v1, v2]) S.cx.handled ⟨_, S1.zin _ _ za, rfl, n, rfl⟩ fun h' he => ?_
  have g : Grow s1 Z1 { s1 with heap := h', toks := s1.toks } Z1 := .dropA S1.zin fun b o e => he b o (fun q => by rw [q, get?_size] at e; cases e) e
  show wpAny C.M C.A (do holding [v1] (bindName C.env y v2); do holding [] (bindName C.env x v1); pure ()) _ _ _
  refine wpAny_bind (wpAny_holding (bindName_ ((S1.grow g).store_val hp1 (.inl hw) r2 fun s2 S2 g2 => ?_)))
  refine wpAny_bind (wpAny_holding (bindName_ (S2.store_val hp2 (.inl hw) r1 fun s3 S3 g3 => wpAny_pure ?_)))
  exact kk .next ρ'' s3 Z1 _ r S3 (((g1.trans g).s.trans g2).trans g3) rfl
end
end Mine
namespace Mine
section
variable {C : Cx} {ρ ρ' : Rho} {R : Out → Rho → Prop}

noncomputable def zipD (xs ys : List D) : List D := (xs.zip ys).map fun p => .tup [p.1, p.2]

theorem Itr.zip {elts : List Expr} {x1} {tp : Pos} {z TI TO i1 i2 l1 l2 : Addr} {xs ys : List D} {us vs : List Value} {n1 n2 : Nat} {Z0 : Zone} (hh : C.A.handled = none) (Dj : ZipApart z TI TO i1 i2 l1 l2)
    (h1 : Z0 l1 = some (listObj us n1)) (h2 : Z0 l2 = some (listObj vs n2)) (r1 : Reps Z0 xs us) (r2 : Reps Z0 ys vs) (hB : ∀ b ∈ [z, TI, TO, i1, i2], C.B b = none) :
    Itr C (.Tuple elts x1 tp) z [z, TI, TO, i1, i2] (fun ds Z h => ∃ i, ds = (zipD xs ys).drop i ∧ i ≤ (zipD xs ys).length ∧ IsZip h z TI TO .none ∧ IsPair h TI (.ref i1) (.ref i2) ∧ (∃ a b, IsPair h TO a b) ∧ h.IsListIter i1 l1 i ∧ h.IsListIter i2 l2 i ∧ ZSub Z0 Z ∧ ∀ b ∈ [z, TI, TO, i1, i2], Z b = none) where
  next := by
    rintro dd ds ρ Z s Q E S ⟨i, hds, hi, hz, hTI, ⟨a, b, hTO⟩, hi1, hi2, hsub, hw⟩ k
    have hlt : i < (zipD xs ys).length := by
      have := congrArg List.length hds
      simp only [List.length_cons, List.length_drop] at this; lia
    have hlx : i < xs.length := by simp [zipD] at hlt; lia
    have hly : i < ys.length := by simp [zipD] at hlt; lia
    have hdd : dd = .tup [xs[i], ys[i]] := by
      have := congrArg (·[0]?) hds
      simp [zipD] at this
      rw [List.getElem?_eq_getElem (by simp; lia)] at this
      simpa using this
    obtain ⟨u, eu, ru⟩ := r1.get (List.getElem?_eq_getElem hlx)
    obtain ⟨v, ev, rv⟩ := r2.get (List.getElem?_eq_getElem hly)
    have il1 := isList_of (S.zin _ _ (hsub _ _ h1))
    have il2 := isList_of (S.zin _ _ (hsub _ _ h2))
    refine wpAny_pyNext_zip_item Dj hz hTI hTO hi1 hi2 il1 il2 (x := u) (y := v) (by simpa using eu) (by simpa using ev) fun h' a1 a2 a3 a4 a5 a6 hk => ⟨_, rfl, ?_⟩
    refine wpAny_letOwnedTupleGo_zip (s := { s with heap := h' }) a1 fun h'' b1 hs'' => ?_
    have lt : ∀ {c o}, s.heap.get? c = some o → s.heap.objs.size ≠ c := fun e => Nat.ne_of_gt (Heap.lt_size e)
    have hnz := lt hz
    have hnTI := lt hTI
    have hnTO := lt hTO
    have hni1 : s.heap.objs.size ≠ i1 := by obtain ⟨_, e, _⟩ := hi1; exact lt e
    have hni2 : s.heap.objs.size ≠ i2 := by obtain ⟨_, e, _⟩ := hi2; exact lt e
    have hnone := get?_size s.heap
    have htup2 : h''.get? s.heap.objs.size = some (tupObj [u, v] 0) := (hs''.2 _ hnz).trans a5
    have hkeep : ∀ c o, c ≠ z → c ≠ TO → c ≠ i1 → c ≠ i2 → s.heap.get? c = some o → h''.get? c = some o := fun c o q1 q2 q3 q4 e => (hs''.2 _ q1).trans (hk c o q1 q2 q3 q4 e)
    have g1 : Grow s Z { s with heap := s.heap.push (tupObj [u, v] 0) } (Z.put s.heap.objs.size (tupObj [u, v] 0)) := .push S.zin rfl (Nat.le_refl _)
    have S1 := S.grow g1
    have push_cases : ∀ c o, (s.heap.push (tupObj [u, v] 0)).get? c = some o → c ≠ z → c ≠ TO → c ≠ i1 → c ≠ i2 → h''.get? c = some o := fun c o e q1 q2 q3 q4 => by
      rcases Heap.get?_push_cases e with ⟨rfl, rfl⟩ | e
      · exact htup2
      · exact hkeep c o q1 q2 q3 q4 e
    have hZ' : ∀ b ∈ [z, TI, TO, i1, i2], (Z.put s.heap.objs.size (tupObj [u, v] 0)) b = none := fun b hb => by
      unfold Zone.put
      rw [if_neg (fun q => ?_)]
      · exact hw b hb
      · subst q; simp at hb; rcases hb with q | q | q | q | q
        · exact hnz q
        · exact hnTI q
        · exact hnTO q
        · exact hni1 q
        · exact hni2 q
    have hit : ∀ c o, s.heap.get? c = some o → (c = z ∨ c = TO ∨ c = i1 ∨ c = i2) → ∃ w, IsIt o w := fun c o e q => by
      rcases q with rfl | rfl | rfl | rfl
      · rw [hz] at e; cases e; exact ⟨_, .inl rfl⟩
      · rw [hTO] at e; cases e; exact ⟨_, .inr ⟨rfl, _, rfl⟩⟩
      · obtain ⟨o', e', _, e2⟩ := hi1; rw [e'] at e; cases e; exact ⟨_, .inl e2⟩
      · obtain ⟨o', e', _, e2⟩ := hi2; rw [e'] at e; cases e; exact ⟨_, .inl e2⟩
    have S2 : Sat C ρ (Z.put s.heap.objs.size (tupObj [u, v] 0)) { s with heap := h'' } := by
      refine S1.moved (tk := s.toks) (fun c o e nf => ?_) (fun c o e => ?_) (fun c o e => ?_)
      · rcases Heap.get?_push_cases e with ⟨rfl, rfl⟩ | e
        · exact htup2
        · refine hkeep c o (fun q => ?_) (fun q => ?_) (fun q => ?_) (fun q => ?_) e
          · obtain ⟨w, hw⟩ := hit c o e (.inl q); exact nf _ hw
          · obtain ⟨w, hw⟩ := hit c o e (.inr (.inl q)); exact nf _ hw
          · obtain ⟨w, hw⟩ := hit c o e (.inr (.inr (.inl q))); exact nf _ hw
          · obtain ⟨w, hw⟩ := hit c o e (.inr (.inr (.inr q))); exact nf _ hw
      · have hne : ∀ b ∈ [z, TI, TO, i1, i2], c ≠ b := fun b hb q => by subst q; rw [hZ' _ hb] at e; cases e
        exact push_cases c o (S1.zin _ _ e) (hne _ (by simp)) (hne _ (by simp)) (hne _ (by simp)) (hne _ (by simp))
      · have hne : ∀ b ∈ [z, TI, TO, i1, i2], c ≠ b := fun b hb q => by subst q; rw [hB _ hb] at e; cases e
        exact push_cases c o (S1.keep _ _ e) (hne _ (by simp)) (hne _ (by simp)) (hne _ (by simp)) (hne _ (by simp))
    refine k _ _ _ S2 g1.sub (fun c o hc e => ?_) (fun c o e => ?_) ?_ ⟨i + 1, ?_, hlt, b1, hkeep _ _ Dj.TIz Dj.TITO Dj.TIi1 Dj.TIi2 hTI, ⟨_, _, (hs''.2 _ Dj.TOz).trans a2⟩, a3.extBut hs''.extBut Dj.i1z, a4.extBut hs''.extBut Dj.i2z, hsub.trans g1.sub, hZ'⟩
    · simp at hc
      exact hkeep c o hc.1 hc.2.2.1 hc.2.2.2.1 hc.2.2.2.2 e
    · rcases Zone.put_cases e with ⟨q, _⟩ | e
      · subst q; exact .inr (.inl hnone)
      · exact .inl e
    · rw [hdd]
      exact rep_tup.mpr ⟨_, _, 0, rfl, Zone.put_same _ _ _, by show 2 ≤ sizeLine; decide, .cons ((ru.mono hsub).mono g1.sub) (.cons ((rv.mono hsub).mono g1.sub) .nil)⟩
    · have := congrArg List.tail hds
      simpa [List.tail_drop] using this
  done := by
    rintro ρ Z s Q E S ⟨i, hds, hi, hz, hTI, ⟨a, b, hTO⟩, hi1, hi2, hsub, hw⟩ k
    have hin : i = (zipD xs ys).length := by
      have := congrArg List.length hds
      simp only [List.length_nil, List.length_drop] at this; lia
    have il1 := isList_of (S.zin _ _ (hsub _ _ h1))
    have il2 := isList_of (S.zin _ _ (hsub _ _ h2))
    have e1 := r1.length
    have e2 := r2.length
    refine wpAny_pyNext_zip_end hh Dj hz hTI hTO hi1 hi2 il1 il2 ?_ fun h' hk => ?_
    · simp [zipD] at hin
      rcases Nat.le_total xs.length ys.length with q | q
      · exact .inl (by simp; lia)
      · exact .inr (by simp; lia)
    · refine k _ (S.moved (tk := s.toks) (fun c o e nf => hk c o (fun q => ?_) (fun q => ?_) (fun q => ?_) (fun q => ?_) e) (fun c o e => ?_) (fun c o e => ?_)) (fun c o hc e => ?_)
      · subst q; rw [hz] at e; cases e; exact nf _ (.inl rfl)
      · subst q; rw [hTO] at e; cases e; exact nf _ (.inr ⟨rfl, _, rfl⟩)
      · subst q; obtain ⟨o', e', _, e2⟩ := hi1; rw [e'] at e; cases e; exact nf _ (.inl e2)
      · subst q; obtain ⟨o', e', _, e2⟩ := hi2; rw [e'] at e; cases e; exact nf _ (.inl e2)
      · have hne : ∀ b ∈ [z, TI, TO, i1, i2], c ≠ b := fun b hb q => by subst q; rw [hw _ hb] at e; cases e
        exact hk c o (hne _ (by simp)) (hne _ (by simp)) (hne _ (by simp)) (hne _ (by simp)) (S.zin _ _ e)
      · have hne : ∀ b ∈ [z, TI, TO, i1, i2], c ≠ b := fun b hb q => by subst q; rw [hB _ hb] at e; cases e
        exact hk c o (hne _ (by simp)) (hne _ (by simp)) (hne _ (by simp)) (hne _ (by simp)) (S.keep _ _ e)
      · simp at hc
        exact hk c o hc.1 hc.2.2.1 hc.2.2.2.1 hc.2.2.2.2 e
  frame := by
    rintro ds Z Z' s s' ⟨i, hds, hi, hz, hTI, ⟨a, b, hTO⟩, hi1, hi2, hsub, hw⟩ zin g zin'
    obtain ⟨o1, p1, q1, t1⟩ := hi1
    obtain ⟨o2, p2, q2, t2⟩ := hi2
    refine ⟨i, hds, hi, g.iter _ _ _ hz (.inl rfl), g.iter _ _ _ hTI (.inr ⟨rfl, _, rfl⟩), ⟨a, b, g.iter _ _ _ hTO (.inr ⟨rfl, _, rfl⟩)⟩, ⟨o1, g.iter _ _ _ p1 (.inl t1), q1, t1⟩, ⟨o2, g.iter _ _ _ p2 (.inl t2), q2, t2⟩, hsub.trans g.sub, fun c hc => ?_⟩
    have hwc := hw c hc
    simp at hc
    rcases hc with rfl | rfl | rfl | rfl | rfl
    · exact g.iterz _ _ _ hz (.inl rfl) hwc
    · exact g.iterz _ _ _ hTI (.inr ⟨rfl, _, rfl⟩) hwc
    · exact g.iterz _ _ _ hTO (.inr ⟨rfl, _, rfl⟩) hwc
    · exact g.iterz _ _ _ p1 (.inl t1) hwc
    · exact g.iterz _ _ _ p2 (.inl t2) hwc
  self := by
    rintro ds Z s Q E ⟨i, hds, hi, hz, _⟩ h
    exact wpAny_pyIter_zip hz h

/-- for a, b in zip(x, y) -/
theorem EvI.zip {elts : List Expr} {x1} {tp xp pos : Pos} {x : Str} {e1 e2 : Expr} {xs ys : List D} (hm : (x, Ent.glob (.type "zip")) ∈ ρ) (h1 : Ev C ρ e1 (.list xs)) (h2 : Ev C ρ e2 (.list ys))
    (hn1 : ∀ x p, e1 ≠ .Starred x p := by intro _ _ h; cases h) (hn2 : ∀ x p, e2 ≠ .Starred x p := by intro _ _ h; cases h) : EvI C ρ (.Tuple elts x1 tp) (.Call (.Name x xp) [e1, e2] [] pos) (zipD xs ys) := by
  refine ⟨fun s Z Q E S k => ?_⟩
  refine Call_ (glob_use hm S (callOther_use rfl (.cons h1 (.cons h2 .nil hn2) hn1) S fun vs s1 Z1 g1 S1 r1 => ?_))
  obtain ⟨v, v', rfl, q1, q2⟩ := reps2 r1
  obtain ⟨l1, us, n1, rfl, za, la, ra⟩ := rep_list.mp q1
  obtain ⟨l2, ws, n2, rfl, zb, lb, rb⟩ := rep_list.mp q2
  have il1 := S1.zin _ _ za
  have il2 := S1.zin _ _ zb
  refine call_zip_2 (isList_of il1) (isList_of il2) fun h' hz hTI hTO hi1 hi2 hsz hk => ?_
  refine wpAny_pyIter_zip (s := { s1 with heap := h' }) hz ?_
  have g2 : Grow s1 Z1 { s1 with heap := h', toks := s1.toks } Z1 := .dropA S1.zin hk
  have lt1 := Heap.lt_size il1
  have lt2 := Heap.lt_size il2
  have fresh : ∀ j : Nat, s1.heap.get? (s1.heap.objs.size + j) = Option.none := fun j => by
    cases q : s1.heap.get? (s1.heap.objs.size + j) with
    | none => rfl
    | some o => have := Heap.lt_size q; exact absurd (show @LT.lt Nat _ (s1.heap.objs.size + j) s1.heap.objs.size from this) (by lia)
  have fresh0 : ∀ j : Nat, s.heap.get? (s1.heap.objs.size + j) = Option.none := fun j => by
    cases q : s.heap.get? (s1.heap.objs.size + j) with
    | none => rfl
    | some o => have := fresh j; rw [g1.keep _ _ q] at this; cases this
  have freshZ : ∀ j : Nat, Z1 (s1.heap.objs.size + j) = Option.none := fun j => by
    cases q : Z1 (s1.heap.objs.size + j) with
    | none => rfl
    | some o => have := fresh j; rw [S1.zin _ _ q] at this; cases this
  have all : ∀ b ∈ ([s1.heap.objs.size + 4, s1.heap.objs.size + 2, s1.heap.objs.size + 3, s1.heap.objs.size, s1.heap.objs.size + 1] : List Addr), ∃ j : Nat, j < 5 ∧ b = s1.heap.objs.size + j := fun b hb => by
    simp only [List.mem_cons, List.not_mem_nil, or_false] at hb
    rcases hb with rfl | rfl | rfl | rfl | rfl
    · exact ⟨4, by lia, rfl⟩
    · exact ⟨2, by lia, rfl⟩
    · exact ⟨3, by lia, rfl⟩
    · exact ⟨0, by lia, rfl⟩
    · exact ⟨1, by lia, rfl⟩
  have ne : ∀ i j : Nat, i ≠ j → ((s1.heap.objs.size + i : Nat) : Addr) ≠ s1.heap.objs.size + j := fun i j q e => q (Nat.add_left_cancel e)
  have nl : ∀ l : Addr, @LT.lt Nat _ l s1.heap.objs.size → ∀ j : Nat, l ≠ s1.heap.objs.size + j := fun l h j e => by
    have e' : @Eq Nat l (s1.heap.objs.size + j) := e
    lia
  have Dj : ZipApart (s1.heap.objs.size + 4) (s1.heap.objs.size + 2) (s1.heap.objs.size + 3) s1.heap.objs.size (s1.heap.objs.size + 1) l1 l2 :=
    ⟨ne 2 4 (by lia), ne 3 4 (by lia), ne 0 4 (by lia), ne 1 4 (by lia), ne 2 3 (by lia), ne 2 0 (by lia), ne 2 1 (by lia), ne 3 0 (by lia), ne 3 1 (by lia), ne 0 1 (by lia),
      nl l1 lt1 4, nl l1 lt1 3, nl l1 lt1 0, nl l1 lt1 1, nl l2 lt2 4, nl l2 lt2 3, nl l2 lt2 0, nl l2 lt2 1⟩
  refine k _ _ _ _ Z1 (Itr.zip (Z0 := Z1) S.cx.handled Dj za zb ra rb fun b hb => ?_) (S1.grow g2) (g1.trans g2) (fun b hb => ?_) (fun b hb => ?_) (fun b hb => ?_) ⟨0, rfl, Nat.zero_le _, hz, hTI, ⟨_, _, hTO⟩, hi1, hi2, .refl _, fun b hb => ?_⟩
  · obtain ⟨j, _, rfl⟩ := all b hb; exact S.b_none (fresh0 j)
  · obtain ⟨j, _, rfl⟩ := all b hb; exact fresh0 j
  · obtain ⟨j, _, rfl⟩ := all b hb; exact freshZ j
  · obtain ⟨j, hj, rfl⟩ := all b hb
    show @LT.lt Nat _ (s1.heap.objs.size + j) h'.objs.size
    rw [hsz]; lia
  · obtain ⟨j, _, rfl⟩ := all b hb; exact freshZ j
end
end Mine
namespace Mine
section
variable {C : Cx} {ρ ρ' : Rho} {R : Out → Rho → Prop}

theorem rep_inst {Z : Zone} {v : Value} {K : Addr} {ns : List Str} {ds : List D} : Rep Z (.inst K ns ds) v ↔ ∃ a dx es n vs, v = .ref a ∧ Z a = some (instObj K dx) ∧ Z dx = some (dictOf es n) ∧ es.map (·.val) = vs ∧ Reps Z ds vs ∧
      (∀ x, getL x es = some ((ns.zip vs).lookup x)) := by rw [Rep]

theorem rep_handed {Z : Zone} {d : D} {v : Value} (r : Rep Z d v) : handedIn v = true := by
  cases d with
  | none => rw [rep_none.mp r]; rfl
  | bool b => rw [rep_bool.mp r]; rfl
  | int i => obtain ⟨t, rfl⟩ := rep_int.mp r; rfl
  | str l => obtain ⟨_, t, rfl⟩ := rep_str.mp r; rfl
  | list xs => obtain ⟨a, _, _, rfl, _⟩ := rep_list.mp r; rfl
  | tup xs => obtain ⟨a, _, _, rfl, _⟩ := rep_tup.mp r; rfl
  | dict w kvs => obtain ⟨a, _, _, rfl, _⟩ := rep_dict.mp r; rfl
  | inst K ns ds => obtain ⟨a, _, _, _, _, rfl, _⟩ := rep_inst.mp r; rfl

theorem zip_lookup {Z : Zone} {d : D} {x : Str} : ∀ {ns : List Str} {ds : List D} {vs : List Value}, Reps Z ds vs → (ns.zip ds).lookup x = some d → ∃ v, (ns.zip vs).lookup x = some v ∧ Rep Z d v
  | [], _, _, _, h => by simp at h
  | n :: ns, [], _, _, h => by simp at h
  | n :: ns, e :: ds, vs, r, h => by
    obtain ⟨v, vs, rfl, r1, r2⟩ := reps_cons.mp r
    rw [List.zip_cons_cons, List.lookup_cons] at h ⊢
    cases hx : x == n with
    | true => rw [hx] at h; cases h; exact ⟨v, rfl, r1⟩
    | false => rw [hx] at h; exact zip_lookup r2 h

theorem instAt_of {h : Heap} {a dx K : Addr} {es : List DictEntry} {n : Nat} (h1 : h.get? a = some (instObj K dx)) (h2 : h.get? dx = some (dictOf es n)) : InstAt h a (instObj K dx) K (some (dictOf es n)) := ⟨h1, rfl, rfl, h2⟩

/-- x.name of a frozen object -/
theorem Ev.attr {x name : Str} {xp pos : Pos} {K : Addr} {ns : List Str} {ds : List D} {d : D} {attr : Option Value} (h : Ev C ρ (.Name x xp) (.inst K ns ds)) (hl : (ns.zip ds).lookup name = some d) (hg : plainGet C.G.K K name = true) (hh : hasDictIn C.G.K K = true)
    (ha : findIn C.G.K (.ref K) name = some attr) (hn : noGet C.G.K attr = true) : Ev C ρ (.Attribute (.Name x xp) name pos) d := by
  refine ⟨fun s Z Q E S k => ?_⟩
  refine Attribute_name (h.use S fun v s1 Z1 g1 S1 r1 => ?_)
  obtain ⟨a, dx, es, n, vs, rfl, z1, z2, e1, e2, e3⟩ := rep_inst.mp r1
  obtain ⟨v, q1, q2⟩ := zip_lookup e2 hl
  have hv : getL name es = some (some v) := by rw [e3, q1]
  refine get_value (S.cx.glo.kin.keeps S1.zok.keep) (instAt_of (S1.zin _ _ z1) (S1.zin _ _ z2)) (plainGet_of hg).1 (findObj_own hh ha hn hv) (rep_handed q2) ?_
  exact k _ _ Z1 (g1.trans (.tokA S1.zin)) q2

/-- o.name(args) of a frozen object: a def of its class -/
theorem Ev.meth {o : Expr} {name : Str} {args : List Expr} {apos pos : Pos} {K f : Addr} {ns : List Str} {ds das : List D} {d : D} {n : Nat} (ho : Ev C ρ o (.inst K ns ds)) (hs : Evs C ρ args das) (hf : FnOk C.G n f (.inst K ns ds :: das) d) (hn : n ≤ C.room)
    (hl : ns.contains name = false) (hg : plainGet C.G.K K name = true) (hfi : findIn C.G.K (.ref K) name = some (some (.ref f))) (ht : isFn C.G.K (.ref f) = true)
    (hbase : attributeBase o name C.env (eval o C.env) = eval o C.env) (hfew : args.length < 30) (hline : (apos.endLine == pos.line) = true) : Ev C ρ (.Call (.Attribute o name apos) args [] pos) d := by
  refine ⟨fun s Z Q E S k => ?_⟩
  refine wp_methCall hbase (noStar hs).2 hfew hline (ho.use S fun v s1 Z1 g1 S1 r1 pl => ?_)
  have r1' := r1
  obtain ⟨a, dx, es, m, vs, rfl, z1, z2, e1, e2, e3⟩ := rep_inst.mp r1
  have hno : ∀ (ns : List Str) (vs : List Value), ns.contains name = false → (ns.zip vs).lookup name = Option.none := by
    intro ns
    induction ns with
    | nil => intro vs _; rfl
    | cons y ns ih =>
      intro vs h
      cases vs with
      | nil => rfl
      | cons v vs =>
        rw [List.contains_cons, Bool.or_eq_false_iff] at h
        rw [List.zip_cons_cons, List.lookup_cons, h.1]
        exact ih vs h.2
  have hv : getL name es = some Option.none := by rw [e3, hno _ _ hl]
  refine method_fn (S.cx.glo.kin.keeps S1.zok.keep) (instAt_of (S1.zin _ _ z1) (S1.zin _ _ z2)) (plainGet_of hg).1 (plainGet_of hg).2 hfi (beq_iff_eq.mp ht) (by show (lookIn name (dictOf es m)).map _ = _; rw [lookIn_dict, hv]; rfl) ?_
  obtain ⟨fo, fd, hfo, hfd⟩ := hf.fn
  refine callFn_use (first := [.ref a]) hfo hfd hs S1 fun us s2 Z2 g2 S2 r2 => ?_
  have h1 := S.cx.depth
  have h2 := S.cx.units
  exact hf.run C.A s2 Z2 (.ref a :: us) Q E S.cx.handled (by lia) (by lia) S2.zok (.cons (r1'.mono g2.sub) r2) fun v s' Z' g r => k v s' Z' ((g1.trans g2).trans g) r

/-- K.name of a class: a str -/
theorem Ev.clsStr {x name : Str} {xp pos : Pos} {K : Addr} {mc : Value} {l : List Nat} {t : Tok} (hm : (x, Ent.glob (.ref K)) ∈ ρ) (hr : readsIn C.G.K K mc = true) (e : findCls C.G.K (.ref K) mc name = some (.val (.str (st l) t))) (hl : l.length ≤ sizeLine) : Ev C ρ (.Attribute (.Name x xp) name pos) (.str l) := by
  refine ⟨fun s Z Q E S k => ?_⟩
  refine Attribute_name (glob_use hm S ?_)
  refine cls_value (S.cx.glo.kin.keeps S.zok.keep) hr e rfl ?_
  exact k _ _ Z (.tokA S.zin) (rep_str.mpr ⟨hl, t, rfl⟩)
end
end Mine
namespace Mine
section
variable {prog : Program} {w : World} {A : Around} {K : Frag} {C x dx : Addr} {s : Shared} {R : Result → Shared → Prop}

/-- object.__setattr__ with the heap known -/
theorem osa_here {name : Str} {tk : Tok} {v : Value} {es es' : List DictEntry} {n n' : Nat} (X : K.In s.heap) (h1 : s.heap.get? x = some (instObj C dx)) (h2 : s.heap.get? dx = some (dictOf es n)) (hp : plainOver K C = true) (ht : takerIn K C name = some none) (hh : hasDictIn K C = true)
    (hl : (getL name es).isSome = true) (e : Obj.putName name (PyData.keyHash w.params name) (.str name s.toks) v (dictOf es n) = dictOf es' n') (hz : es'.length ≤ 1000)
    (h : ∀ h', h'.get? dx = some (dictOf es' n') → Heap.SameBut dx s.heap h' → R (.ok (.ret .none)) { s with heap := h', toks := s.toks + 1 }) :
    codeAny (model prog w) A (.call (.builtin "object.__setattr__") ⟨[.ref x, .str name tk, v], []⟩) R s := by
  have I := instAt_of h1 h2
  refine osa_open X I hp ht fun b => ?_
  obtain ⟨cd, hc, hd'⟩ := any_some hh
  have D' : (s.heap.update dx (Obj.putName name (PyData.keyHash w.params name) (.str name s.toks) v)).get? dx = some (dictOf es' n') := by
    rw [Heap.get?_update_self _ h2 (by rw [e]; rfl), e]
  refine wpAny_bind (wpAny_pure (wpAny_bind (wpAny_bind (wpAny_loadPart h1 (wpAny_bind ((looks_clsIn X hc).here ?_))))))
  rw [hd']
  refine wpAny_pure (a := some dx) (wpAny_bind (wpAny_pure (wpAny_bind ?_)))
  unfold nsSet
  refine wpAny_bind (wpAny_bind (wpAny_askSetting (wpAny_pure (wpAny_bind (wpAny_mkText (wpAny_bind (wpAny_loadPart h2 ?_)))))))
  dsimp only
  have c : (!es.toArray.any (·.key.isStr name) && es.toArray.any (·.refKey)) = false := by
    rw [← Array.any_toList, ← Array.any_toList]
    unfold getL at hl
    split at hl
    · rename_i en he
      rw [List.any_eq_true.mpr ⟨en, List.mem_of_find?_eq_some he, List.find?_some he⟩]; rfl
    · split at hl
      · cases hl
      · rename_i z; rw [Bool.not_eq_true] at z; rw [z, Bool.and_false]
  rw [aRefKeyMayBeTheName_at, c]
  refine wpAny_updatePart h2 ?_
  refine wpAny_bind (wpAny_lookBehind D' (by exact pastItsLine_dict (by rw [List.size_toArray, sizeLine_eq]; lia)) ?_)
  exact wpAny_pure (h _ D' (Heap.SameBut.update ..))

theorem wp_setAttr {E : Value → Shared → Prop} {name : Str} {v : Value} {Q : Unit → Shared → Prop} {es es' : List DictEntry} {n n' : Nat} (X : K.In s.heap) (h1 : s.heap.get? x = some (instObj C dx)) (h2 : s.heap.get? dx = some (dictOf es n)) (hp : plainOver K C = true) (ht : takerIn K C name = some none) (hh : hasDictIn K C = true)
    (hs : findIn K (.ref C) "__setattr__" = some (some (.builtin "object.__setattr__")))
    (hl : (getL name es).isSome = true) (e : Obj.putName name (PyData.keyHash w.params name) (.str name (s.toks + 1)) v (dictOf es n) = dictOf es' n') (hz : es'.length ≤ 1000)
    (h : ∀ h', h'.get? dx = some (dictOf es' n') → Heap.SameBut dx s.heap h' → Q () { s with heap := h', toks := s.toks + 2 }) : wpAny (model prog w) A (setAttr (.ref x) name v) Q E s :=
  set_plain X (instAt_of h1 h2) hs (osa_here (s := { s with toks := s.toks + 1 }) X h1 h2 hp ht hh hl e hz fun h' a b => h h' a b)
end
end Mine
namespace Mine

theorem putL_new {name : Str} {hsh : Int} {key v : Value} : ∀ {es : List DictEntry}, es.find? (·.key.isStr name) = none → putL name hsh key v es = es ++ [⟨hsh, key, v⟩]
  | [], _ => rfl
  | e :: r, h => by
    rw [List.find?_cons] at h
    cases q : e.key.isStr name with
    | true => rw [q] at h; cases h
    | false =>
      rw [q] at h
      show (if e.key.isStr name = true then _ else _) = _
      rw [q, if_neg Bool.false_ne_true, putL_new h]; rfl

theorem getL_new {name : Str} {es : List DictEntry} (h : getL name es = some none) : es.find? (·.key.isStr name) = none ∧ es.any (·.refKey) = false := by
  unfold getL at h
  split at h
  · cases h
  · rename_i q
    refine ⟨q, ?_⟩
    split at h
    · cases h
    · rename_i z; simpa using z

theorem lookup_append {x : Str} : ∀ {ns : List Str} {vs : List Value} {name : Str} {v : Value}, ns.length = vs.length → ((ns ++ [name]).zip (vs ++ [v])).lookup x = ((ns.zip vs).lookup x).or (if x == name then some v else none)
  | [], [], name, v, _ => by
    simp only [List.nil_append, List.zip_cons_cons, List.zip_nil_left, List.lookup_cons, List.lookup_nil, Option.none_or]
    cases x == name <;> rfl
  | n :: ns, u :: vs, name, v, h => by
    have ih := lookup_append (x := x) (ns := ns) (vs := vs) (name := name) (v := v) (by simpa using h)
    simp only [List.cons_append, List.zip_cons_cons, List.lookup_cons]
    cases x == n with
    | true => rfl
    | false => exact ih
  | [], _ :: _, _, _, h => by simp at h
  | _ :: _, [], _, _, h => by simp at h

theorem getL_append {name : Str} {hsh : Int} {t : Tok} {v : Value} {es : List DictEntry} {ns : List Str} {vs : List Value} (hn : getL name es = some none) (hl : ns.length = vs.length) (h : ∀ x, getL x es = some ((ns.zip vs).lookup x)) (x : Str) :
    getL x (es ++ [⟨hsh, .str name t, v⟩]) = some (((ns ++ [name]).zip (vs ++ [v])).lookup x) := by
  obtain ⟨h1, h2⟩ := getL_new hn
  rw [lookup_append hl]
  have hx := h x
  unfold getL at hx ⊢
  rw [List.find?_append]
  cases q : es.find? (·.key.isStr x) with
  | some e =>
    rw [q] at hx
    have := Option.some.inj hx
    simp [← this]
  | none =>
    rw [q] at hx
    rw [h2] at hx
    have hx' := Option.some.inj hx
    have hx2 : (ns.zip vs).lookup x = none := by simpa using hx'.symm
    rw [hx2]
    have hk : (Value.str name t).isStr x = (x == name) := by
      show (name == x) = (x == name)
      rw [Bool.eq_iff_iff, beq_iff_eq, beq_iff_eq]
      exact ⟨fun h => h.symm, fun h => h.symm⟩
    simp only [Option.none_or, List.find?_cons, hk]
    cases x == name with
    | true => rfl
    | false =>
      show (if (es ++ [(⟨hsh, .str name t, v⟩ : DictEntry)]).any (·.refKey) = true then _ else _) = _
      rw [List.any_append, h2]; rfl

section
variable {C : Cx} {ρ ρ' : Rho} {R : Out → Rho → Prop}
/-- one write into an own object's dict -/
theorem Sat.wroteI {x : Str} {a0 K : Addr} {ns ns' : List Str} {ds ds' : List D} {s : Shared} {Z : Zone} {a dx : Addr} {es : List DictEntry} {n : Nat} {h' : Heap} {es' : List DictEntry} {n' : Nat} {tk : Nat} {m : Str → Option Value} (S : Sat C ρ Z s) (hm : (x, Ent.oinst a0 K ns ds) ∈ ρ) (hp : Put ρ x (.oinst a0 K ns' ds') ρ')
    (hno : ∀ p ∈ ρ, p.1 ≠ x → match p.2 with | .oinst .. => False | .ownd _ => False | _ => True) (hn : s.heap.Ns C.L m) (hv : VarIs C.env s.heap m x (.ref a)) (ha : s.heap.get? a = some (instObj K dx)) (hd : s.heap.get? dx = some (dictOf es n))
    (hza : Z a = none) (hz : Z dx = none) (hb : C.B dx = none) (hba : C.B a = none) (hdL : dx ≠ C.L) (haL : a ≠ C.L) (had : a ≠ dx) (hae : a = a0) (hs : Heap.SameBut dx s.heap h') (hd' : h'.get? dx = some (dictOf es' n'))
    (hr : Reps Z ds' (es'.map (·.val))) (hg : ∀ x, getL x es' = some ((ns'.zip (es'.map (·.val))).lookup x)) :
    Sat C ρ' Z { s with heap := h', toks := tk } ∧ GrowS s Z { s with heap := h', toks := tk } Z := by
  obtain ⟨m0, hn0, he, hap⟩ := S.ns
  have hmm : m = m0 := by
    obtain ⟨o, es, ep, h1, h2, _, h3⟩ := hn
    obtain ⟨o0, es0, ep0, h10, h20, _, h30⟩ := hn0
    rw [h10] at h1; cases h1
    rw [h20] at h2; cases h2
    funext y; rw [← h3, ← h30]
  subst hmm
  have hmem := hp.mem S.nodup
  have hcell : ∀ y c, C.env.cells.lookup y = some c → c ≠ dx := fun y c hc q => by
    obtain ⟨a1, a2, ⟨o, v', a3, a4⟩, a5⟩ := S.cells y c hc
    rw [q, hd] at a3; cases a3; cases a4
  have hvar : ∀ y v, VarIs C.env s.heap m y v → VarIs C.env h' m y v := fun y v q => q.imp id fun ⟨a', c, o, b, e, d⟩ => ⟨a', c, o, b, (hs.2 _ (hcell _ _ b)).trans e, d⟩
  have hvar' : ∀ y v, VarIs C.env h' m y v → VarIs C.env s.heap m y v := fun y v q => q.imp id fun ⟨a', c, o, b, e, d⟩ => ⟨a', c, o, b, (hs.2 _ (hcell _ _ b)).symm.trans e, d⟩
  refine ⟨⟨S.cx, by rw [hp.names]; exact S.nodup, ⟨m, hn.sameBut hs (Ne.symm hdL), fun p hp' => ?_, fun p hp' q hq o1 o2 b v1 v2 => ?_⟩, fun b o e => (hs.2 b (fun q => by subst q; rw [hb] at e; cases e)).trans (S.keep b o e), S.bL, S.z0,
    fun b o e => (hs.2 b (fun q => by subst q; rw [hz] at e; cases e)).trans (S.zin b o e), S.zL, S.znew, fun y c hc => ?_, S.cinj, ⟨S.rest.1, S.rest.2, S.rest.3⟩⟩, ⟨.refl _, fun b o us e d => ?_, fun _ _ _ _ _ z => z⟩⟩
  · rcases hmem p hp' with ⟨q1, q2⟩ | ⟨q1, q2⟩
    · rw [q1, q2]
      exact ⟨(he _ hm).1, a, dx, es', n', _, hvar _ _ hv, (hs.2 _ had).trans ha, hd', hza, hz, hb, hba, hdL, haL, had, rfl, hr, hg, hae⟩
    · have hk := he p q2
      have hno' := hno p q2 q1
      obtain ⟨y, e⟩ := p
      cases e with
      | unset => exact hk
      | val d => obtain ⟨w, v, hv, hr⟩ := hk; exact ⟨w, v, hvar _ _ hv, hr⟩
      | own ys => obtain ⟨w, b, us, n', hv', k1, k2⟩ := hk; exact ⟨w, b, us, n', hvar _ _ hv', (hs.2 _ (fun q => by rw [q, hd] at k1; have := congrArg Obj.data (Option.some.inj k1); cases this)).trans k1, k2⟩
      | ownd ys => exact hno'.elim
      | oinst a0 K ns ds => exact hno'.elim
      | glob v => exact hk
  · rcases hmem p hp' with ⟨q1, q2⟩ | ⟨q1, q2⟩ <;> rcases hmem q hq with ⟨r1, r2⟩ | ⟨r1, r2⟩
    · rw [q1, r1]
    · rw [q1]; rw [q1] at v1; exact hap (x, .oinst a0 K ns ds) hm q r2 rfl o2 b (hvar' _ _ v1) (hvar' _ _ v2)
    · rw [r1]; rw [r1] at v2; exact hap p q2 (x, .oinst a0 K ns ds) hm o1 rfl b (hvar' _ _ v1) (hvar' _ _ v2)
    · exact hap p q2 q r2 o1 o2 b (hvar' _ _ v1) (hvar' _ _ v2)
  · obtain ⟨a1, a2, ⟨o, v', a3, a4⟩, a5⟩ := S.cells y c hc
    exact ⟨a1, a2, ⟨o, v', (hs.2 _ (hcell _ _ hc)).trans a3, a4⟩, a5⟩
  · exact (hs.2 b (fun q => by subst q; rw [hd] at e; cases e; exact d.ndict rfl)).trans e
end
end Mine
namespace Mine
section
variable {C : Cx} {ρ ρ' : Rho} {R : Out → Rho → Prop}

theorem lookup_absent {name : Str} : ∀ (ns : List Str) (vs : List Value), ns.contains name = false → (ns.zip vs).lookup name = Option.none := by
  intro ns
  induction ns with
  | nil => intro vs _; rfl
  | cons y ns ih =>
    intro vs h
    cases vs with
    | nil => rfl
    | cons v vs =>
      rw [List.contains_cons, Bool.or_eq_false_iff] at h
      rw [List.zip_cons_cons, List.lookup_cons, h.1]
      exact ih vs h.2

/-- x.name = e for an own object, a new name -/
theorem Ex.setAttr {x name : Str} {e : Expr} {p1 p2 p : Pos} {a0 K : Addr} {ns : List Str} {ds : List D} {d : D} (h : Ev C ρ e d) (hm : (x, Ent.oinst a0 K ns ds) ∈ ρ) (hp : Put ρ x (.oinst a0 K (ns ++ [name]) (ds ++ [d])) ρ') (hnew : ns.contains name = false) (hlen : ns.length = ds.length) (hsz : ns.length < 900)
    (hno : ∀ p ∈ ρ, p.1 ≠ x → match p.2 with | .oinst .. => False | .ownd _ => False | _ => True) (ho : plainOver C.G.K K = true) (ht : takerIn C.G.K K name = some none) (hh : hasDictIn C.G.K K = true) (hst : findIn C.G.K (.ref K) "__setattr__" = some (some (.builtin "object.__setattr__"))) (r : R .next ρ')
    (hs : swapsWith e (some (.Attribute (.Name x p1) name p2)) p.line C.env = pure false := by rfl) : Ex C ρ (.Assign [.Attribute (.Name x p1) name p2] e p) R := by
  refine ⟨fun s Z Q E S k => ?_⟩
  refine plainObj_wpAny_Assign_Attribute (h.use S fun v s1 Z1 g1 S1 r1 => ?_) hs
  obtain ⟨m, hn, he, _⟩ := S1.ns
  obtain ⟨⟨hdb, _⟩, a, dx, es, n, vs, hv, h1, h2, h3, h4, h5, h6, h7, h8, h9, h10, h11, h12, hae⟩ := he _ hm
  have hl1 := h11.length
  have hg := h12 name
  rw [lookup_absent _ _ hnew] at hg
  have hes : es.length = vs.length := by rw [← h10]; simp
  have fin : wpAny C.M C.A (PySem.setAttr (.ref a) name v) (fun _ => Q .next) E s1 := by
    refine wp_setAttr (es' := putL name (PyData.keyHash C.G.w.params name) (.str name (s1.toks + 1)) v es) (n' := putN name es n) (S.cx.glo.kin.keeps S1.zok.keep) h1 h2 ho ht hh hst (by rw [hg]; rfl) (putName_dict ..) ?_ fun h' hd' hs' => ?_
    · rw [putL_new (getL_new hg).1]; simp; lia
    · rw [putL_new (getL_new hg).1] at hd'
      obtain ⟨S2, g2⟩ := S1.wroteI (tk := s1.toks + 2) hm hp hno hn hv h1 h2 h3 h4 h5 h6 h7 h8 h9 hae hs' hd' (by rw [List.map_append, h10]; exact h11.append (.cons r1 .nil))
        (fun y => by rw [List.map_append, h10]; exact getL_append hg (by lia) h12 y)
      exact k .next ρ' _ Z1 _ r S2 (g1.s.trans g2) rfl
  refine wpAny_Name ?_ hdb
  rcases hv with ⟨k1, e⟩ | ⟨k1, c, o, a', b, e⟩
  · exact wpAny_loadName_local S.cx.kind k1 hn e fin
  · exact wpAny_loadName_cell S.cx.kind k1 a' ⟨o, b, e⟩ fin
end
end Mine
namespace Mine
section
variable {C : Cx} {ρ ρ' : Rho} {R : Out → Rho → Prop}

/-- ghost: an own object is frozen -/
theorem Sat.freezeI {x : Str} {a0 K : Addr} {ns : List Str} {ds : List D} {s : Shared} {Z : Zone} (S : Sat C ρ Z s) (hno : ∀ p ∈ ρ, p.1 ≠ x → match p.2 with | .oinst .. => False | .ownd _ => False | _ => True) (hm : (x, Ent.oinst a0 K ns ds) ∈ ρ) (hp : Put ρ x (.val (.inst K ns ds)) ρ') :
    ∃ Z', Sat C ρ' Z' s ∧ GrowS s Z s Z' := by
  obtain ⟨m, hn, he, hap⟩ := S.ns
  obtain ⟨hat, a, dx, es, n, vs, hv, h1, h2, h3, h4, h5, h6, h7, h8, h9, h10, h11, h12, hae⟩ := he _ hm
  have sub1 : ZSub Z (Z.put a (instObj K dx)) := Zone.put_sub h3
  have other1 : ∀ b, b ≠ a → Z b = none → (Z.put a (instObj K dx)) b = none := fun b hb hz => by unfold Zone.put; rw [if_neg hb]; exact hz
  have hzd : (Z.put a (instObj K dx)) dx = none := other1 _ (Ne.symm h9) h4
  have sub2 : ZSub (Z.put a (instObj K dx)) ((Z.put a (instObj K dx)).put dx (dictOf es n)) := Zone.put_sub hzd
  have hsub := sub1.trans sub2
  have other : ∀ b, b ≠ a → b ≠ dx → Z b = none → ((Z.put a (instObj K dx)).put dx (dictOf es n)) b = none := fun b hb hb' hz => by
    show (if b = dx then _ else _) = _
    rw [if_neg hb']; exact other1 b hb hz
  have hcases : ∀ b o, ((Z.put a (instObj K dx)).put dx (dictOf es n)) b = some o → (b = a ∧ o = instObj K dx) ∨ (b = dx ∧ o = dictOf es n) ∨ Z b = some o := fun b o e => by
    rcases Zone.put_cases e with ⟨q, r⟩ | e
    · exact .inr (.inl ⟨q, r⟩)
    · rcases Zone.put_cases e with ⟨q, r⟩ | e
      · exact .inl ⟨q, r⟩
      · exact .inr (.inr e)
  have hmem := hp.mem S.nodup
  refine ⟨(Z.put a (instObj K dx)).put dx (dictOf es n), ⟨S.cx, by rw [hp.names]; exact S.nodup, ⟨m, hn, fun p hp' => ?_, fun p hp' q hq o1 o2 => ?_⟩, S.keep, S.bL, S.z0.trans hsub, fun b o e => ?_, ?_, fun b o e => ?_, fun y c hc => ?_, S.cinj, S.rest⟩,
    ⟨hsub, fun _ _ _ e _ => e, fun b o us e d z => other _ (fun q => by rw [q, h1] at e; cases e; exact d.ninst) (fun q => by rw [q, h2] at e; cases e; exact d.ndict rfl) z⟩⟩
  · rcases hmem p hp' with ⟨q1, q2⟩ | ⟨q1, q2⟩
    · rw [q1, q2]
      exact ⟨hat, _, hv, rep_inst.mpr ⟨a, dx, es, n, vs, rfl, sub2 _ _ (Zone.put_same _ _ _), Zone.put_same _ _ _, h10, h11.mono hsub, h12⟩⟩
    · have hk := he p q2
      have hapx : p.2.isOwn = true → ∀ b, VarIs C.env s.heap m p.1 (.ref b) → b ≠ a := fun ho b vb hba => q1 (hap p q2 (x, .oinst a0 K ns ds) hm ho rfl a (hba ▸ vb) hv)
      have hno' := hno p q2 q1
      obtain ⟨y, e⟩ := p
      cases e with
      | unset => exact hk
      | val d => obtain ⟨w, v, hv, hr⟩ := hk; exact ⟨w, v, hv, hr.mono hsub⟩
      | own ys =>
        obtain ⟨w, b, us, n', hv', k1, k2, k3, k4, k5⟩ := hk
        exact ⟨w, b, us, n', hv', k1, other _ (hapx rfl _ hv') (fun q => by rw [q, h2] at k1; have := congrArg Obj.data (Option.some.inj k1); cases this) k2, k3, k4, k5.mono hsub⟩
      | ownd ys => exact hno'.elim
      | oinst a0 K ns ds => exact hno'.elim
      | glob v => exact hk
  · rcases hmem p hp' with ⟨q1, q2⟩ | ⟨q1, q2⟩
    · rw [q2] at o1; cases o1
    · rcases hmem q hq with ⟨r1, r2⟩ | ⟨r1, r2⟩
      · rw [r2] at o2; cases o2
      · exact hap p q2 q r2 o1 o2
  · rcases hcases b o e with ⟨rfl, rfl⟩ | ⟨rfl, rfl⟩ | e
    · exact h1
    · exact h2
    · exact S.zin _ _ e
  · exact other _ (Ne.symm h8) (Ne.symm h7) S.zL
  · rcases hcases b o e with ⟨rfl, rfl⟩ | ⟨rfl, rfl⟩ | e
    · exact .inr h6
    · exact .inr h5
    · exact S.znew _ _ e
  · obtain ⟨a1, a2, ⟨o, v', a3, a4⟩, a5⟩ := S.cells y c hc
    exact ⟨other _ (fun q => by rw [q, h1] at a3; cases a3; cases a4) (fun q => by rw [q, h2] at a3; cases a3; cases a4) a1, a2, ⟨o, v', a3, a4⟩, a5⟩

/-- a plain value read out of an own object -/
theorem Ev.peekI {x : Str} {a0 K : Addr} {ns : List Str} {ds : List D} {e : Expr} {d : D} (hno : ∀ p ∈ ρ, p.1 ≠ x → match p.2 with | .oinst .. => False | .ownd _ => False | _ => True) (hm : (x, Ent.oinst a0 K ns ds) ∈ ρ) (hp : Put ρ x (.val (.inst K ns ds)) ρ') (h : Ev C ρ' e d) (hd : scalar d = true) : Ev C ρ e d := by
  refine ⟨fun s Z Q E S k => ?_⟩
  obtain ⟨Z', S', g⟩ := S.freezeI hno hm hp
  refine h.run s Z' Q E S' fun v s' Z'' g' r => k v s' Z ⟨g'.keep, .refl _, fun _ _ e => .inl e, fun a o e => g'.keep _ _ (S.zin _ _ e), g'.rest⟩ (scalar_rep hd r)
end
end Mine
namespace Mine
/-- the frame at an __init__'s start -/
theorem frame_startI {G : Glo} {n : Nat} {f : Addr} {fd : FuncData} {self : Str} {params : List Str} {K a dx : Addr} {ds : List D} {ρ₀ : Rho} {A : Around} {s s₁ : Shared} {Z : Zone} {vs : List Value} (hG : GloOk G)
    (hgl : fd.globals = mainGlobals) (hbu : fd.builtins = builtinsNs) (hkind : fd.scope.kind = .function)
    (hpl : params.length = ds.length) (hpn : (self :: params).Nodup) (hsk : (self == ("__debug__" : Str)) = false ∧ fd.scope.names.lookup self = some .local) (ha : s.heap.get? a = some (instObj K dx)) (hdx : s.heap.get? dx = some (dictOf [] 0)) (hza : Z a = none) (hzd : Z dx = none) (had : a ≠ dx) (hnd : (((self, Ent.oinst a K [] []) :: ρ₀).map (·.1)).Nodup) (hst : ∀ p ∈ ρ₀, EntStatic G fd.scope (params.zip ds) p.1 p.2)
    (hh : A.handled = none) (hdep : A.depth + (n + 1) < recursionLimit) (hun : A.units + 64 * (n + 1) + 64 < cLine) (z : ZOk G Z s.heap) (hr : Reps Z ds vs)
    (x : InCallC s (callEnvC fd s.heap.objs.size f).locals (bindL (callEnvC fd s.heap.objs.size f).kindOf ((self :: params).zip (.ref a :: vs)) fun _ => none) (callEnvC fd s.heap.objs.size f).cells (bindC (callEnvC fd s.heap.objs.size f).kindOf ((self :: params).zip (.ref a :: vs)) fun _ => none) s₁) :
    Sat { G := G, A := A.deeper (callEnvC fd s.heap.objs.size f), env := callEnvC fd s.heap.objs.size f, room := n, B := (fun b => if b = a ∨ b = dx then none else s.heap.get? b), Zb := Z, s0 := s, wr := true } ((self, Ent.oinst a K [] []) :: ρ₀) Z s₁ := by
  have hvl := hr.length
  have hzn : (((self :: params).zip (.ref a :: vs)).map (·.1)) = self :: params := zip_names (by simp; lia)
  obtain ⟨h1, tk, e1⟩ := x.toInCall.same
  have fresh : ∀ a, s.heap.objs.size ≤ a → s.heap.get? a = none := fun a ha => by
    cases q : s.heap.get? a with
    | none => rfl
    | some o => exact absurd (Heap.lt_size q) (Nat.not_lt.mpr ha)
  have znone : ∀ a, s.heap.get? a = none → Z a = none := fun a ha => by
    cases q : Z a with
    | none => rfl
    | some o => rw [z.zin _ _ q] at ha; cases ha
  have hcells : ∀ y, fd.scope.names.lookup y = some .cell → ∃ c, (callEnvC fd s.heap.objs.size f).cells.lookup y = some c := fun y hy => by
    have := cellsFrom_some fd.scope.names (s.heap.objs.size + 1) [] (.inl hy)
    exact Option.isSome_iff_exists.mp this
  have vat : ∀ y, (y == ("__debug__" : Str)) = false → (fd.scope.names.lookup y = some .local ∨ fd.scope.names.lookup y = some .cell) → VarAt (callEnvC fd s.heap.objs.size f) y := fun y h0 hy =>
    ⟨h0, hy.imp id fun q => ⟨q, hcells y q⟩⟩
  have lt1 := Heap.lt_size ha
  have lt2 := Heap.lt_size hdx
  have bsub : ∀ b o, (if b = a ∨ b = dx then none else s.heap.get? b) = some o → s.heap.get? b = some o := fun b o e => by
    split at e
    · cases e
    · exact e
  have bfresh : ∀ b, s.heap.objs.size ≤ b → (if b = a ∨ b = dx then none else s.heap.get? b) = none := fun b hb => by
    split
    · rfl
    · exact fresh b hb
  have hself : VarIs (callEnvC fd s.heap.objs.size f) s₁.heap (bindL (callEnvC fd s.heap.objs.size f).kindOf ((self :: params).zip (.ref a :: vs)) fun _ => none) self (.ref a) := .inl ⟨hsk.2, bindL_mem (by rw [hzn]; exact hpn) (.head _) hsk.2⟩
  refine ⟨⟨hG, hkind, hgl, hbu, hh, by show A.depth + 1 + n < _; lia, by show A.units + 3 + 64 * n + 64 < _; lia, z.top⟩, hnd, ⟨_, x.toInCall.ns, fun p hp => ?_, fun p hp q hq o1 o2 b v1 v2 => ?_⟩, fun b o e => x.toInCall.keep b o (bsub b o e), bfresh _ (Nat.le_refl _), .refl _,
    fun a o e => x.toInCall.keep _ _ (z.zin _ _ e), znone _ (fresh _ (Nat.le_refl _)), fun a o e => .inl e, fun y c hc => ?_, fun y y' c h1 h2 => pair_inj x.apart (lookup_mem h1) (lookup_mem h2), by rw [e1]; exact ⟨rfl, rfl, rfl⟩⟩
  · rcases List.mem_cons.mp hp with rfl | hp
    · exact ⟨vat self hsk.1 (.inl hsk.2), a, dx, [], 0, [], hself, x.toInCall.keep _ _ ha, x.toInCall.keep _ _ hdx, hza, hzd, if_pos (.inr rfl), if_pos (.inl rfl), Nat.ne_of_lt lt2, Nat.ne_of_lt lt1, had, rfl, .nil, fun _ => rfl, rfl⟩
    · have hp' := hst p hp
      obtain ⟨y, e⟩ := p
      cases e with
      | unset => exact vat y hp'.1 hp'.2
      | val d =>
        obtain ⟨a1, a2, a3⟩ := hp'
        obtain ⟨v, b1, b2⟩ := zip_reps hr a3
        have b1' : (y, v) ∈ (self :: params).zip (.ref a :: vs) := .tail _ b1
        refine ⟨vat y a1 a2, v, ?_, b2⟩
        rcases a2 with a2 | a2
        · exact .inl ⟨a2, bindL_mem (by rw [hzn]; exact hpn) b1' a2⟩
        · obtain ⟨c, hc⟩ := hcells y a2
          obtain ⟨o, q1, q2⟩ := x.cell y c hc
          refine .inr ⟨a2, c, o, hc, q1, ?_⟩
          rw [q2, bindC_mem (by rw [hzn]; exact hpn) b1' (by show fd.scope.names.lookup y ≠ _; rw [a2]; decide)]
      | glob v =>
        obtain ⟨a1, a2, a3⟩ := hp'
        refine ⟨a1, a2, a3.imp (fun q => mg_of hG.kin hG.g q) fun ⟨q1, q2, q3⟩ => ⟨mg_none_of hG.kin hG.g q1, (hG.builtins y q3).trans q2⟩⟩
      | own xs => cases hp'
      | ownd xs => cases hp'
      | oinst a0 K ns ds => cases hp'
  · have nown : ∀ p ∈ ρ₀, p.2.isOwn = true → False := fun p hp o1 => by
      have hp' := hst p hp
      obtain ⟨y, e⟩ := p
      cases e with
      | unset => cases o1
      | val d => cases o1
      | glob v => cases o1
      | own xs => cases hp'
      | ownd xs => cases hp'
      | oinst a0 K ns ds => cases hp'
    rcases List.mem_cons.mp hp with rfl | hp
    · rcases List.mem_cons.mp hq with rfl | hq
      · rfl
      · exact (nown _ hq o2).elim
    · exact (nown _ hp o1).elim
  · have hlt := x.above y c (lookup_mem hc)
    have hge : s.heap.objs.size ≤ c := Nat.le_of_lt hlt
    obtain ⟨o, q1, q2⟩ := x.cell y c hc
    exact ⟨znone _ (fresh _ hge), Nat.ne_of_gt hlt, ⟨o, _, q1, q2⟩, fun _ => bfresh _ hge⟩
end Mine
namespace Mine

/-- the contract of an __init__: it fills an empty object -/
structure InitOk (G : Glo) (n : Nat) (f K : Addr) (das : List D) (ns : List Str) (ds : List D) : Prop where
  run : ∀ (A : Around) (s : Shared) (Z : Zone) (a dx : Addr) (vs : List Value) (R : Result → Shared → Prop), A.handled = none → A.depth + n < recursionLimit → A.units + 64 * n + 64 < cLine → ZOk G Z s.heap →
    s.heap.get? a = some (instObj K dx) → s.heap.get? dx = some (dictOf [] 0) → Z a = none → Z dx = none → a ≠ dx → Reps Z das vs →
    (∀ s' Z', (∀ b o, b ≠ a → b ≠ dx → s.heap.get? b = some o → s'.heap.get? b = some o) → ZSub Z Z' → (∀ b o, Z' b = some o → Z b = some o ∨ s.heap.get? b = none ∨ b = a ∨ b = dx) → (∀ b o, Z' b = some o → s'.heap.get? b = some o) → SameRest s s' →
      Rep Z' (.inst K ns ds) (.ref a) → R (.ok (.ret .none)) s') → codeAny G.M A (.call (.ref f) ⟨.ref a :: vs, []⟩) R s

theorem InitOk.intro {G : Glo} {n : Nat} {f K : Addr} {o : Obj} {fd : FuncData} {body : List Stmt} {self : Str} {params : List Str} {das ds : List D} {ns : List Str} {ρ₀ : Rho} (hG : GloOk G) (ho : G.K.lookup f = some o) (hd : o.data = .func fd) (hcode : codeIn G.K fd.code fd.qualname = true)
    (hgl : fd.globals = mainGlobals) (hbu : fd.builtins = builtinsNs) (hclo : fd.closure = []) (hkind : fd.scope.kind = .function) (hco : fd.scope.isCoroutine = false) (hgen : fd.scope.isGenerator = false) (hbody : fd.body = .stmts body)
    (hbind : ∀ vs : List Value, vs.length = das.length + 1 → bindArgs fd ⟨vs, []⟩ = pure ((self :: params).zip vs))
    (hpl : params.length = das.length) (hpn : (self :: params).Nodup) (hsk : (self == ("__debug__" : Str)) = false ∧ fd.scope.names.lookup self = some .local) (hpk : ∀ x ∈ params, fd.scope.names.lookup x = some .local ∨ fd.scope.names.lookup x = some .cell)
    (hnd : (self :: ρ₀.map (·.1)).Nodup) (hst : ∀ p ∈ ρ₀, EntStatic G fd.scope (params.zip das) p.1 p.2)
    (hrun : ∀ (C : Cx) (a : Addr), C.G = G → C.room = n → C.wr = true → (∃ L, C.env = callEnvC fd L f) → Exs C ((self, Ent.oinst a K [] []) :: ρ₀) body (fun o ρ => o = .next ∧ (self, Ent.oinst a K ns ds) ∈ ρ)) : InitOk G (n + 1) f K das ns ds := by
  refine ⟨fun A s Z a dx vs R hh hdep hun z ha hdx hza hzd had hr k => ?_⟩
  have hvl := hr.length
  have hzn : (((self :: params).zip (.ref a :: vs)).map (·.1)) = self :: params := zip_names (by simp; lia)
  refine codeAny_call_cells (binds := (self :: params).zip (.ref a :: vs)) (by lia) (z.keep _ _ (hG.kin _ _ ho)) hd (hG.nolimit.keeps z.keep) (codeRec_of (hG.kin.keeps z.keep) hcode) hbody (hbind (.ref a :: vs) (by simp; lia)) hclo ?_ (fun s₁ x => ?_) hco hgen hkind
  · intro p hp
    have : p.1 ∈ self :: params := by rw [← hzn]; exact List.mem_map_of_mem hp
    rcases List.mem_cons.mp this with e | e
    · rw [e]; exact .inl hsk.2
    · exact (hpk _ e).imp id fun q => ⟨q, cellsFrom_some fd.scope.names _ [] (.inl q)⟩
  · have S := frame_startI (n := n) (f := f) (self := self) (params := params) (K := K) (a := a) (dx := dx) hG hgl hbu hkind hpl hpn hsk ha hdx hza hzd had hnd hst hh hdep hun z hr x
    refine (hrun _ a rfl rfl rfl ⟨_, rfl⟩).run s₁ Z _ _ S fun o ρ' s' Z' fl hR S' g hf => ?_
    obtain ⟨rfl, hm⟩ := hR
    rw [FlowIs] at hf
    subst hf
    obtain ⟨m, hn, he, hap⟩ := S'.ns
    obtain ⟨hat, b, dy, es, n', us, hv, h1, h2, h3, h4, h5, h6, h7, h8, h9, h10, h11, h12, rfl⟩ := he _ hm
    have sub1 : ZSub Z' (Z'.put b (instObj K dy)) := Zone.put_sub h3
    have hzd' : (Z'.put b (instObj K dy)) dy = none := by unfold Zone.put; rw [if_neg (Ne.symm h9)]; exact h4
    have sub2 : ZSub (Z'.put b (instObj K dy)) ((Z'.put b (instObj K dy)).put dy (dictOf es n')) := Zone.put_sub hzd'
    have hcases : ∀ c o, ((Z'.put b (instObj K dy)).put dy (dictOf es n')) c = some o → (c = b ∧ o = instObj K dy) ∨ (c = dy ∧ o = dictOf es n') ∨ Z' c = some o := fun c o e => by
      rcases Zone.put_cases e with ⟨q, r⟩ | e
      · exact .inr (.inl ⟨q, r⟩)
      · rcases Zone.put_cases e with ⟨q, r⟩ | e
        · exact .inl ⟨q, r⟩
        · exact .inr (.inr e)
    have hBn : ∀ c, (if c = b ∨ c = dx then none else s.heap.get? c) = none → s.heap.get? c = none ∨ c = b ∨ c = dx := fun c e => by
      split at e
      · rename_i q; exact .inr q
      · exact .inl e
    refine k s' ((Z'.put b (instObj K dy)).put dy (dictOf es n')) (fun c o h1 h2 e => S'.keep c o ?_) ((S'.z0.trans sub1).trans sub2) (fun c o e => ?_) (fun c o e => ?_) S'.rest ?_
    · show (if c = b ∨ c = dx then none else s.heap.get? c) = some o
      rw [if_neg (fun q => q.elim h1 h2)]; exact e
    · rcases hcases c o e with ⟨rfl, _⟩ | ⟨rfl, _⟩ | e
      · exact .inr (.inr (.inl rfl))
      · exact .inr (hBn _ h5)
      · rcases S'.znew _ _ e with q | q
        · exact .inl q
        · exact .inr (hBn _ q)
    · rcases hcases c o e with ⟨rfl, rfl⟩ | ⟨rfl, rfl⟩ | e
      · exact h1
      · exact h2
      · exact S'.zin _ _ e
    · exact rep_inst.mpr ⟨b, dy, es, n', us, rfl, sub2 _ _ (Zone.put_same _ _ _), Zone.put_same _ _ _, h10, h11.mono (sub1.trans sub2), h12⟩

theorem InitOk.def {G : Glo} {n : Nat} {f K : Addr} {o : Obj} {fd : FuncData} {scope : Scope} {body : List Stmt} (self : Str) (params : List Str) (locals : List Str) (globs : List (Str × Value)) {das ds : List D} {ns : List Str} {ρ₀ : Rho} (hG : GloOk G) (ho : G.K.lookup f = some o) (hd : o.data = .func fd) (hcode : codeIn G.K fd.code fd.qualname = true)
    (hgl : fd.globals = mainGlobals) (hbu : fd.builtins = builtinsNs) (hclo : fd.closure = []) (hsc : fd.scope = scope) (hbody : fd.body = .stmts body) (hρ : ρ₀ = rho0 params das locals globs) (hglobs : GlobsAre G.K globs)
    (hbind : ∀ vs : List Value, vs.length = das.length + 1 → bindArgs fd ⟨vs, []⟩ = pure ((self :: params).zip vs)) (hpl : params.length = das.length)
    (hkind : scope.kind = .function) (hco : scope.isCoroutine = false) (hgen : scope.isGenerator = false) (hsk : (self == ("__debug__" : Str)) = false ∧ scope.names.lookup self = some .local)
    (hpk : kindsOk scope (params ++ locals) = true) (hgk : globKinds scope (globs.map (·.1)) = true) (hnd : (self :: (params ++ (locals ++ globs.map (·.1)))).Nodup)
    (hrun : ∀ (C : Cx) (a : Addr), C.G = G → C.room = n → C.wr = true → (∃ L, C.env = callEnvC fd L f) → Exs C ((self, Ent.oinst a K [] []) :: ρ₀) body (fun o ρ => o = .next ∧ (self, Ent.oinst a K ns ds) ∈ ρ)) : InitOk G (n + 1) f K das ns ds := by
  subst hsc
  subst hρ
  have hnd' := List.nodup_cons.mp hnd
  refine InitOk.intro (params := params) hG ho hd hcode hgl hbu hclo hkind hco hgen hbody hbind hpl (List.nodup_cons.mpr ⟨fun q => hnd'.1 (List.mem_append_left _ q), (List.nodup_append.mp hnd'.2).1⟩) hsk (fun x hx => (kindsOk.mem hpk (List.mem_append_left _ hx)).2) ?_ (static_of hpk hgk hglobs) hrun
  have e : (rho0 params das locals globs).map (·.1) = params ++ (locals ++ globs.map (·.1)) := by
    have h1 : ∀ (ps : List Str) (ds : List D), ps.length = ds.length → ((ps.zip ds).map (fun p => (p.1, Ent.val p.2))).map (·.1) = ps := by
      intro ps
      induction ps with
      | nil => intro _ _; rfl
      | cons p ps ih =>
        intro ds h
        cases ds with
        | nil => simp at h
        | cons d ds => simp at h; simpa using ih ds h
    unfold rho0
    rw [List.map_append, List.map_append, h1 _ _ hpl]
    simp [Function.comp_def]
  rw [e]; exact hnd

section
variable {C : Cx} {ρ ρ' : Rho} {R : Out → Rho → Prop}

theorem callCls_use {K : Addr} {first : List Value} {p : Pos} {E : Value → Shared → Prop} {es : List Expr} {ds : List D} {s : Shared} {Z : Zone} {Q : Value → Shared → Prop}
    (hk : keepIn C.G.K (.ref K) = true) (h : Evs C ρ es ds) (S : Sat C ρ Z s)
    (k : ∀ vs s' Z', Grow s Z s' Z' → Sat C ρ Z' s' → Reps Z' ds vs → wpAny C.M C.A (call (.ref K) (first ++ vs)) Q E s') :
    wpAny C.M C.A (callWith p (.ref K) first (backTo p (starEach es C.env)) []) Q E s :=
  callWith_of (P := fun h => C.G.K.In h) (by rw [(noStar h).1]; rfl) (fun h X => keeps_K hk h X) (evalArgs_use h S fun vs s' Z' g S' r => ⟨S.cx.glo.kin.keeps S'.zok.keep, k vs s' Z' g S' r⟩)

/-- K(args): a new object -/
theorem Ev.make {x : Str} {xp pos : Pos} {K fI : Addr} {es : List Expr} {das ds : List D} {ns : List Str} {n : Nat} (hm : (x, Ent.glob (.ref K)) ∈ ρ) (hs : Evs C ρ es das) (hf : InitOk C.G n fI K das ns ds) (hn : n + 1 ≤ C.room)
    (hk : keepIn C.G.K (.ref K) = true) (hmk : makesIn C.G.K K = true) (hi : findIn C.G.K (.ref K) "__init__" = some (some (.ref fI))) (ht : typeIn C.G.K (.ref fI) = some (.type "function")) :
    Ev C ρ (.Call (.Name x xp) es [] pos) (.inst K ns ds) := by
  refine ⟨fun s Z Q E S k => ?_⟩
  refine Call_ (glob_use hm S (callCls_use (first := []) hk hs S fun vs s1 Z1 g1 S1 r1 => ?_))
  have X := S.cx.glo.kin.keeps S1.zok.keep
  have hd := S.cx.depth
  have hu := S.cx.units
  obtain ⟨hh, g, dr, t, os⟩ := s1
  refine wpAny_call (make_core (makes_of X hmk) (looks_findIn X hi) (fun self => bind_fn X self ht) (.inl rfl) ?_)
  have hnone : ∀ b, hh.objs.size ≤ b → hh.get? b = Option.none := fun b hb => by
    cases q : hh.get? b with
    | none => rfl
    | some o => exact absurd (Heap.lt_size q) (Nat.not_lt.mpr hb)
  have hzn : ∀ b, hh.objs.size ≤ b → Z1 b = Option.none := fun b hb => by
    cases q : Z1 b with
    | none => rfl
    | some o => have := S1.zin _ _ q; rw [hnone b hb] at this; cases this
  have hkp : ∀ b o, hh.get? b = some o → ((hh.push emptyDict).push (instObj K hh.objs.size)).get? b = some o := fun b o e => Heap.get?_push_of_some _ (Heap.get?_push_of_some _ e)
  have e1 : ((hh.push emptyDict).push (instObj K hh.objs.size)).get? (hh.objs.size + 1) = some (instObj K hh.objs.size) := by
    have := Heap.get?_push_size (hh.push emptyDict) (o := instObj K hh.objs.size) rfl
    rwa [Heap.size_push] at this
  have e2 : ((hh.push emptyDict).push (instObj K hh.objs.size)).get? hh.objs.size = some (dictOf [] 0) := Heap.get?_push_of_some _ (Heap.get?_push_size _ rfl)
  have hw : (Code.builtin "type.__call__" ⟨.ref K :: vs, []⟩).weight = 1 := by rfl
  have hcu : (Code.builtin "type.__call__" ⟨.ref K :: vs, []⟩).cUnits ≤ 64 := by show 1 ≤ 64; decide
  refine hf.run _ _ Z1 (hh.objs.size + 1) hh.objs.size vs _ S.cx.handled ?_ ?_ ⟨S1.zok.top, fun b o e => hkp _ _ (S1.zin _ _ e)⟩ e1 e2 (hzn _ (Nat.le_succ _)) (hzn _ (Nat.le_refl _)) (Nat.succ_ne_self _) r1 fun s' Z' q1 q2 q3 q4 q5 q6 => ?_
  · show C.A.depth + (Code.builtin "type.__call__" ⟨.ref K :: vs, []⟩).weight + n < _; rw [hw]; lia
  · show C.A.units + (Code.builtin "type.__call__" ⟨.ref K :: vs, []⟩).cUnits + 64 * n + 64 < _; lia
  · refine ⟨rfl, ?_⟩
    show Q _ _
    refine k (.ref (hh.objs.size + 1)) s' Z' (g1.trans ⟨fun b o e => ?_, q2, fun b o e => ?_, q4, ⟨q5.1, q5.2, q5.3⟩⟩) q6
    · have hb : @LT.lt Nat _ b hh.objs.size := Heap.lt_size e
      exact q1 b o (fun q => absurd (q ▸ hb) (Nat.not_lt.mpr (Nat.le_succ _))) (fun q => absurd (q ▸ hb) (Nat.lt_irrefl _)) (hkp _ _ e)
    · rcases q3 b o e with q | q | q | q
      · exact .inl q
      · right
        cases q' : hh.get? b with
        | none => rfl
        | some o' => rw [hkp _ _ q'] at q; cases q
      · right; subst q; exact hnone _ (Nat.le_succ _)
      · right; subst q; exact hnone _ (Nat.le_refl _)
end
end Mine
namespace Mine
theorem head0 (h : PySem.Challenge.rw_mr0285_01.row.wellSaid = true → PySem.Challenge.rw_mr0285_01.row.Holds) : PySem.Challenge.rw_mr0285_01.Holds := by
  w_on; o_law; exact h (by assumption)
end Mine
namespace Mine

/-- what stands behind the plain boot, run to the end of the text and looked at in one equation, is what a head wants -/
theorem left_of_boot {p q : Program} {loose : List Str} {Xt : Shared → Bool} {α : Type} {Yf : Shared → α} {Ya : World → α} {N m₀ : Nat} {ann : Option Value}
    (open_ : ∀ w : World, (fencedOpening treeTable p w N).map (fun s => (s.heap, s.gens, s.drawn, s.toks)) = some (boot_heap w.params, Array.mk [], boot_drawn, boot_toks))
    (size : ∀ w : World, ((boot_heap w.params).isNs mainGlobals, (boot_heap w.params).objs.size, (boot_heap w.params).nsMap mainGlobals "__annotations__") = (true, m₀, ann))
    (run : ∀ w : World, (fun os => (topRun treeTable p w m₀ ann N ⟨boot_heap w.params, Array.mk [], boot_drawn, boot_toks, os⟩ (topStub p)).map (fun s₁ =>
        ((staticsOk (importedModules p.main.body) (boot_heap w.params) s₁.heap && namesBound p s₁.heap && gensDone s₁ && laidKept (boot_heap w.params) s₁.heap), openSeen q loose (importedModules p.main.body) Xt true s₁, Yf s₁))) = fun _ => some (true, openGood q loose, Ya w)) :
    LeftO p q loose Xt Yf Ya N := by
  intro w
  have ho := open_ w
  cases hf : fencedOpening treeTable p w N with
  | none => rw [hf] at ho; cases ho
  | some s₀ =>
    rw [hf] at ho
    have hs : s₀ = ⟨boot_heap w.params, Array.mk [], boot_drawn, boot_toks, s₀.os⟩ := by
      cases s₀; cases ho; rfl
    have hr := congrFun (run w) s₀.os
    rw [← hs] at hr
    have hz := size w
    have hT : topFrom treeTable p w N s₀ = (topRun treeTable p w m₀ ann N s₀ (topStub p)).bind fun s₁ =>
        match staticsOk (importedModules p.main.body) s₀.heap s₁.heap && namesBound p s₁.heap && gensDone s₁ && laidKept s₀.heap s₁.heap with | true => some s₁ | false => none := by
      have a : s₀.heap.isNs mainGlobals = true := by rw [hs]; exact congrArg (·.1) hz
      have b : s₀.heap.objs.size = m₀ := by rw [hs]; exact congrArg (·.2.1) hz
      have c : s₀.heap.nsMap mainGlobals "__annotations__" = ann := by rw [hs]; exact congrArg (·.2.2) hz
      have d : (s₀.gens.size == 0) = true := by rw [hs]; rfl
      simp only [topFrom, a, b, c, d, Bool.and_self]
      rfl
    have hH : s₀.heap = boot_heap w.params := by rw [hs]
    cases ht : topRun treeTable p w m₀ ann N s₀ (topStub p) with
    | none => rw [ht] at hr; cases hr
    | some s₁ =>
      rw [ht] at hr
      have h1 := Option.some.inj hr
      have h2 := (Prod.mk.inj h1).1
      have h3 := (Prod.mk.inj h1).2
      rw [← hH] at h2
      rw [openEnds, hf, Option.bind_some, hT, ht, Option.bind_some, h2]
      exact congrArg some h3
end Mine
namespace Mine
noncomputable def fnParts : Stmt → Option (Str × Arguments × List Stmt × Scope)
  | .FunctionDef n a b _ _ _ s _ _ _ => some (n, a, b, s)
  | _ => none
noncomputable def topFn (n : Nat) : Option (Str × Arguments × List Stmt × Scope) := (PySem.Challenge.pw_mr0285_01.main.body[n]?).bind fnParts
noncomputable def clsBody : Stmt → List Stmt
  | .ClassDef (body := b) .. => b
  | _ => []
noncomputable def clsFn (n k : Nat) : Option (Str × Arguments × List Stmt × Scope) := (PySem.Challenge.pw_mr0285_01.main.body[n]?).bind fun st => ((clsBody st)[k]?).bind fnParts
noncomputable abbrev FnPart (o : Option (Str × Arguments × List Stmt × Scope)) := {x : Str × Arguments × List Stmt × Scope // o = some x}
noncomputable def part_init : FnPart (clsFn 2 0) := ⟨(_, _, _, _), rfl⟩
noncomputable def part_suburi : FnPart (clsFn 2 4) := ⟨(_, _, _, _), rfl⟩
noncomputable def part_keqv : FnPart (topFn 3) := ⟨(_, _, _, _), rfl⟩
noncomputable def part_http : FnPart (topFn 4) := ⟨(_, _, _, _), rfl⟩
noncomputable def part_wsInit : FnPart (clsFn 6 1) := ⟨(_, _, _, _), rfl⟩
noncomputable def part_longest : FnPart (clsFn 6 2) := ⟨(_, _, _, _), rfl⟩
noncomputable def part_indent : FnPart (clsFn 6 3) := ⟨(_, _, _, _), rfl⟩
noncomputable def part_equal : FnPart (clsFn 6 4) := ⟨(_, _, _, _), rfl⟩
noncomputable def part_less : FnPart (clsFn 6 6) := ⟨(_, _, _, _), rfl⟩
noncomputable def part_beneath : FnPart (topFn 8) := ⟨(_, _, _, _), rfl⟩
noncomputable def part_spoilt : FnPart (topFn 9) := ⟨(_, _, _, _), rfl⟩
noncomputable def part_lead : FnPart (topFn 10) := ⟨(_, _, _, _), rfl⟩
noncomputable def part_plan : FnPart (topFn 11) := ⟨(_, _, _, _), rfl⟩
noncomputable def part_text : FnPart (topFn 12) := ⟨(_, _, _, _), rfl⟩
noncomputable def part_paths : FnPart (topFn 13) := ⟨(_, _, _, _), rfl⟩
noncomputable def part_places : FnPart (topFn 14) := ⟨(_, _, _, _), rfl⟩
noncomputable def part_covers : FnPart (topFn 15) := ⟨(_, _, _, _), rfl⟩
noncomputable def part_law : FnPart (topFn 16) := ⟨(_, _, _, _), rfl⟩
noncomputable def fnObj (x : Str × Arguments × List Stmt × Scope) (qual mod : Str) (t : Tok) (code : Addr) : Obj :=
  { cls := .type "function", data := .func { name := x.1, qualname := qual, params := x.2.1, body := .stmts x.2.2.1, scope := x.2.2.2, globals := 3, closure := [], defaults := .none, kwdefaults := .none, pyModule := .str mod t, code := .ref code } }
noncomputable def heapK (P : Params) : Frag := [
  (2, { cls := Value.none, data := Data.dict #[] }),
  (3, { cls := Value.type "dict", data := Data.dict #[{ hash := PyData.keyHash P (Str.ofString "__name__"), key := Value.str (Str.ofString "__name__") 165, val := Value.str (Str.ofString "law_mr0285_01") 382 }, { hash := PyData.keyHash P (Str.ofString "__doc__"), key := Value.str (Str.ofString "__doc__") 166, val := Value.none }, { hash := PyData.keyHash P (Str.ofString "__package__"), key := Value.str (Str.ofString "__package__") 167, val := Value.none }, { hash := PyData.keyHash P (Str.ofString "__loader__"), key := Value.str (Str.ofString "__loader__") 168, val := Value.builtin "__main__.__loader__#opaque" }, { hash := PyData.keyHash P (Str.ofString "__spec__"), key := Value.str (Str.ofString "__spec__") 169, val := Value.none }, { hash := PyData.keyHash P (Str.ofString "__annotations__"), key := Value.str (Str.ofString "__annotations__") 170, val := Value.ref 6 }, { hash := PyData.keyHash P (Str.ofString "__builtins__"), key := Value.str (Str.ofString "__builtins__") 171, val := Value.ref 4 }, { hash := PyData.keyHash P (Str.ofString "__file__"), key := Value.str (Str.ofString "__file__") 173, val := Value.str (Str.ofString "/claim/cut.py") 172 }, { hash := PyData.keyHash P (Str.ofString "__cached__"), key := Value.str (Str.ofString "__cached__") 174, val := Value.none }, { hash := PyData.keyHash P (Str.ofString "_wall"), key := Value.str (Str.ofString "_wall") 193, val := Value.ref 21 }, { hash := PyData.keyHash P (Str.ofString "HTTPPasswordMgr"), key := Value.str (Str.ofString "HTTPPasswordMgr") 262, val := Value.ref 67 }, { hash := PyData.keyHash P (Str.ofString "parse_keqv_list"), key := Value.str (Str.ofString "parse_keqv_list") 273, val := Value.ref 78 }, { hash := PyData.keyHash P (Str.ofString "parse_http_list"), key := Value.str (Str.ofString "parse_http_list") 279, val := Value.ref 83 }, { hash := PyData.keyHash P (Str.ofString "Whitespace"), key := Value.str (Str.ofString "Whitespace") 381, val := Value.ref 145 }, { hash := PyData.keyHash P (Str.ofString "_law_beneath"), key := Value.str (Str.ofString "_law_beneath") 392, val := Value.ref 156 }, { hash := PyData.keyHash P (Str.ofString "_law_spoilt"), key := Value.str (Str.ofString "_law_spoilt") 401, val := Value.ref 163 }, { hash := PyData.keyHash P (Str.ofString "_law_lead"), key := Value.str (Str.ofString "_law_lead") 407, val := Value.ref 168 }, { hash := PyData.keyHash P (Str.ofString "_law_plan"), key := Value.str (Str.ofString "_law_plan") 413, val := Value.ref 173 }, { hash := PyData.keyHash P (Str.ofString "_law_text"), key := Value.str (Str.ofString "_law_text") 419, val := Value.ref 178 }, { hash := PyData.keyHash P (Str.ofString "_law_paths"), key := Value.str (Str.ofString "_law_paths") 431, val := Value.ref 185 }, { hash := PyData.keyHash P (Str.ofString "_law_places"), key := Value.str (Str.ofString "_law_places") 437, val := Value.ref 190 }, { hash := PyData.keyHash P (Str.ofString "_law_covers"), key := Value.str (Str.ofString "_law_covers") 443, val := Value.ref 195 }, { hash := PyData.keyHash P (Str.ofString "law"), key := Value.str (Str.ofString "law") 449, val := Value.ref 200 }] 23 }),
  (34, { cls := Value.type "code", data := Data.fields #[Value.str (Str.ofString "__init__") 208, Value.str (Str.ofString "HTTPPasswordMgr.__init__") 209, Value.str (Str.ofString "/claim/cut.py") 210, Value.int 7 0, Value.int 1 0, Value.int 0 0, Value.int 0 0, Value.int 3 0, Value.ref 29, Value.bool true, Value.int 181 0, Value.ref 30, Value.none, Value.ref 31, Value.ref 32, Value.ref 33, Value.int 212 0, Value.int 7 0, Value.str (Str.ofString "/claim/cut.py") 213] }),
  (35, fnObj part_init.1 "HTTPPasswordMgr.__init__" "cpy313.urllib.request" 194 34),
  (63, { cls := Value.type "code", data := Data.fields #[Value.str (Str.ofString "is_suburi") 244, Value.str (Str.ofString "HTTPPasswordMgr.is_suburi") 245, Value.str (Str.ofString "/claim/cut.py") 246, Value.int 19 0, Value.int 3 0, Value.int 0 0, Value.int 0 0, Value.int 3 0, Value.ref 58, Value.bool true, Value.int 181 0, Value.ref 59, Value.none, Value.ref 60, Value.ref 61, Value.ref 62, Value.int 251 0, Value.int 19 0, Value.str (Str.ofString "/claim/cut.py") 252] }),
  (64, fnObj part_suburi.1 "HTTPPasswordMgr.is_suburi" "cpy313.urllib.request" 194 63),
  (66, { cls := Value.type "dict", data := Data.dict #[{ hash := PyData.keyHash P (Str.ofString "__module__"), key := Value.str (Str.ofString "__module__") 203, val := Value.str (Str.ofString "cpy313.urllib.request") 194 }, { hash := PyData.keyHash P (Str.ofString "__firstlineno__"), key := Value.str (Str.ofString "__firstlineno__") 207, val := Value.int 5 206 }, { hash := PyData.keyHash P (Str.ofString "__init__"), key := Value.str (Str.ofString "__init__") 214, val := Value.ref 35 }, { hash := PyData.keyHash P (Str.ofString "add_password"), key := Value.str (Str.ofString "add_password") 225, val := Value.ref 42 }, { hash := PyData.keyHash P (Str.ofString "find_user_password"), key := Value.str (Str.ofString "find_user_password") 234, val := Value.ref 49 }, { hash := PyData.keyHash P (Str.ofString "reduce_uri"), key := Value.str (Str.ofString "reduce_uri") 243, val := Value.ref 57 }, { hash := PyData.keyHash P (Str.ofString "is_suburi"), key := Value.str (Str.ofString "is_suburi") 253, val := Value.ref 64 }, { hash := PyData.keyHash P (Str.ofString "__static_attributes__"), key := Value.str (Str.ofString "__static_attributes__") 255, val := Value.ref 65 }, { hash := PyData.keyHash P (Str.ofString "__dict__"), key := Value.str (Str.ofString "__dict__") 257, val := Value.ref 68 }, { hash := PyData.keyHash P (Str.ofString "__weakref__"), key := Value.str (Str.ofString "__weakref__") 259, val := Value.ref 69 }, { hash := PyData.keyHash P (Str.ofString "__doc__"), key := Value.str (Str.ofString "__doc__") 260, val := Value.none }] 4 }),
  (67, { cls := Value.type "type", data := Data.cls { name := Str.ofString "HTTPPasswordMgr", bases := [Value.type "object"], mro := [Value.ref 67, Value.type "object"], ns := 66, qualname := Str.ofString "HTTPPasswordMgr" }, slots := #[none, none, some (Value.str (Str.ofString "HTTPPasswordMgr") 196), some (Value.str (Str.ofString "HTTPPasswordMgr") 204), some (Value.builtin "object.__new__"), some (Value.bool true)] }),
  (68, { cls := Value.type "getset_descriptor", data := Data.fields #[Value.str (Str.ofString "__dict__") 256, Value.ref 67, Value.builtin "function.__dict__", Value.builtin "function.__dict__#set"] }),
  (69, { cls := Value.type "getset_descriptor", data := Data.fields #[Value.str (Str.ofString "__weakref__") 258, Value.ref 67, Value.builtin "ExceptionGroup.__weakref__", Value.none] }),
  (77, { cls := Value.type "code", data := Data.fields #[Value.str (Str.ofString "parse_keqv_list") 263, Value.str (Str.ofString "parse_keqv_list") 264, Value.str (Str.ofString "/claim/cut.py") 265, Value.int 28 0, Value.int 1 0, Value.int 0 0, Value.int 0 0, Value.int 3 0, Value.ref 72, Value.bool true, Value.int 181 0, Value.ref 73, Value.none, Value.ref 74, Value.ref 75, Value.ref 76, Value.int 271 0, Value.int 28 0, Value.str (Str.ofString "/claim/cut.py") 272] }),
  (78, fnObj part_keqv.1 "parse_keqv_list" "cpy313.urllib.request" 194 77),
  (82, { cls := Value.type "code", data := Data.fields #[Value.str (Str.ofString "parse_http_list") 274, Value.str (Str.ofString "parse_http_list") 275, Value.str (Str.ofString "/claim/cut.py") 276, Value.int 36 0, Value.int 1 0, Value.int 0 0, Value.int 0 0, Value.int 3 0, Value.ref 79, Value.bool true, Value.int 181 0, Value.ref 80, Value.none, Value.none, Value.none, Value.ref 81, Value.int 277 0, Value.int 36 0, Value.str (Str.ofString "/claim/cut.py") 278] }),
  (83, fnObj part_http.1 "parse_http_list" "cpy313.urllib.request" 194 82),
  (99, { cls := Value.type "code", data := Data.fields #[Value.str (Str.ofString "__init__") 299, Value.str (Str.ofString "Whitespace.__init__") 300, Value.str (Str.ofString "/claim/cut.py") 301, Value.int 67 0, Value.int 2 0, Value.int 0 0, Value.int 0 0, Value.int 3 0, Value.ref 94, Value.bool true, Value.int 181 0, Value.ref 95, Value.none, Value.ref 96, Value.ref 97, Value.ref 98, Value.int 311 0, Value.int 67 0, Value.str (Str.ofString "/claim/cut.py") 312] }),
  (100, fnObj part_wsInit.1 "Whitespace.__init__" "cpy313.tabnanny" 280 99),
  (106, { cls := Value.type "code", data := Data.fields #[Value.str (Str.ofString "longest_run_of_spaces") 314, Value.str (Str.ofString "Whitespace.longest_run_of_spaces") 315, Value.str (Str.ofString "/claim/cut.py") 316, Value.int 90 0, Value.int 1 0, Value.int 0 0, Value.int 0 0, Value.int 3 0, Value.ref 101, Value.bool true, Value.int 181 0, Value.ref 102, Value.none, Value.ref 103, Value.ref 104, Value.ref 105, Value.int 320 0, Value.int 90 0, Value.str (Str.ofString "/claim/cut.py") 321] }),
  (107, fnObj part_longest.1 "Whitespace.longest_run_of_spaces" "cpy313.tabnanny" 280 106),
  (113, { cls := Value.type "code", data := Data.fields #[Value.str (Str.ofString "indent_level") 323, Value.str (Str.ofString "Whitespace.indent_level") 324, Value.str (Str.ofString "/claim/cut.py") 325, Value.int 94 0, Value.int 2 0, Value.int 0 0, Value.int 0 0, Value.int 3 0, Value.ref 108, Value.bool true, Value.int 181 0, Value.ref 109, Value.none, Value.ref 110, Value.ref 111, Value.ref 112, Value.int 332 0, Value.int 94 0, Value.str (Str.ofString "/claim/cut.py") 333] }),
  (114, fnObj part_indent.1 "Whitespace.indent_level" "cpy313.tabnanny" 280 113),
  (120, { cls := Value.type "code", data := Data.fields #[Value.str (Str.ofString "equal") 335, Value.str (Str.ofString "Whitespace.equal") 336, Value.str (Str.ofString "/claim/cut.py") 337, Value.int 101 0, Value.int 2 0, Value.int 0 0, Value.int 0 0, Value.int 3 0, Value.ref 115, Value.bool true, Value.int 181 0, Value.ref 116, Value.none, Value.ref 117, Value.ref 118, Value.ref 119, Value.int 340 0, Value.int 101 0, Value.str (Str.ofString "/claim/cut.py") 341] }),
  (121, fnObj part_equal.1 "Whitespace.equal" "cpy313.tabnanny" 280 120),
  (134, { cls := Value.type "code", data := Data.fields #[Value.str (Str.ofString "less") 351, Value.str (Str.ofString "Whitespace.less") 352, Value.str (Str.ofString "/claim/cut.py") 353, Value.int 107 0, Value.int 2 0, Value.int 0 0, Value.int 0 0, Value.int 3 0, Value.ref 129, Value.bool true, Value.int 181 0, Value.ref 130, Value.none, Value.ref 131, Value.ref 132, Value.ref 133, Value.int 358 0, Value.int 107 0, Value.str (Str.ofString "/claim/cut.py") 359] }),
  (135, fnObj part_less.1 "Whitespace.less" "cpy313.tabnanny" 280 134),
  (144, { cls := Value.type "dict", data := Data.dict #[{ hash := PyData.keyHash P (Str.ofString "__module__"), key := Value.str (Str.ofString "__module__") 289, val := Value.str (Str.ofString "cpy313.tabnanny") 280 }, { hash := PyData.keyHash P (Str.ofString "__firstlineno__"), key := Value.str (Str.ofString "__firstlineno__") 293, val := Value.int 64 292 }, { hash := PyData.keyHash P (Str.ofString "S"), key := Value.str (Str.ofString "S") 297, val := Value.str (Str.ofString " ") 295 }, { hash := PyData.keyHash P (Str.ofString "T"), key := Value.str (Str.ofString "T") 298, val := Value.str (Str.ofString "\t") 296 }, { hash := PyData.keyHash P (Str.ofString "__init__"), key := Value.str (Str.ofString "__init__") 313, val := Value.ref 100 }, { hash := PyData.keyHash P (Str.ofString "longest_run_of_spaces"), key := Value.str (Str.ofString "longest_run_of_spaces") 322, val := Value.ref 107 }, { hash := PyData.keyHash P (Str.ofString "indent_level"), key := Value.str (Str.ofString "indent_level") 334, val := Value.ref 114 }, { hash := PyData.keyHash P (Str.ofString "equal"), key := Value.str (Str.ofString "equal") 342, val := Value.ref 121 }, { hash := PyData.keyHash P (Str.ofString "not_equal_witness"), key := Value.str (Str.ofString "not_equal_witness") 350, val := Value.ref 128 }, { hash := PyData.keyHash P (Str.ofString "less"), key := Value.str (Str.ofString "less") 360, val := Value.ref 135 }, { hash := PyData.keyHash P (Str.ofString "not_less_witness"), key := Value.str (Str.ofString "not_less_witness") 368, val := Value.ref 142 }, { hash := PyData.keyHash P (Str.ofString "__static_attributes__"), key := Value.str (Str.ofString "__static_attributes__") 374, val := Value.ref 143 }, { hash := PyData.keyHash P (Str.ofString "__dict__"), key := Value.str (Str.ofString "__dict__") 376, val := Value.ref 146 }, { hash := PyData.keyHash P (Str.ofString "__weakref__"), key := Value.str (Str.ofString "__weakref__") 378, val := Value.ref 147 }, { hash := PyData.keyHash P (Str.ofString "__doc__"), key := Value.str (Str.ofString "__doc__") 379, val := Value.none }] 4 }),
  (145, { cls := Value.type "type", data := Data.cls { name := Str.ofString "Whitespace", bases := [Value.type "object"], mro := [Value.ref 145, Value.type "object"], ns := 144, qualname := Str.ofString "Whitespace" }, slots := #[none, none, some (Value.str (Str.ofString "Whitespace") 282), some (Value.str (Str.ofString "Whitespace") 290), some (Value.builtin "object.__new__"), some (Value.bool true)] }),
  (146, { cls := Value.type "getset_descriptor", data := Data.fields #[Value.str (Str.ofString "__dict__") 375, Value.ref 145, Value.builtin "function.__dict__", Value.builtin "function.__dict__#set"] }),
  (147, { cls := Value.type "getset_descriptor", data := Data.fields #[Value.str (Str.ofString "__weakref__") 377, Value.ref 145, Value.builtin "ExceptionGroup.__weakref__", Value.none] }),
  (155, { cls := Value.type "code", data := Data.fields #[Value.str (Str.ofString "_law_beneath") 384, Value.str (Str.ofString "_law_beneath") 385, Value.str (Str.ofString "/claim/cut.py") 386, Value.int 121 0, Value.int 2 0, Value.int 0 0, Value.int 0 0, Value.int 3 0, Value.ref 150, Value.bool true, Value.int 181 0, Value.ref 151, Value.none, Value.ref 152, Value.ref 153, Value.ref 154, Value.int 390 0, Value.int 121 0, Value.str (Str.ofString "/claim/cut.py") 391] }),
  (156, fnObj part_beneath.1 "_law_beneath" "law_mr0285_01" 382 155),
  (162, { cls := Value.type "code", data := Data.fields #[Value.str (Str.ofString "_law_spoilt") 393, Value.str (Str.ofString "_law_spoilt") 394, Value.str (Str.ofString "/claim/cut.py") 395, Value.int 124 0, Value.int 2 0, Value.int 0 0, Value.int 0 0, Value.int 3 0, Value.ref 157, Value.bool true, Value.int 181 0, Value.ref 158, Value.none, Value.ref 159, Value.ref 160, Value.ref 161, Value.int 399 0, Value.int 124 0, Value.str (Str.ofString "/claim/cut.py") 400] }),
  (163, fnObj part_spoilt.1 "_law_spoilt" "law_mr0285_01" 382 162),
  (167, { cls := Value.type "code", data := Data.fields #[Value.str (Str.ofString "_law_lead") 402, Value.str (Str.ofString "_law_lead") 403, Value.str (Str.ofString "/claim/cut.py") 404, Value.int 133 0, Value.int 2 0, Value.int 0 0, Value.int 0 0, Value.int 3 0, Value.ref 164, Value.bool true, Value.int 181 0, Value.ref 165, Value.none, Value.none, Value.none, Value.ref 166, Value.int 405 0, Value.int 133 0, Value.str (Str.ofString "/claim/cut.py") 406] }),
  (168, fnObj part_lead.1 "_law_lead" "law_mr0285_01" 382 167),
  (172, { cls := Value.type "code", data := Data.fields #[Value.str (Str.ofString "_law_plan") 408, Value.str (Str.ofString "_law_plan") 409, Value.str (Str.ofString "/claim/cut.py") 410, Value.int 138 0, Value.int 1 0, Value.int 0 0, Value.int 0 0, Value.int 3 0, Value.ref 169, Value.bool true, Value.int 181 0, Value.ref 170, Value.none, Value.none, Value.none, Value.ref 171, Value.int 411 0, Value.int 138 0, Value.str (Str.ofString "/claim/cut.py") 412] }),
  (173, fnObj part_plan.1 "_law_plan" "law_mr0285_01" 382 172),
  (177, { cls := Value.type "code", data := Data.fields #[Value.str (Str.ofString "_law_text") 414, Value.str (Str.ofString "_law_text") 415, Value.str (Str.ofString "/claim/cut.py") 416, Value.int 157 0, Value.int 1 0, Value.int 0 0, Value.int 0 0, Value.int 3 0, Value.ref 174, Value.bool true, Value.int 181 0, Value.ref 175, Value.none, Value.none, Value.none, Value.ref 176, Value.int 417 0, Value.int 157 0, Value.str (Str.ofString "/claim/cut.py") 418] }),
  (178, fnObj part_text.1 "_law_text" "law_mr0285_01" 382 177),
  (184, { cls := Value.type "code", data := Data.fields #[Value.str (Str.ofString "_law_paths") 420, Value.str (Str.ofString "_law_paths") 421, Value.str (Str.ofString "/claim/cut.py") 422, Value.int 170 0, Value.int 2 0, Value.int 0 0, Value.int 0 0, Value.int 3 0, Value.ref 179, Value.bool true, Value.int 181 0, Value.ref 180, Value.none, Value.ref 181, Value.ref 182, Value.ref 183, Value.int 429 0, Value.int 170 0, Value.str (Str.ofString "/claim/cut.py") 430] }),
  (185, fnObj part_paths.1 "_law_paths" "law_mr0285_01" 382 184),
  (189, { cls := Value.type "code", data := Data.fields #[Value.str (Str.ofString "_law_places") 432, Value.str (Str.ofString "_law_places") 433, Value.str (Str.ofString "/claim/cut.py") 434, Value.int 177 0, Value.int 1 0, Value.int 0 0, Value.int 0 0, Value.int 3 0, Value.ref 186, Value.bool true, Value.int 181 0, Value.ref 187, Value.none, Value.none, Value.none, Value.ref 188, Value.int 435 0, Value.int 177 0, Value.str (Str.ofString "/claim/cut.py") 436] }),
  (190, fnObj part_places.1 "_law_places" "law_mr0285_01" 382 189),
  (194, { cls := Value.type "code", data := Data.fields #[Value.str (Str.ofString "_law_covers") 438, Value.str (Str.ofString "_law_covers") 439, Value.str (Str.ofString "/claim/cut.py") 440, Value.int 192 0, Value.int 2 0, Value.int 0 0, Value.int 0 0, Value.int 3 0, Value.ref 191, Value.bool true, Value.int 181 0, Value.ref 192, Value.none, Value.none, Value.none, Value.ref 193, Value.int 441 0, Value.int 192 0, Value.str (Str.ofString "/claim/cut.py") 442] }),
  (195, fnObj part_covers.1 "_law_covers" "law_mr0285_01" 382 194),
  (199, { cls := Value.type "code", data := Data.fields #[Value.str (Str.ofString "law") 444, Value.str (Str.ofString "law") 445, Value.str (Str.ofString "/claim/cut.py") 446, Value.int 211 0, Value.int 1 0, Value.int 0 0, Value.int 0 0, Value.int 3 0, Value.ref 196, Value.bool true, Value.int 181 0, Value.ref 197, Value.none, Value.none, Value.none, Value.ref 198, Value.int 447 0, Value.int 211 0, Value.str (Str.ofString "/claim/cut.py") 448] }),
  (200, fnObj part_law.1 "law" "law_mr0285_01" 382 199)]
noncomputable def heapAs : List Addr := [2, 3, 34, 35, 63, 64, 66, 67, 68, 69, 77, 78, 82, 83, 99, 100, 106, 107, 113, 114, 120, 121, 134, 135, 144, 145, 146, 147, 155, 156, 162, 163, 167, 168, 172, 173, 177, 178, 184, 185, 189, 190, 194, 195, 199, 200]
end Mine
namespace Mine
noncomputable abbrev loose : List Str := ["_wall", "HTTPPasswordMgr", "parse_keqv_list", "parse_http_list", "Whitespace", "_law_beneath", "_law_spoilt", "_law_lead", "_law_plan", "_law_text", "_law_paths", "_law_places", "_law_covers"]
noncomputable def obsK (s : Shared) : List (Option Obj) := heapAs.map s.heap.get?
noncomputable def valK (w : World) : List (Option Obj) := (heapK w.params).map fun p => some p.2
theorem boot_size : ∀ w : World, ((boot_heap w.params).isNs mainGlobals, (boot_heap w.params).objs.size, (boot_heap w.params).nsMap mainGlobals "__annotations__") = (true, 11, some (.ref 6)) := by
  intro w; kernel_rfl
theorem opening_is : opening PySem.Challenge.pw_mr0285_01 = plainProg PySem.Challenge.pw_mr0285_01.main.scope.names := by kernel_rfl
theorem fence_is : ∀ s, fenceModules? PySem.Challenge.pw_mr0285_01 s = some s := by intro s; kernel_rfl
end Mine
namespace Mine
noncomputable def looksF (w : World) (s₁ : Shared) :=
  ((staticsOk (PySem.W.Fast.tw5923862056798008813 PySem.W.Fast.tw8793028359032162126.main.body) (boot_heap w.params) s₁.heap && namesBound PySem.W.Fast.tw8793028359032162126 s₁.heap && gensDone s₁ && laidKept (boot_heap w.params) s₁.heap),
    PySem.W.Fast.tw4187177175401517315 (view PySem.W.Fast.tw8793028359032162126 [16]) loose (PySem.W.Fast.tw5923862056798008813 PySem.W.Fast.tw8793028359032162126.main.body) (fun s => xlAt (view PySem.W.Fast.tw8793028359032162126 [16]) [] s && recOk [] s) true s₁, obsK s₁)
noncomputable def goodF (w : World) := (true, openGood (view PySem.W.Fast.tw8793028359032162126 [16]) loose, valK w)
theorem run_a : ∀ w : World, (fun os => (PySem.W.Fast.tw14082659384304107361 PySem.W.Fast.tw14364793385576792824 PySem.W.Fast.tw8793028359032162126 (w.withFollow "special-get-raises" false) 11 (some (.ref 6)) 1240 ⟨boot_heap (w.withFollow "special-get-raises" false).params, Array.mk [], boot_drawn, boot_toks, os⟩ (topStub PySem.W.Fast.tw8793028359032162126)).map (looksF (w.withFollow "special-get-raises" false))) = fun _ => some (goodF (w.withFollow "special-get-raises" false)) := by
  intro w; kernel_rfl
end Mine
namespace Mine
theorem run_b : ∀ w : World, (fun os => (PySem.W.Fast.tw14082659384304107361 PySem.W.Fast.tw14364793385576792824 PySem.W.Fast.tw8793028359032162126 (w.withFollow "special-get-raises" true) 11 (some (.ref 6)) 1240 ⟨boot_heap (w.withFollow "special-get-raises" true).params, Array.mk [], boot_drawn, boot_toks, os⟩ (topStub PySem.W.Fast.tw8793028359032162126)).map (looksF (w.withFollow "special-get-raises" true))) = fun _ => some (goodF (w.withFollow "special-get-raises" true)) := by
  intro w; kernel_rfl
theorem run_w (w : World) : (fun os => (PySem.W.Fast.tw14082659384304107361 PySem.W.Fast.tw14364793385576792824 PySem.W.Fast.tw8793028359032162126 w 11 (some (.ref 6)) 1240 ⟨boot_heap w.params, Array.mk [], boot_drawn, boot_toks, os⟩ (topStub PySem.W.Fast.tw8793028359032162126)).map (looksF w)) = fun _ => some (goodF w) :=
  byRow2 "special-get-raises" (P := fun w => (fun os => (PySem.W.Fast.tw14082659384304107361 PySem.W.Fast.tw14364793385576792824 PySem.W.Fast.tw8793028359032162126 w 11 (some (.ref 6)) 1240 ⟨boot_heap w.params, Array.mk [], boot_drawn, boot_toks, os⟩ (topStub PySem.W.Fast.tw8793028359032162126)).map (looksF w)) = fun _ => some (goodF w)) run_a run_b w
theorem left : LeftO PySem.Challenge.pw_mr0285_01 (view PySem.Challenge.pw_mr0285_01 [16]) loose (fun s => xlAt (view PySem.Challenge.pw_mr0285_01 [16]) [] s && recOk [] s) obsK valK 1240 := by
  refine left_of_boot (boot_open opening_is rfl fence_is) boot_size fun w => ?_
  rewrite [PySem.W.Fast.te14082659384304107361, PySem.W.Fast.te14364793385576792824, PySem.W.Fast.te8793028359032162126, PySem.W.Fast.te5923862056798008813, PySem.W.Fast.te4187177175401517315]
  exact run_w w
end Mine
namespace Mine
theorem head1 {d : DefRec} {kwd : List (Str × Expr)} (hd : defOf (view PySem.Challenge.pw_mr0285_01 [16]) "law" = some (d, kwd)) (hp : PySem.Challenge.pw_mr0285_01.theDef "law" = some (d.params, d.body, d.scope)) (hk : kwWritten? d.params.kwonlyargs d.params.kw_defaults = some kwd)
    (walk : WalkO (view PySem.Challenge.pw_mr0285_01 [16]) loose (XL (view PySem.Challenge.pw_mr0285_01 [16]) []) (InK heapK) PySem.Challenge.rw_mr0285_01.row.toRowW d kwd fun f vs => PySem.call f vs) :
    PySem.Challenge.rw_mr0285_01.Holds := by
  refine head0 fun said => ?_
  refine holds_open (r := PySem.Challenge.rw_mr0285_01.row) (q := view PySem.Challenge.pw_mr0285_01 [16]) (loose := loose) (Xt := fun s => xlAt (view PySem.Challenge.pw_mr0285_01 [16]) [] s && recOk [] s) (XP := XL (view PySem.Challenge.pw_mr0285_01 [16]) [])
    (Yf := obsK) (Ya := valK) (YP := InK heapK) (N := 1240) left (InK.of fun P => rfl) InK.keeps (fun s e => xl_of s (Bool.and_eq_true_iff.mp e).1) XL.keeps hd hp hk
    (fun s e => recFacts_of (Bool.and_eq_true_iff.mp e).2) rfl said (by decide +kernel) ⟨rfl, rfl, rfl, rfl, rfl, by decide +kernel⟩ ?hw walk
  case hw => w_witness2
end Mine
local macro_rules | `(tactic| walk_at "mem") => `(tactic| first | (with_reducible_and_instances exact List.Mem.head _) | (refine List.Mem.tail _ ?_; walk_at "mem"))
local macro_rules | `(tactic| walk_at "put") => `(tactic| first | ((with_reducible apply Mine.Put.here); first | rfl | assumption) | (apply Mine.Put.there; walk_at "put"))
local macro_rules | `(tactic| walk_at "okall") => `(tactic| first | exact True.intro | (refine ⟨by first | rfl | assumption, ?_⟩; walk_at "okall"))
namespace Mine
section
variable {C : Cx} {ρ ρ' : Rho} {R : Out → Rho → Prop}
theorem Op2.addList {xs ys : List D} (hl : xs.length + ys.length ≤ sizeLine) : Op2 C (binaryOp .Add) (.list xs) (.list ys) (.list (xs ++ ys)) := by
  refine ⟨fun s Z v1 v2 Q E _ z r1 r2 k => ?_⟩
  obtain ⟨a, vs, n, rfl, za, la, ra⟩ := rep_list.mp r1
  obtain ⟨b, ws, n', rfl, zb, lb, rb⟩ := rep_list.mp r2
  have e1 := ra.length
  have e2 := rb.length
  refine P.add_list (z.zin _ _ za) (z.zin _ _ zb) ?_ (by simp; lia)
  rw [show vs.toArray ++ ws.toArray = (vs ++ ws).toArray by simp]
  have g := Grow.push (s := s) (n := s.toks) (o := listObj (vs ++ ws) 0) z.zin rfl (Nat.le_refl _)
  exact k _ _ _ g (rep_list.mpr ⟨_, vs ++ ws, 0, rfl, Zone.put_same _ _ _, by simp; lia, (ra.append rb).mono g.sub⟩)
theorem Ev.cast {e : Expr} {d d' : D} (h : Ev C ρ e d) (q : d = d') : Ev C ρ e d' := q ▸ h
theorem Tr.cast {e : Expr} {d d' : Bool} (h : Tr C ρ e d) (q : d = d') : Tr C ρ e d' := q ▸ h
theorem EvI.cast {t e : Expr} {d d' : List D} (h : EvI C ρ t e d) (q : d = d') : EvI C ρ t e d' := q ▸ h
theorem EvO.cast {e : Expr} {d d' : List D} (h : EvO C ρ e d) (q : d = d') : EvO C ρ e d' := q ▸ h
/-- a written text -/
theorem Ev.strC {x : String} {k : Nat} {p : Pos} (l : List Nat) (h : Str.ofString x = st l := by rfl) (hl : l.length ≤ 16777216 := by decide) : Ev C ρ (.Constant (.str (Str.ofString x)) k p) (.str l) := Ev.str h (by rw [sizeLine_is]; exact hl)
/-- {} as a frozen dict -/
theorem Ev.dict0 {p : Pos} : Ev C ρ (.Dict [] [] p) (.dict C.G.w []) := by
  refine ⟨fun s Z Q E S k => ?_⟩
  refine wpAny_Dict_empty ?_
  have g := Grow.push (s := s) (n := s.toks) (o := dictOf [] 0) S.zin rfl (Nat.le_refl _)
  refine k _ _ _ g (rep_dict.mpr ⟨_, [], 0, rfl, Zone.put_same _ _ _, Nat.zero_le _, ⟨.nil, .nil⟩, ?_⟩)
  obtain ⟨og, _, _, hg, _⟩ := S.cx.glo.g
  have h1 := Heap.lt_size (S.zok.keep _ _ hg)
  have h2 : @LT.lt Nat _ 1 mainGlobals := by decide
  have h3 : @LT.lt Nat _ 1 s.heap.objs.size := Nat.lt_trans h2 h1
  exact beq_eq_false_iff_ne.mpr fun q => absurd (show (s.heap.objs.size : Nat) = 1 from q) (by lia)

/-- a loop by what holds between its turns -/
theorem ForL.of {target : Expr} {body : List Stmt} {items : List D} (I : Nat → Rho → Prop)
    (step : ∀ i d ρ, items[i]? = some d → I i ρ → As C ρ target d fun ρ1 => Exs C ρ1 body fun o ρ2 => match o with
      | .next | .cont => I (i + 1) ρ2
      | .brk => R .next ρ2
      | .ret x => R (.ret x) ρ2)
    (fin : ∀ ρ, I items.length ρ → R .next ρ) : I 0 ρ → ForL C target body R items ρ := by
  have key : ∀ (ds : List D) (i : Nat) (ρ : Rho), items.drop i = ds → i ≤ items.length → I i ρ → ForL C target body R ds ρ := by
    intro ds
    induction ds with
    | nil =>
      intro i ρ h hi hI
      have : i = items.length := by
        have := congrArg List.length h
        simp at this; lia
      subst this
      exact fin ρ hI
    | cons d ds ih =>
      intro i ρ h hi hI
      have hd : items[i]? = some d := by
        have := congrArg (·[0]?) h
        simpa using this
      have hlt : i < items.length := (List.getElem?_eq_some_iff.mp hd).1
      have htl : items.drop (i + 1) = ds := by
        have := congrArg List.tail h
        simpa [List.tail_drop] using this
      rw [ForL]
      have st := step i d ρ hd hI
      refine ⟨fun s Z v Q E S r k => st.run s Z v Q E S r fun ρ1 s1 Z1 h1 S1 g1 => k ρ1 s1 Z1 (ExT.mono h1 fun o q hq => ?_) S1 g1⟩
      cases o with
      | next => exact ih (i + 1) q htl hlt hq
      | cont => exact ih (i + 1) q htl hlt hq
      | brk => exact hq
      | ret x => exact hq
  exact key items 0 ρ rfl (Nat.zero_le _)
end

theorem cutL_butLast {α : Type} (xs : List α) : cutL xs none (some (-1)) = xs.dropLast := by
  unfold cutL
  have h := clipAt_neg xs.length 1 (Nat.le_refl _)
  simp only [Option.elim]
  rw [show ((-1 : Int)) = -((1 : Nat) : Int) by rfl, h, List.drop_zero, Nat.sub_zero, List.dropLast_eq_take]
theorem cutL_butTwo {α : Type} (xs : List α) : cutL xs none (some (-2)) = xs.take (xs.length - 2) := by
  unfold cutL
  have h := clipAt_neg xs.length 2 (by decide)
  simp only [Option.elim]
  rw [show ((-2 : Int)) = -((2 : Nat) : Int) by rfl, h, List.drop_zero, Nat.sub_zero]
theorem cutL_last {α : Type} (xs : List α) : cutL xs (some (-1)) none = xs.drop (xs.length - 1) := by
  unfold cutL
  have h := clipAt_neg xs.length 1 (by decide)
  simp only [Option.elim]
  rw [show ((-1 : Int)) = -((1 : Nat) : Int) by rfl, h, List.take_of_length_le (by simp)]
theorem cutL_from {α : Type} (xs : List α) (k : Nat) : cutL xs (some (k : Int)) none = xs.drop k := by
  unfold cutL
  simp only [Option.elim]
  rw [clipAt_nat]
  by_cases h : k ≤ xs.length
  · rw [Nat.min_eq_left h, List.take_of_length_le (by simp)]
  · rw [Nat.min_eq_right (by lia), List.drop_eq_nil_of_le (by lia), List.drop_eq_nil_of_le (by lia)]; simp
theorem cutL_upto {α : Type} (xs : List α) (k : Nat) : cutL xs none (some (k : Int)) = xs.take k := by
  unfold cutL
  simp only [Option.elim]
  rw [clipAt_nat, List.drop_zero, Nat.sub_zero]
  by_cases h : k ≤ xs.length
  · rw [Nat.min_eq_left h]
  · rw [Nat.min_eq_right (by lia), List.take_of_length_le (by lia), List.take_of_length_le (by lia)]
theorem cutL_len {α : Type} (xs : List α) (lo hi : Option Int) : (cutL xs lo hi).length ≤ xs.length := by
  unfold cutL; simp; lia
theorem Exs.seq {C : Cx} {ρ : Rho} {R : Out → Rho → Prop} {st : Stmt} {rest : List Stmt} (h : Ex C ρ st (fun o q => match o with | .next => Exs C q rest R | .brk => R .brk q | .cont => R .cont q | .ret d => R (.ret d) q)) : Exs C ρ (st :: rest) R :=
  .cons h (fun _ r => r) (fun _ r => r) (fun _ r => r) (fun _ _ r => r)
theorem fmod_nat (a b : Nat) : (a : Int).fmod b = ((a % b : Nat) : Int) := by
  rw [Int.fmod_eq_emod_of_nonneg _ (by lia)]; rfl
theorem fdiv_nat (a b : Nat) : (a : Int).fdiv b = ((a / b : Nat) : Int) := by
  rw [Int.fdiv_eq_ediv_of_nonneg _ (by lia)]; rfl
theorem At.nat {i n : Nat} (h : i < n) : At (i : Int) n i := .inl ⟨by lia, rfl, h⟩
theorem At.last {n : Nat} (h : 0 < n) : At (-1) n (n - 1) := .inr ⟨by decide, by lia⟩
theorem At.last2 {n : Nat} (h : 1 < n) : At (-2) n (n - 2) := .inr ⟨by decide, by lia⟩
end Mine
namespace Mine
noncomputable abbrev nI (n : Nat) : D := .int n
theorem nI_map (l : List Nat) : l.map nI = (l.map fun n : Nat => (n : Int)).map .int := by simp [nI, Function.comp_def]

noncomputable def pieces : List (List Nat) := [[1], [0, 0], [1, 0], [0, 1], [2]]
noncomputable def beneathL (top : List Nat) (digit : Nat) : List Nat := top.dropLast ++ [top.getLastD 0 + (pieces.getD digit []).headD 0] ++ (pieces.getD digit []).drop 1

theorem beneath_ok {G : Glo} (hG : GloOk G) (hK : G.K = heapK G.w.params) (top : List Nat) (digit : Nat) (h0 : top ≠ []) (h1 : top.length ≤ 1000) (h2 : digit < 5) :
    FnOk G 1 156 [.list (top.map nI), .int digit] (.list ((beneathL top digit).map nI)) := by
  refine FnOk.def ["top", "digit"] ["pieces"] [] (ρ₀ := [("top", .val (.list (top.map nI))), ("digit", .val (.int digit)), ("pieces", .unset)]) hG (by rw [hK]; rfl) rfl (by rw [hK]; kernel_rfl) rfl rfl rfl rfl rfl rfl trivial ?_ rfl rfl rfl rfl (by decide +kernel) (by decide +kernel) (by decide +kernel) ?_
  · intro vs hv
    match vs, hv with
    | [a, b], _ => rfl
  · intro C hCG hr hw henv
    have hs := sizeLine_is
    obtain ⟨pc, hpc⟩ : ∃ pc, pieces[digit]? = some pc := ⟨_, List.getElem?_eq_getElem (by simpa [pieces] using h2)⟩
    have hpl : pc.length ≤ 2 ∧ pc ≠ [] := by
      have := List.mem_of_getElem? hpc
      simp [pieces] at this
      rcases this with rfl | rfl | rfl | rfl | rfl <;> simp
    have hlen : 0 < top.length := List.length_pos_iff.mpr h0
    refine Exs.step (Ex.assign (d := .list (pieces.map fun p => .list (p.map nI))) ?_ (by walk_at "put") hw ⟨rfl, rfl⟩) (Exs.last (Ex.ret (d := .list ((beneathL top digit).map nI)) ?_ rfl))
    · refine (EvO.list (.cons (EvO.list (.cons .int .nil) ?_).ev (.cons (EvO.list (.cons .int (.cons .int .nil)) ?_).ev (.cons (EvO.list (.cons .int (.cons .int .nil)) ?_).ev (.cons (EvO.list (.cons .int (.cons .int .nil)) ?_).ev (.cons (EvO.list (.cons .int .nil) ?_).ev .nil))))) ?_).ev <;> (rw [sizeLine_is]; decide)
    · have hpd : (pieces.map fun p => D.list (p.map nI))[digit]? = some (.list (pc.map nI)) := by simp [hpc]
      have hdl : digit < (pieces.map fun p => D.list (p.map nI)).length := by simpa [pieces] using h2
      obtain ⟨ph, pt, rfl⟩ : ∃ a b, pc = a :: b := by cases pc with | nil => exact absurd rfl hpl.2 | cons a b => exact ⟨a, b, rfl⟩
      have hlast : top.getLast? = some (top.getLast h0) := List.getLast?_eq_some_getLast h0
      refine Ev.cast (Ev.binop (Ev.binop (EvO.slice (Ev.name (by walk_at "mem")) .none (.some (.neg .int))).ev
        (EvO.list (.cons (Ev.binop (Ev.item_list (d := .int (top.getLast h0 : Nat)) (Ev.name (by walk_at "mem")) (.neg .int) (top.length - 1) ?_ ?_) (Ev.item_list (d := .int (ph : Nat)) (Ev.item_list (Ev.name (by walk_at "mem")) (Ev.name (by walk_at "mem")) digit ?_ hpd) .int 0 ?_ ?_) Op2.addInt) .nil) ?_).ev (Op2.addList ?_))
        (EvO.slice (Ev.item_list (Ev.name (by walk_at "mem")) (Ev.name (by walk_at "mem")) digit ?_ hpd) (.some .int) .none).ev (Op2.addList ?_)) ?_
      · exact .inr ⟨by decide, by simp; lia⟩
      · rw [List.getElem?_map, ← List.getLast?_eq_getElem?, hlast]; rfl
      · exact .inl ⟨by lia, rfl, hdl⟩
      · exact .inl ⟨by decide, rfl, by simp⟩
      · simp [nI]
      · simp; lia
      · simp [cutL]; lia
      · exact .inl ⟨by lia, rfl, hdl⟩
      · simp [cutL]; simp at hpl; lia
      · rw [cutL_butLast, show (1 : Int) = ((1 : Nat) : Int) by rfl, cutL_from]
        simp [beneathL, hpc, hlast, List.map_dropLast, nI]
end Mine
namespace Mine
noncomputable def spoiltL (top : List Nat) (digit : Nat) : List Nat :=
  if digit % 3 = 0 then top.take (digit % (top.length - 1)) ++ [top.getD (digit % (top.length - 1)) 0 + 1] ++ top.drop (digit % (top.length - 1) + 1)
  else if digit = 2 ∧ 0 < top.getD (top.length - 1) 0 then top.take (top.length - 2) ++ [top.getD (top.length - 2) 0 + top.getD (top.length - 1) 0, 0]
  else if digit = 2 ∧ 0 < top.getD (top.length - 2) 0 then top.take (top.length - 2) ++ [top.getD (top.length - 2) 0 - 1, 1]
  else [top.sum + top.length + 1 - digit % 3]

theorem get_nI {l : List Nat} {i : Nat} (h : i < l.length) : (l.map nI)[i]? = some (.int (l.getD i 0 : Nat)) := by
  simp [List.getD_eq_getElem?_getD, h, nI]
theorem sum_nat (l : List Nat) : (l.map fun n : Nat => (n : Int)).sum = ((l.sum : Nat) : Int) := by
  induction l with
  | nil => rfl
  | cons a r ih => simp [ih]

theorem spoilt_ok {G : Glo} (hG : GloOk G) (hK : G.K = heapK G.w.params) (top : List Nat) (digit : Nat) (h0 : 2 ≤ top.length) (h1 : top.length ≤ 1000) :
    FnOk G 1 163 [.list (top.map nI), .int digit] (.list ((spoiltL top digit).map nI)) := by
  refine FnOk.def ["top", "digit"] ["k"] [("len", .builtin "len"), ("sum", .builtin "sum")] (ρ₀ := [("top", .val (.list (top.map nI))), ("digit", .val (.int digit)), ("k", .unset), ("len", .glob (.builtin "len")), ("sum", .glob (.builtin "sum"))]) hG (by rw [hK]; rfl) rfl (by rw [hK]; kernel_rfl) rfl rfl rfl rfl rfl rfl ?_ ?_ rfl rfl rfl rfl (by decide +kernel) (by decide +kernel) (by decide +kernel) ?_
  · rw [hK]; exact ⟨.inr ⟨by kernel_rfl, by kernel_rfl, by decide⟩, .inr ⟨by kernel_rfl, by kernel_rfl, by decide⟩, trivial⟩
  · intro vs hv
    match vs, hv with
    | [a, b], _ => rfl
  · intro C hCG hr hw henv
    have hs := sizeLine_is
    have hk : digit % (top.length - 1) < top.length := Nat.lt_of_lt_of_le (Nat.mod_lt _ (by lia)) (by lia)
    have hd3 : (digit : Int).fmod 3 = ((digit % 3 : Nat) : Int) := fmod_nat digit 3
    refine Exs.seq (Ex.if_ (Tr.compare (.binop (Ev.name (by walk_at "mem")) .int (Op2.modInt (by decide))) .int Op2.eqInt rfl) (fun hc => ?_) fun hc => .nil ?_)
    · rw [hd3] at hc
      have hc' : digit % 3 = 0 := by simp at hc; lia
      have hkd : ((digit : Int).fmod ((top.map nI).length - 1)) = ((digit % (top.length - 1) : Nat) : Int) := by
        rw [List.length_map, show ((top.length : Int) - 1) = ((top.length - 1 : Nat) : Int) by lia, fmod_nat]
      refine Exs.seq (Ex.assign (d := .int (digit % (top.length - 1) : Nat)) (Ev.cast (.binop (Ev.name (by walk_at "mem")) (.binop (Ev.len_list (by walk_at "mem") (Ev.name (by walk_at "mem"))) .int Op2.subInt) (Op2.modInt ?_)) (by rw [hkd])) (by walk_at "put") hw (Exs.last (Ex.ret ?_ rfl)))
      · rw [List.length_map]; lia
      · refine Ev.cast (.binop (.binop (EvO.slice (Ev.name (by walk_at "mem")) .none (.some (Ev.name (by walk_at "mem")))).ev (EvO.list (.cons (.binop (Ev.item_list (Ev.name (by walk_at "mem")) (Ev.name (by walk_at "mem")) _ (.nat (by simpa using hk)) (get_nI hk)) .int Op2.addInt) .nil) ?_).ev (Op2.addList ?_))
          (EvO.slice (Ev.name (by walk_at "mem")) (.some (.binop (Ev.name (by walk_at "mem")) .int Op2.addInt)) .none).ev (Op2.addList ?_)) ?_
        · simp; lia
        · have := cutL_len (top.map nI) none (some ((digit % (top.length - 1) : Nat) : Int))
          simp at this ⊢; lia
        · have := cutL_len (top.map nI) none (some ((digit % (top.length - 1) : Nat) : Int))
          have := cutL_len (top.map nI) (some (((digit % (top.length - 1) : Nat) : Int) + 1)) none
          simp at *; lia
        · rw [cutL_upto, show (((digit % (top.length - 1) : Nat) : Int) + 1) = ((digit % (top.length - 1) + 1 : Nat) : Int) by lia, cutL_from]
          simp [spoiltL, hc', nI, List.map_take, List.map_drop]
    · rw [hd3] at hc
      have hc' : ¬ digit % 3 = 0 := by simp at hc; lia
      refine Exs.seq (Ex.if_ (Tr.and (Tr.compare (Ev.name (by walk_at "mem")) .int Op2.eqInt rfl) fun hq => Tr.compare (Ev.item_list (Ev.name (by walk_at "mem")) (.neg .int) _ (.last (by simp; lia)) (by rw [List.length_map]; exact get_nI (by lia))) .int Op2.gtInt rfl) (fun hc2 => Exs.last (Ex.ret ?_ rfl)) fun hc2 => .nil ?_)
      · have hc2' : digit = 2 ∧ 0 < top.getD (top.length - 1) 0 := by simp at hc2 ⊢; lia
        refine Ev.cast (.binop (EvO.slice (Ev.name (by walk_at "mem")) .none (.some (.neg .int))).ev (EvO.list (.cons (.binop (Ev.item_list (Ev.name (by walk_at "mem")) (.neg .int) _ (.last2 (by simp; lia)) (by rw [List.length_map]; exact get_nI (by lia)))
          (Ev.item_list (Ev.name (by walk_at "mem")) (.neg .int) _ (.last (by simp; lia)) (by rw [List.length_map]; exact get_nI (by lia))) Op2.addInt) (.cons .int .nil)) ?_).ev (Op2.addList ?_)) ?_
        · simp; lia
        · have := cutL_len (top.map nI) none (some (-2))
          simp at this ⊢; lia
        · rw [cutL_butTwo]
          unfold spoiltL
          rw [if_neg hc', if_pos hc2']
          simp [nI, List.map_take]
      · have hc2' : ¬ (digit = 2 ∧ 0 < top.getD (top.length - 1) 0) := by
          intro q; rw [q.1] at hc2; simp [q.2] at hc2; have := q.2; rw [List.getD_eq_getElem?_getD] at this; lia
        refine Exs.seq (Ex.if_ (Tr.and (Tr.compare (Ev.name (by walk_at "mem")) .int Op2.eqInt rfl) fun hq => Tr.compare (Ev.item_list (Ev.name (by walk_at "mem")) (.neg .int) _ (.last2 (by simp; lia)) (by rw [List.length_map]; exact get_nI (by lia))) .int Op2.gtInt rfl) (fun hc3 => Exs.last (Ex.ret ?_ rfl)) fun hc3 => .nil ?_)
        · have hc3' : digit = 2 ∧ 0 < top.getD (top.length - 2) 0 := by simp at hc3 ⊢; lia
          refine Ev.cast (.binop (EvO.slice (Ev.name (by walk_at "mem")) .none (.some (.neg .int))).ev (EvO.list (.cons (.binop (Ev.item_list (Ev.name (by walk_at "mem")) (.neg .int) _ (.last2 (by simp; lia)) (by rw [List.length_map]; exact get_nI (by lia)))
            .int Op2.subInt) (.cons .int .nil)) ?_).ev (Op2.addList ?_)) ?_
          · simp; lia
          · have := cutL_len (top.map nI) none (some (-2))
            simp at this ⊢; lia
          · rw [cutL_butTwo]
            unfold spoiltL
            rw [if_neg hc', if_neg hc2', if_pos hc3', show ((top.getD (top.length - 2) 0 : Nat) : Int) - 1 = ((top.getD (top.length - 2) 0 - 1 : Nat) : Int) by have := hc3'.2; lia]
            simp [nI, List.map_take]
        · have hc3' : ¬ (digit = 2 ∧ 0 < top.getD (top.length - 2) 0) := by
            intro q; rw [q.1] at hc3; simp [q.2] at hc3; have := q.2; rw [List.getD_eq_getElem?_getD] at this; lia
          refine Exs.last (Ex.ret (Ev.cast (EvO.list (.cons (.binop (.binop (.binop (Ev.sum (by walk_at "mem") (Ev.cast (Ev.name (by walk_at "mem")) (by rw [nI_map]))) (Ev.len_list (by walk_at "mem") (Ev.name (by walk_at "mem"))) Op2.addInt) .int Op2.addInt) (.binop (Ev.name (by walk_at "mem")) .int (Op2.modInt (by decide))) Op2.subInt) .nil) ?_).ev ?_) rfl)
          · simp; lia
          · rw [hd3, sum_nat, List.length_map]
            unfold spoiltL
            rw [if_neg hc', if_neg hc2', if_neg hc3']
            have : digit % 3 < 3 := Nat.mod_lt _ (by decide)
            rw [show ((top.sum : Nat) : Int) + (top.length : Int) + 1 - ((digit % 3 : Nat) : Int) = ((top.sum + top.length + 1 - digit % 3 : Nat) : Int) by lia]
            rfl
end Mine
namespace Mine
noncomputable def leadL (runs : List Nat) (place : Nat) : List Nat :=
  joinL [9] (((if place % 2 = 1 then runs.dropLast.reverse else runs.dropLast) ++ runs.drop (runs.length - 1)).map fun r => List.replicate r 32)

theorem filterMap_some {α β : Type} (f : α → β) (l : List α) : l.filterMap (fun a => some (f a)) = l.map f := by
  induction l with
  | nil => rfl
  | cons a r ih => simp [ih]

theorem filterMap_is {α β : Type} {f : α → Option β} {g : α → β} : ∀ {l : List α}, (∀ a ∈ l, f a = some (g a)) → l.filterMap f = l.map g
  | [], _ => rfl
  | a :: r, h => by rw [List.filterMap_cons, h a (.head _), List.map_cons, filterMap_is fun x hx => h x (.tail _ hx)]
theorem revComp (cl : List Nat) : ((List.range ((cl.length - 1 : Int) + 1).toNat).map fun i : Nat => D.int ((cl.length - 1 : Int) - i)).filterMap (fun d => match d with | .int i => (cl.map nI)[i.toNat]? | _ => none) = cl.reverse.map nI := by
  rw [show ((cl.length - 1 : Int) + 1).toNat = cl.length by lia, List.filterMap_map, filterMap_is (g := fun i => nI (cl.getD (cl.length - 1 - i) 0))]
  · apply List.ext_getElem?
    intro i
    by_cases hi : i < cl.length
    · rw [List.getElem?_map, List.getElem?_map, List.getElem?_range hi, List.getElem?_reverse hi, List.getElem?_eq_getElem (show cl.length - 1 - i < cl.length by lia)]
      simp [List.getD_eq_getElem?_getD, List.getElem?_eq_getElem (show cl.length - 1 - i < cl.length by lia)]
    · rw [List.getElem?_eq_none (by simp at hi ⊢; lia), List.getElem?_eq_none (by simp at hi ⊢; lia)]
  · intro i hi
    have hi' : i < cl.length := by simpa using hi
    have e : (cl.length - 1 : Int) - i = ((cl.length - 1 - i : Nat) : Int) := by lia
    have hg := get_nI (l := cl) (i := cl.length - 1 - i) (by lia)
    simp only [Function.comp_apply]
    rw [e, Int.toNat_natCast]; exact hg

theorem joinL_len (sep : List Nat) (ls : List (List Nat)) : (joinL sep ls).length ≤ (ls.map (·.length)).sum + ls.length * sep.length := by
  induction ls with
  | nil => simp [joinL]
  | cons a r ih =>
    cases r with
    | nil => simp [joinL]
    | cons b r =>
      simp only [joinL, List.length_append, List.map_cons, List.sum_cons, List.length_cons] at ih ⊢
      rw [Nat.add_mul]; lia

theorem lead_ok {G : Glo} (hG : GloOk G) (hK : G.K = heapK G.w.params) (runs : List Nat) (place : Nat) (h0 : 1 ≤ runs.length) (h1 : runs.length ≤ 1000) (h2 : ∀ r ∈ runs, r ≤ 10000) :
    FnOk G 1 168 [.list (runs.map nI), .int place] (.str (leadL runs place)) := by
  refine FnOk.def ["runs", "place"] ["closed"] [("range", .type "range"), ("len", .builtin "len")] (ρ₀ := [("runs", .val (.list (runs.map nI))), ("place", .val (.int place)), ("closed", .unset), ("range", .glob (.type "range")), ("len", .glob (.builtin "len"))]) hG (by rw [hK]; rfl) rfl (by rw [hK]; kernel_rfl) rfl rfl rfl rfl rfl rfl ?_ ?_ rfl rfl rfl rfl (by decide +kernel) (by decide +kernel) (by decide +kernel) ?_
  · rw [hK]; exact ⟨.inr ⟨by kernel_rfl, by kernel_rfl, by decide⟩, .inr ⟨by kernel_rfl, by kernel_rfl, by decide⟩, trivial⟩
  · intro vs hv
    match vs, hv with
    | [a, b], _ => rfl
  · intro C hCG hr hw henv
    have hs := sizeLine_is
    obtain ⟨L, hL⟩ := henv
    have hp2 : (place : Int).fmod 2 = ((place % 2 : Nat) : Int) := fmod_nat place 2
    refine Exs.seq (Ex.assign (d := .list (runs.dropLast.map nI)) (Ev.cast (EvO.slice (Ev.name (by walk_at "mem")) .none (.some (.neg .int))).ev (by rw [cutL_butLast]; simp [List.map_dropLast])) (by walk_at "put") hw ?_)
    refine Exs.cons (R' := fun o q => o = .next ∧ ∃ cl : List Nat, cl.length + 1 = runs.length ∧ (∀ r ∈ cl, r ≤ 10000) ∧ cl = (if place % 2 = 1 then runs.dropLast.reverse else runs.dropLast) ∧ q = ([("runs", .val (.list (runs.map nI))), ("place", .val (.int place)), ("closed", .val (.list (cl.map nI))), ("range", .glob (.type "range")), ("len", .glob (.builtin "len"))] : Rho))
      (Ex.if_ (Tr.compare (.binop (Ev.name (by walk_at "mem")) .int (Op2.modInt (by decide))) .int Op2.eqInt rfl) (fun hc => ?_) fun hc => .nil ?_) (fun ρ' h => ?_) (fun _ h => by cases h.1) (fun _ h => by cases h.1) (fun _ _ h => by cases h.1)
    · rw [hp2] at hc
      have hc' : place % 2 = 1 := by simp at hc; lia
      refine Exs.last (Ex.assign (d := .list (runs.dropLast.reverse.map nI)) (Ev.cast (EvO.comp (cl := [("closed", L + 1)]) (ls := ["k"]) (frees := [("closed", .list (runs.dropLast.map nI))]) (items := (List.range ((runs.dropLast.length - 1 : Int) + 1).toNat).map fun i : Nat => D.int ((runs.dropLast.length - 1 : Int) - i)) (f := fun d => match d with | .int i => (runs.dropLast.map nI)[i.toNat]? | _ => none) ?_ (EvI.rangeDown (by walk_at "mem") (Ev.cast (.binop (Ev.len_list (by walk_at "mem") (Ev.name (by walk_at "mem"))) .int Op2.subInt) (by simp)) (.neg .int) (.neg .int) ?_) ?_ ?_).ev ?_) (by walk_at "put") hw ⟨rfl, _, ?_, ?_, ?_, rfl⟩ (by rw [hL]; rfl))
      · refine ⟨by rw [hL]; rfl, by decide, rfl, by decide, by decide, ?_, ?_, by show (["k", "closed"] : List Str).Nodup; decide⟩
        · intro p hp
          rcases List.mem_singleton.mp hp with rfl
          exact ⟨by show (("closed" : Str) == "__debug__") = false; decide, by rw [hL]; rfl, by walk_at "mem", by rw [hL]; rfl, _, rfl⟩
        · intro x c h
          rw [hL]
          exact h
      · simp; lia
      · simp; lia
      · intro C' hG' hr' hl' d hd
        obtain ⟨i, hi, rfl⟩ := List.mem_map.mp hd
        have hi' : i < runs.dropLast.length := by simp at hi ⊢; lia
        have e : (runs.dropLast.length - 1 : Int) - i = ((runs.dropLast.length - 1 - i : Nat) : Int) := by lia
        have hg := get_nI (l := runs.dropLast) (i := runs.dropLast.length - 1 - i) (by lia)
        show As C' ([("k", .unset), ("closed", .val (.list (runs.dropLast.map nI)))] : Rho) _ _ _
        refine As.name (by walk_at "put") (.inr (hl' _ (by simp))) ⟨_, ?_, Ev.item_list (d := .int (runs.dropLast.getD (runs.dropLast.length - 1 - i) 0 : Nat)) (Ev.name (by walk_at "mem")) (Ev.name (by walk_at "mem")) (runs.dropLast.length - 1 - i) ?_ hg⟩
        · dsimp only; rw [e, Int.toNat_natCast]; exact hg
        · rw [e]; exact .nat (by rw [List.length_map]; lia)
      · rw [revComp]
      · simp; lia
      · intro r hr; exact h2 r (List.dropLast_subset _ (List.mem_reverse.mp hr))
      · rw [if_pos hc']
    · rw [hp2] at hc
      have hc' : ¬ place % 2 = 1 := by simp at hc; lia
      exact ⟨rfl, _, by simp; lia, (fun r hr => h2 r (List.dropLast_subset _ hr)), by rw [if_neg hc'], rfl⟩
    · obtain ⟨_, cl, hcl, hle, hce, rfl⟩ := h
      refine Exs.last (Ex.ret (d := .str (leadL runs place)) ?_ rfl)
      have hdl : (runs.drop (runs.length - 1)).length ≤ 1 := by simp; lia
      have hall : ∀ r ∈ cl ++ runs.drop (runs.length - 1), r ≤ 10000 := fun r hr => (List.mem_append.mp hr).elim (hle r) fun q => h2 r (List.mem_of_mem_drop q)
      have hsum : ∀ l : List Nat, (∀ r ∈ l, r ≤ 10000) → ((l.map fun r => List.replicate r 32).map (·.length)).sum ≤ 10000 * l.length := by
        intro l
        induction l with
        | nil => intro _; simp
        | cons a r ih =>
          intro h
          have := ih fun x hx => h x (.tail _ hx)
          have := h a (.head _)
          simp at *; lia
      refine Ev.cast (Ev.join (sep := [9]) (ls := (cl ++ runs.drop (runs.length - 1)).map fun r => List.replicate r 32) (Ev.strC [9]) (Ev.cast (EvO.comp (cl := []) (ls := ["run"]) (frees := []) (items := (cl ++ runs.drop (runs.length - 1)).map nI) (f := fun d => match d with | .int i => some (.str (List.replicate i.toNat 32)) | _ => none) ?_ (EvI.list (Ev.cast (.binop (Ev.name (by walk_at "mem")) (EvO.slice (Ev.name (by walk_at "mem")) (.some (.neg .int)) .none).ev (Op2.addList ?_)) ?_)) ?_ ?_).ev ?_) ?_ rfl rfl) ?_
      · exact ⟨by rw [hL]; rfl, by decide, rfl, by decide, by decide, (fun p hp => by cases hp), (fun x c h => by cases h), by decide⟩
      · have := cutL_len (runs.map nI) (some (-1)) none
        simp at this ⊢; lia
      · rw [cutL_last]; simp [List.map_drop]
      · simp; lia
      · intro C' hG' hr' hl' d hd
        obtain ⟨r, hr, rfl⟩ := List.mem_map.mp hd
        have hr9 := hall r hr
        show As C' ([("run", .unset)] : Rho) _ _ _
        refine As.name (by walk_at "put") (.inr (hl' _ (by simp))) ⟨_, rfl, Ev.cast (.binop (Ev.strC [32]) (Ev.name (by walk_at "mem")) (Op2.mulStrI (by lia) (by lia) ?_)) ?_⟩
        · simp; lia
        · simp [nI]
      · congr 1
        rw [List.filterMap_map, List.map_map]
        simp only [Function.comp_def, nI, Int.toNat_natCast]
        rw [filterMap_some]
      · have := hsum _ hall
        simp only [List.length_map, List.length_append, List.length_singleton, Nat.mul_one] at this ⊢
        rw [hs]; lia
      · rw [hce]; rfl
end Mine
namespace Mine
noncomputable def Ent.ok : Ent → Bool
  | .ownd _ | .oinst .. => false
  | _ => true
noncomputable def OkAll : Rho → Prop
  | [] => True
  | p :: r => p.2.ok = true ∧ OkAll r
theorem OkAll.own {ρ : Rho} (h : OkAll ρ) : ∀ p ∈ ρ, match p.2 with | .ownd _ => False | .oinst .. => False | _ => True := by
  induction ρ with
  | nil => intro p hp; cases hp
  | cons q r ih =>
    intro p hp
    rcases List.mem_cons.mp hp with rfl | hp
    · have := h.1
      revert this
      cases p.2 <;> intro this <;> first | trivial | cases this
    · exact ih h.2 p hp

noncomputable def word (k : Nat) : List Nat := List.replicate (k + 1) 97
noncomputable abbrev Row := List Nat × List Nat × List Nat
noncomputable abbrev Stand := List (List Nat × Nat)
noncomputable def pairD (p : List Nat × Nat) : D := .tup [.list (p.1.map nI), nI p.2]
noncomputable def rowD (r : Row) : D := .tup [.list (r.1.map fun k => .str (word k)), .str r.2.1, .list (r.2.2.map nI)]

noncomputable def nextSt (st : Stand) (place cell : Nat) : Stand :=
  if cell % 4 = 1 ∧ st.length < 4 then st ++ [(beneathL (st.getLastD ([], 0)).1 (cell / 4), place)]
  else if cell % 4 = 2 ∧ 1 < st.length then st.take (st.length - 2) ++ [((st.getD (st.length - 2) ([], 0)).1, place)]
  else st.dropLast ++ [((st.getLastD ([], 0)).1, place)]
noncomputable def planStep (x : Stand × List Row) (cell : Nat) : Stand × List Row :=
  if cell % 4 = 3 then (x.1, x.2 ++ [((x.1.take 3).map (·.2) ++ [x.2.length], leadL (spoiltL (x.1.getLastD ([], 0)).1 (cell / 4)) x.2.length, [])])
  else (nextSt x.1 x.2.length cell, x.2 ++ [((nextSt x.1 x.2.length cell).map (·.2), leadL ((nextSt x.1 x.2.length cell).getLastD ([], 0)).1 x.2.length, (nextSt x.1 x.2.length cell).map (·.2))])
noncomputable def init0 : Stand × List Row := ([([0, 0], 0)], [([0], [9], [0])])
noncomputable def cellsOf (script : List Int) : List Nat := [1, 11, 5, 3, 2] ++ (script.take 4).map fun n => (n.fmod 20).toNat
noncomputable def planL (script : List Int) : Stand × List Row := (cellsOf script).foldl planStep init0

/-- bounds -/
noncomputable def GoodR (b : Nat) (r : List Nat) : Prop := 2 ≤ r.length ∧ r.length ≤ 2 + b ∧ ∀ x ∈ r, x ≤ 2 * b
structure PlanInv (b : Nat) (x : Stand × List Row) : Prop where
  ne : x.1 ≠ []
  st4 : x.1.length ≤ 4
  good : ∀ p ∈ x.1, GoodR b p.1 ∧ p.2 ≤ b
  rows : x.2.length = b + 1

theorem GoodR.mono {b b' : Nat} {r : List Nat} (h : GoodR b r) (hb : b ≤ b') : GoodR b' r := ⟨h.1, by have := h.2.1; lia, fun x hx => by have := h.2.2 x hx; lia⟩
theorem GoodR.beneath {b : Nat} {r : List Nat} {d : Nat} (h : GoodR b r) : GoodR (b + 1) (beneathL r d) := by
  have hp : (pieces.getD d []).length ≤ 2 ∧ ∀ x ∈ pieces.getD d [], x ≤ 2 := by
    rw [List.getD_eq_getElem?_getD]
    cases q : pieces[d]? with
    | none => simp
    | some pc =>
      have := List.mem_of_getElem? q
      simp [pieces] at this
      rcases this with rfl | rfl | rfl | rfl | rfl <;> simp
  obtain ⟨h1, h2, h3⟩ := h
  have hne : r ≠ [] := by intro q; rw [q] at h1; simp at h1
  refine ⟨by simp [beneathL]; lia, ?_, ?_⟩
  · have := hp.1
    simp only [beneathL, List.length_append, List.length_dropLast, List.length_singleton, List.length_drop]; lia
  · intro x hx
    unfold beneathL at hx
    rw [List.mem_append, List.mem_append] at hx
    rcases hx with (hx | hx) | hx
    · have := h3 x (List.dropLast_subset _ hx); lia
    · rw [List.mem_singleton] at hx
      have e1 : r.getLastD 0 ≤ 2 * b := by
        rw [List.getLastD_eq_getLast?, List.getLast?_eq_some_getLast hne]
        exact h3 _ (List.getLast_mem hne)
      have e2 : (pieces.getD d []).headD 0 ≤ 2 := by
        cases q : pieces.getD d [] with
        | nil => simp
        | cons a t => exact hp.2 a (by rw [q]; exact .head _)
      lia
    · have := hp.2 x (List.mem_of_mem_drop hx); lia

theorem sum_le (l : List Nat) (b : Nat) (h : ∀ x ∈ l, x ≤ b) : l.sum ≤ l.length * b := by
  induction l with
  | nil => simp
  | cons a r ih =>
    have := ih fun x hx => h x (.tail _ hx)
    have := h a (.head _)
    simp only [List.sum_cons, List.length_cons, Nat.add_mul]; lia

theorem spoilt_bound {b : Nat} {r : List Nat} {d : Nat} (h : GoodR b r) (hb : b ≤ 20) : 1 ≤ (spoiltL r d).length ∧ (spoiltL r d).length ≤ 1000 ∧ ∀ x ∈ spoiltL r d, x ≤ 10000 := by
  obtain ⟨h1, h2, h3⟩ := h
  have hD : ∀ i, r.getD i 0 ≤ 2 * b := fun i => by
    rw [List.getD_eq_getElem?_getD]
    cases q : r[i]? with
    | none => simp
    | some v => exact h3 _ (List.mem_of_getElem? q)
  have hs := sum_le r (2 * b) h3
  have hsb : r.length * (2 * b) ≤ 22 * 40 := Nat.mul_le_mul (by lia) (by lia)
  have hm : d % (r.length - 1) < r.length := Nat.lt_of_lt_of_le (Nat.mod_lt _ (by lia)) (by lia)
  unfold spoiltL
  split
  · refine ⟨by simp; lia, by simp; lia, fun x hx => ?_⟩
    rw [List.mem_append, List.mem_append] at hx
    rcases hx with (hx | hx) | hx
    · have := h3 x (List.mem_of_mem_take hx); lia
    · rw [List.mem_singleton] at hx
      have := hD (d % (r.length - 1)); lia
    · have := h3 x (List.mem_of_mem_drop hx); lia
  · split
    · refine ⟨by simp, by simp; lia, fun x hx => ?_⟩
      rw [List.mem_append] at hx
      rcases hx with hx | hx
      · have := h3 x (List.mem_of_mem_take hx); lia
      · have := hD (r.length - 1)
        have := hD (r.length - 2)
        rcases List.mem_cons.mp hx with rfl | hx
        · lia
        · rw [List.mem_singleton] at hx; lia
    · split
      · refine ⟨by simp, by simp; lia, fun x hx => ?_⟩
        rw [List.mem_append] at hx
        rcases hx with hx | hx
        · have := h3 x (List.mem_of_mem_take hx); lia
        · have := hD (r.length - 2)
          rcases List.mem_cons.mp hx with rfl | hx
          · lia
          · rw [List.mem_singleton] at hx; lia
      · refine ⟨by simp, by simp, fun x hx => ?_⟩
        rw [List.mem_singleton] at hx; lia

theorem nextSt_inv {b : Nat} {x : Stand × List Row} (h : PlanInv b x) (c : Nat) : nextSt x.1 x.2.length c ≠ [] ∧ (nextSt x.1 x.2.length c).length ≤ 4 ∧ ∀ p ∈ nextSt x.1 x.2.length c, GoodR (b + 1) p.1 ∧ p.2 ≤ b + 1 := by
  obtain ⟨hne, h4, hg, hr⟩ := h
  have hup : ∀ p ∈ x.1, GoodR (b + 1) p.1 ∧ p.2 ≤ b + 1 := fun p hp => ⟨(hg p hp).1.mono (by lia), by have := (hg p hp).2; lia⟩
  have hl : x.1.getLastD ([], 0) ∈ x.1 := by rw [List.getLastD_eq_getLast?, List.getLast?_eq_some_getLast hne]; exact List.getLast_mem hne
  have hpos : 0 < x.1.length := List.length_pos_iff.mpr hne
  unfold nextSt
  split
  · rename_i q
    refine ⟨by simp, by simp; lia, fun p hp => ?_⟩
    rcases List.mem_append.mp hp with hp | hp
    · exact hup p hp
    · rw [List.mem_singleton] at hp; subst hp
      exact ⟨(hg _ hl).1.beneath, by show x.2.length ≤ _; lia⟩
  · split
    · rename_i q
      refine ⟨by simp, by simp; lia, fun p hp => ?_⟩
      rcases List.mem_append.mp hp with hp | hp
      · exact hup p (List.mem_of_mem_take hp)
      · rw [List.mem_singleton] at hp; subst hp
        refine ⟨?_, by show x.2.length ≤ _; lia⟩
        have : x.1.getD (x.1.length - 2) ([], 0) ∈ x.1 := by
          rw [List.getD_eq_getElem?_getD, List.getElem?_eq_getElem (by lia)]; exact List.getElem_mem _
        exact (hup _ this).1
    · refine ⟨by simp, by simp; lia, fun p hp => ?_⟩
      rcases List.mem_append.mp hp with hp | hp
      · exact hup p (List.dropLast_subset _ hp)
      · rw [List.mem_singleton] at hp; subst hp
        exact ⟨(hup _ hl).1, by show x.2.length ≤ _; lia⟩
theorem PlanInv.step {b : Nat} {x : Stand × List Row} (h : PlanInv b x) (c : Nat) : PlanInv (b + 1) (planStep x c) := by
  unfold planStep
  split
  · exact ⟨h.ne, h.st4, fun p hp => ⟨(h.good p hp).1.mono (by lia), by have := (h.good p hp).2; lia⟩, by simp [h.rows]⟩
  · obtain ⟨a1, a2, a3⟩ := nextSt_inv h c
    exact ⟨a1, a2, a3, by simp [h.rows]⟩
theorem PlanInv.init : PlanInv 0 init0 := ⟨by decide, by decide, by intro p hp; rcases List.mem_singleton.mp hp with rfl; exact ⟨⟨by decide, by decide, by decide⟩, by decide⟩, rfl⟩
theorem PlanInv.at (cells : List Nat) : ∀ i, i ≤ cells.length → PlanInv i ((cells.take i).foldl planStep init0)
  | 0, _ => PlanInv.init
  | i + 1, h => by
    have hi : i < cells.length := h
    rw [List.take_add_one, List.getElem?_eq_getElem hi, Option.toList_some, List.foldl_append]
    exact (PlanInv.at cells i (by lia)).step _
theorem cellsOf_lt (script : List Int) : ∀ c ∈ cellsOf script, c < 20 := by
  intro c hc
  rcases List.mem_append.mp hc with hc | hc
  · simp at hc; rcases hc with rfl | rfl | rfl | rfl | rfl <;> decide
  · obtain ⟨n, _, rfl⟩ := List.mem_map.mp hc
    have h1 := Int.fmod_lt_of_pos n (show (0 : Int) < 20 by decide)
    have h2 := Int.fmod_nonneg_of_pos n (show (0 : Int) < 20 by decide)
    lia
theorem cellsOf_len (script : List Int) : (cellsOf script).length ≤ 9 := by simp [cellsOf]; lia
end Mine
namespace Mine
noncomputable def namesF : D → Option D
  | .tup [_, .int k] => some (.str (List.replicate (k + 1).toNat 97))
  | _ => none
noncomputable def kF : D → Option D
  | .tup [_, .int k] => some (.int k)
  | _ => none
theorem namesF_map (st : Stand) : (st.map pairD).filterMap namesF = (st.map (·.2)).map fun k => .str (word k) := by
  rw [List.filterMap_map, List.map_map]
  refine filterMap_is fun a _ => ?_
  simp only [Function.comp_apply, pairD, namesF, word]
  rw [show ((a.2 : Int) + 1).toNat = a.2 + 1 by lia]
theorem kF_map (st : Stand) : (st.map pairD).filterMap kF = (st.map (·.2)).map nI := by
  rw [List.filterMap_map, List.map_map]
  exact filterMap_is fun a _ => rfl

theorem plan_ok {G : Glo} (hG : GloOk G) (hK : G.K = heapK G.w.params) (script : List Int) (h0 : script.length ≤ 1000) :
    FnOk G 2 173 [.list (script.map .int)] (.list ((planL script).2.map rowD)) := by
  refine FnOk.def ["script"] ["standing", "rows", "cell", "place", "runs", "names"] [("len", .builtin "len"), ("_law_lead", .ref 168), ("_law_spoilt", .ref 163), ("_law_beneath", .ref 156)]
    (ρ₀ := [("script", .val (.list (script.map .int))), ("standing", .unset), ("rows", .unset), ("cell", .unset), ("place", .unset), ("runs", .unset), ("names", .unset), ("len", .glob (.builtin "len")), ("_law_lead", .glob (.ref 168)), ("_law_spoilt", .glob (.ref 163)), ("_law_beneath", .glob (.ref 156))]) hG (by rw [hK]; rfl) rfl (by rw [hK]; kernel_rfl) rfl rfl rfl rfl rfl rfl ?_ ?_ rfl rfl rfl rfl (by decide +kernel) (by decide +kernel) (by decide +kernel) ?_
  · rw [hK]; exact ⟨.inr ⟨by kernel_rfl, by kernel_rfl, by decide⟩, .inl (by kernel_rfl), .inl (by kernel_rfl), .inl (by kernel_rfl), trivial⟩
  · intro vs hv
    match vs, hv with
    | [a], _ => rfl
  · intro C hCG hr hw henv
    have hs := sizeLine_is
    obtain ⟨L, hL⟩ := henv
    have hCG' : GloOk C.G := hCG ▸ hG
    have hK' : C.G.K = heapK C.G.w.params := by rw [hCG]; exact hK
    refine Exs.seq (Ex.assign (d := .list (init0.1.map pairD)) (EvO.list (.cons (.tuple (.cons (EvO.list (.cons .int (.cons .int .nil)) ?_).ev (.cons .int .nil)) ?_) .nil) ?_).ev (by walk_at "put") hw ?_)
    · rw [hs]; decide
    · rw [hs]; decide
    · rw [hs]; decide
    refine Exs.seq (Ex.assignO (xs := init0.2.map rowD) (EvO.list (.cons (.tuple (.cons (EvO.list (.cons (Ev.strC [97]) .nil) ?_).ev (.cons (Ev.strC [9]) (.cons (EvO.list (.cons .int .nil) ?_).ev .nil))) ?_) .nil) ?_) (by walk_at "put") hw ?_)
    · rw [hs]; decide
    · rw [hs]; decide
    · rw [hs]; decide
    · rw [hs]; decide
    refine Exs.cons (R' := fun o q => o = .next ∧ ∃ (st : Stand) (e1 e2 e3 e4 : Ent), q = ([("script", .val (.list (script.map .int))), ("standing", .val (.list (st.map pairD))), ("rows", .own ((planL script).2.map rowD)), ("cell", e1), ("place", e2), ("runs", e3), ("names", e4), ("len", .glob (.builtin "len")), ("_law_lead", .glob (.ref 168)), ("_law_spoilt", .glob (.ref 163)), ("_law_beneath", .glob (.ref 156))] : Rho))
      (Ex.for_ (items := (cellsOf script).map nI) ?_ (ForL.of (I := fun i q => ∃ e1 e2 e3 e4 : Ent, (e1.isGlob = false ∧ e2.isGlob = false ∧ e3.isGlob = false ∧ e4.isGlob = false) ∧ (e1.ok = true ∧ e2.ok = true ∧ e3.ok = true ∧ e4.ok = true) ∧
        q = ([("script", .val (.list (script.map .int))), ("standing", .val (.list ((((cellsOf script).take i).foldl planStep init0).1.map pairD))), ("rows", .own ((((cellsOf script).take i).foldl planStep init0).2.map rowD)), ("cell", e1), ("place", e2), ("runs", e3), ("names", e4), ("len", .glob (.builtin "len")), ("_law_lead", .glob (.ref 168)), ("_law_spoilt", .glob (.ref 163)), ("_law_beneath", .glob (.ref 156))] : Rho)) ?_ ?_ ?_)) (fun ρ' h => ?_) (fun _ h => by cases h.1) (fun _ h => by cases h.1) (fun _ _ h => by cases h.1)
    · /- the cells -/
      refine EvI.list (Ev.cast (.binop (EvO.list (.cons .int (.cons .int (.cons .int (.cons .int (.cons .int .nil))))) ?_).ev (EvO.comp (cl := []) (ls := ["number"]) (frees := []) (items := (script.take 4).map .int) (f := fun d => match d with | .int i => some (D.int (i.fmod 20)) | _ => none) ?_ (EvI.list (Ev.cast (EvO.slice (Ev.name (by walk_at "mem")) .none (.some .int)).ev ?_)) ?_ ?_).ev (Op2.addList ?_)) ?_)
      · rw [hs]; decide
      · exact ⟨by rw [hL]; rfl, by decide, rfl, by decide, by decide, (fun p hp => by cases hp), (fun x c h => by cases h), by decide⟩
      · rw [show ((4 : Int)) = ((4 : Nat) : Int) by rfl, cutL_upto]; simp [List.map_take]
      · simp; lia
      · intro C' hG' hr' hl' d hd
        obtain ⟨r, hr, rfl⟩ := List.mem_map.mp hd
        show As C' ([("number", .unset)] : Rho) _ _ _
        exact As.name (by walk_at "put") (.inr (hl' _ (by simp))) ⟨_, rfl, .binop (Ev.name (by walk_at "mem")) .int (Op2.modInt (by decide))⟩
      · have := List.length_filterMap_le (fun d : D => match d with | .int i => some (D.int (i.fmod 20)) | _ => none) ((script.take 4).map .int)
        simp at this ⊢; lia
      · congr 1
        rw [List.filterMap_map]
        simp only [Function.comp_def, filterMap_some, cellsOf, List.map_append, List.map_map]
        congr 1
        apply List.map_congr_left
        intro n _
        have h2 := Int.fmod_nonneg_of_pos n (show (0 : Int) < 20 by decide)
        show D.int _ = D.int _
        congr 1; lia
    · /- a turn -/
      rintro i d ρ hd ⟨e1, e2, e3, e4, ⟨g1, g2, g3, g4⟩, ⟨k1, k2, k3, k4⟩, rfl⟩
      have hi : i < (cellsOf script).length := by simpa using (List.getElem?_eq_some_iff.mp hd).1
      have hcl := cellsOf_len script
      have inv := PlanInv.at (cellsOf script) i (by lia)
      have hstep : ((cellsOf script).take (i + 1)).foldl planStep init0 = planStep (((cellsOf script).take i).foldl planStep init0) (cellsOf script)[i] := by
        rw [List.take_add_one, List.getElem?_eq_getElem hi, Option.toList_some, List.foldl_append]; rfl
      rw [hstep]
      have hdc : d = nI (cellsOf script)[i] := by rw [List.getElem?_map, List.getElem?_eq_getElem hi] at hd; exact (Option.some.inj hd).symm
      subst hdc
      have hc20 := cellsOf_lt script _ (List.getElem_mem hi)
      generalize (cellsOf script)[i] = c at *
      generalize hX : ((cellsOf script).take i).foldl planStep init0 = X at *
      clear hstep hd
      have invn := nextSt_inv inv c
      obtain ⟨hne, h4, hgood, hrows⟩ := inv
      have hpos : 0 < X.1.length := List.length_pos_iff.mpr hne
      have hlast : X.1[X.1.length - 1]? = some (X.1.getLastD ([], 0)) := by
        rw [← List.getLast?_eq_getElem?, List.getLastD_eq_getLast?, List.getLast?_eq_some_getLast hne]; rfl
      have hgl := hgood _ (List.mem_of_getElem? hlast)
      obtain ⟨q1, q2, q3⟩ := hgl.1
      have hm4 : (c : Int).fmod 4 = ((c % 4 : Nat) : Int) := fmod_nat c 4
      have hd4 : (c : Int).fdiv 4 = ((c / 4 : Nat) : Int) := fdiv_nat c 4
      have hrl : X.2.length ≤ 12 := by lia
      refine As.name (by walk_at "put") (.inl hw) ?_
      refine Exs.seq (Ex.assign (d := nI X.2.length) (Ev.peek (x := "rows") (by walk_at "mem") (by walk_at "put") (Ev.cast (Ev.len_list (by walk_at "mem") (Ev.name (by walk_at "mem"))) (by simp)) rfl) (by walk_at "put") hw ?_)
      refine Exs.seq (Ex.assign (d := .list ((X.1.getLastD ([], 0)).1.map nI)) (Ev.item_tup (Ev.item_list (Ev.name (by walk_at "mem")) (.neg .int) (X.1.length - 1) (by simpa using At.last hpos) (d := pairD (X.1.getLastD ([], 0))) (by rw [List.getElem?_map, hlast]; rfl)) .int 0 (.nat (Nat.succ_pos _)) rfl) (by walk_at "put") hw ?_)
      refine Exs.last (Ex.if_ (Tr.compare (.binop (Ev.name (by walk_at "mem")) .int (Op2.modInt (by decide))) .int Op2.eqInt rfl) (fun hc => ?_) fun hc => ?_)
      · rw [hm4] at hc
        have hc' : c % 4 = 3 := by simp at hc; lia
        have hsp := spoilt_bound (d := c / 4) hgl.1 (by lia)
        have e : planStep X c = (X.1, X.2 ++ [((X.1.take 3).map (·.2) ++ [X.2.length], leadL (spoiltL (X.1.getLastD ([], 0)).1 (c / 4)) X.2.length, [])]) := by unfold planStep; rw [if_pos hc']
        rw [e]
        refine Exs.seq (Ex.assign (d := .list (((X.1.take 3).map (·.2) ++ [X.2.length]).map fun k => .str (word k))) (Ev.cast (.binop (EvO.comp (cl := []) (ls := ["held", "k"]) (frees := []) (items := (X.1.take 3).map pairD) (f := namesF) ?_ (EvI.list (Ev.cast (EvO.slice (Ev.name (by walk_at "mem")) .none (.some .int)).ev ?_)) ?_ ?_).ev
          (EvO.list (.cons (.binop (Ev.strC [97]) (.binop (Ev.name (by walk_at "mem")) .int Op2.addInt) (Op2.mulStrI ?_ ?_ ?_)) .nil) ?_).ev (Op2.addList ?_)) ?_) (by walk_at "put") hw ?_)
        · exact ⟨by rw [hL]; rfl, by decide, rfl, by decide, by decide, (fun p hp => by cases hp), (fun x c h => by cases h), by decide⟩
        · rw [show ((3 : Int)) = ((3 : Nat) : Int) by rfl, cutL_upto]; simp [List.map_take]
        · simp; lia
        · intro C' hG' hr' hl' d hd
          obtain ⟨r, hr, rfl⟩ := List.mem_map.mp hd
          have hr2 := (hgood r (List.mem_of_mem_take hr)).2
          show As C' ([("held", .unset), ("k", .unset)] : Rho) _ (.tup [.list (r.1.map nI), nI r.2]) _
          refine As.tup (As.name (by walk_at "put") (.inr (hl' _ (by simp))) (As.name (by walk_at "put") (.inr (hl' _ (by simp))) ⟨_, rfl, Ev.cast (.binop (Ev.strC [97]) (.binop (Ev.name (by walk_at "mem")) .int Op2.addInt) (Op2.mulStrI ?_ ?_ ?_)) ?_⟩)) rfl rfl
          · lia
          · lia
          · simp; lia
          · simp
        · lia
        · lia
        · simp; lia
        · rw [hs]; simp
        · have := List.length_filterMap_le namesF ((X.1.take 3).map pairD)
          simp at this ⊢; lia
        · rw [namesF_map]
          simp [word]
        refine Exs.last (Ex.append (d := rowD ((X.1.take 3).map (·.2) ++ [X.2.length], leadL (spoiltL (X.1.getLastD ([], 0)).1 (c / 4)) X.2.length, [])) (by walk_at "mem") (.tuple (.cons (Ev.name (by walk_at "mem")) (.cons (Ev.fn (by walk_at "mem") (.cons (Ev.fn (by walk_at "mem") (.cons (Ev.name (by walk_at "mem")) (.cons (Ev.cast (.binop (Ev.name (by walk_at "mem")) .int (Op2.divInt (by decide) ?_)) (by rw [hd4])) .nil)) (spoilt_ok hCG' hK' (X.1.getLastD ([], 0)).1 (c / 4) ?_ ?_) ?_) (.cons (Ev.name (by walk_at "mem")) .nil)) (lead_ok hCG' hK' (spoiltL (X.1.getLastD ([], 0)).1 (c / 4)) X.2.length hsp.1 hsp.2.1 hsp.2.2) ?_) (.cons (EvO.list .nil ?_).ev .nil))) ?_) (by walk_at "put") ?_ ⟨.val _, .val _, .val _, .val _, ⟨rfl, rfl, rfl, rfl⟩, ⟨rfl, rfl, rfl, rfl⟩, by dsimp only; rw [List.map_append (f := rowD)]; rfl⟩ ?_ rfl)
        · exact PyProof.noPylong_small (by lia)
        · lia
        · lia
        · lia
        · lia
        · rw [hs]; decide
        · rw [hs]; simp
        · simp; lia
        · rw [hL]; rfl
      · rw [hm4] at hc
        have hc' : ¬ c % 4 = 3 := by simp at hc; lia
        have e : planStep X c = (nextSt X.1 X.2.length c, X.2 ++ [((nextSt X.1 X.2.length c).map (·.2), leadL ((nextSt X.1 X.2.length c).getLastD ([], 0)).1 X.2.length, (nextSt X.1 X.2.length c).map (·.2))]) := by unfold planStep; rw [if_neg hc']
        rw [e]
        refine Exs.cons (R' := fun o q => o = .next ∧ q = ([("script", .val (.list (script.map .int))), ("standing", .val (.list ((nextSt X.1 X.2.length c).map pairD))), ("rows", .own (X.2.map rowD)), ("cell", .val (nI c)), ("place", .val (nI X.2.length)), ("runs", .val (.list ((X.1.getLastD ([], 0)).1.map nI))), ("names", e4), ("len", .glob (.builtin "len")), ("_law_lead", .glob (.ref 168)), ("_law_spoilt", .glob (.ref 163)), ("_law_beneath", .glob (.ref 156))] : Rho))
          (Ex.if_ (Tr.and (Tr.compare (.binop (Ev.name (by walk_at "mem")) .int (Op2.modInt (by decide))) .int Op2.eqInt rfl) fun _ => Tr.compare (Ev.len_list (by walk_at "mem") (Ev.name (by walk_at "mem"))) .int Op2.ltInt rfl) (fun hc2 => ?_) fun hc2 => Exs.last (Ex.if_ (Tr.and (Tr.compare (.binop (Ev.name (by walk_at "mem")) .int (Op2.modInt (by decide))) .int Op2.eqInt rfl) fun _ => Tr.compare (Ev.len_list (by walk_at "mem") (Ev.name (by walk_at "mem"))) .int Op2.gtInt rfl) (fun hc3 => ?_) fun hc3 => ?_)) (fun ρ' h => ?_) (fun _ h => by cases h.1) (fun _ h => by cases h.1) (fun _ _ h => by cases h.1)
        · rw [hm4] at hc2
          have hc2' : c % 4 = 1 ∧ X.1.length < 4 := by simp at hc2; lia
          refine Exs.last (Ex.assign (d := .list ((nextSt X.1 X.2.length c).map pairD)) (Ev.cast (.binop (Ev.name (by walk_at "mem")) (EvO.list (.cons (.tuple (.cons (Ev.fn (by walk_at "mem") (.cons (Ev.name (by walk_at "mem")) (.cons (Ev.cast (.binop (Ev.name (by walk_at "mem")) .int (Op2.divInt (by decide) ?_)) (by rw [hd4])) .nil)) (beneath_ok hCG' hK' (X.1.getLastD ([], 0)).1 (c / 4) ?_ ?_ ?_) ?_) (.cons (Ev.name (by walk_at "mem")) .nil)) ?_) .nil) ?_).ev (Op2.addList ?_)) ?_) (by walk_at "put") hw ⟨rfl, rfl⟩)
          · exact PyProof.noPylong_small (by lia)
          · intro q; rw [q] at q1; simp at q1
          · lia
          · lia
          · lia
          · rw [hs]; simp
          · rw [hs]; simp
          · simp; lia
          · unfold nextSt; rw [if_pos hc2']; simp [pairD]
        · rw [hm4] at hc2 hc3
          have hc2' : ¬ (c % 4 = 1 ∧ X.1.length < 4) := by simp at hc2; lia
          have hc3' : c % 4 = 2 ∧ 1 < X.1.length := by simp at hc3; lia
          have hl2 : (X.1.map pairD)[(X.1.map pairD).length - 2]? = some (pairD (X.1.getD (X.1.length - 2) ([], 0))) := by
            rw [List.length_map, List.getElem?_map, List.getD_eq_getElem?_getD, List.getElem?_eq_getElem (by lia)]; rfl
          refine Exs.last (Ex.assign (d := .list ((nextSt X.1 X.2.length c).map pairD)) (Ev.cast (.binop (EvO.slice (Ev.name (by walk_at "mem")) .none (.some (.neg .int))).ev (EvO.list (.cons (.tuple (.cons (Ev.item_tup (Ev.item_list (Ev.name (by walk_at "mem")) (.neg .int) _ (.last2 (by simp; lia)) hl2) .int 0 (.nat (Nat.succ_pos _)) rfl) (.cons (Ev.name (by walk_at "mem")) .nil)) ?_) .nil) ?_).ev (Op2.addList ?_)) ?_) (by walk_at "put") hw ⟨rfl, rfl⟩)
          · rw [hs]; simp
          · rw [hs]; simp
          · have := cutL_len (X.1.map pairD) none (some (-2))
            simp at this ⊢; lia
          · unfold nextSt; rw [if_neg hc2', if_pos hc3', cutL_butTwo]; simp [pairD, List.map_take]
        · rw [hm4] at hc2 hc3
          have hc2' : ¬ (c % 4 = 1 ∧ X.1.length < 4) := by simp at hc2; lia
          have hc3' : ¬ (c % 4 = 2 ∧ 1 < X.1.length) := by simp at hc3; lia
          refine Exs.last (Ex.assign (d := .list ((nextSt X.1 X.2.length c).map pairD)) (Ev.cast (.binop (EvO.slice (Ev.name (by walk_at "mem")) .none (.some (.neg .int))).ev (EvO.list (.cons (.tuple (.cons (Ev.name (by walk_at "mem")) (.cons (Ev.name (by walk_at "mem")) .nil)) ?_) .nil) ?_).ev (Op2.addList ?_)) ?_) (by walk_at "put") hw ⟨rfl, rfl⟩)
          · rw [hs]; simp
          · rw [hs]; simp
          · have := cutL_len (X.1.map pairD) none (some (-1))
            simp at this ⊢; lia
          · unfold nextSt; rw [if_neg hc2', if_neg hc3', cutL_butLast]; simp [pairD, List.map_dropLast]
        · obtain ⟨_, rfl⟩ := h
          generalize nextSt X.1 X.2.length c = Y at *
          obtain ⟨y1, y2, y3⟩ := invn
          have ypos : 0 < Y.length := List.length_pos_iff.mpr y1
          have ylast : Y[Y.length - 1]? = some (Y.getLastD ([], 0)) := by
            rw [← List.getLast?_eq_getElem?, List.getLastD_eq_getLast?, List.getLast?_eq_some_getLast y1]; rfl
          have ygl := y3 _ (List.mem_of_getElem? ylast)
          obtain ⟨z1, z2, z3⟩ := ygl.1
          refine Exs.seq (Ex.assignComp (cl := []) (ls := ["held", "k"]) (frees := []) (items := Y.map pairD) (f := namesF) ?_ (EvI.list (Ev.name (by walk_at "mem"))) ?_ ?_ (by rw [hL]; rfl) (by walk_at "put") (by rw [hL]; rfl) (OkAll.own (by walk_at "okall")) ?_)
          · exact ⟨by rw [hL]; rfl, by decide, rfl, by decide, by decide, (fun p hp => by cases hp), (fun x c h => by cases h), by decide⟩
          · simp; lia
          · intro C' hG' hr' hl' d hd
            obtain ⟨r, hr, rfl⟩ := List.mem_map.mp hd
            have hr2 := (y3 r hr).2
            show As C' ([("held", .unset), ("k", .unset)] : Rho) _ (.tup [.list (r.1.map nI), nI r.2]) _
            refine As.tup (As.name (by walk_at "put") (.inr (hl' _ (by simp))) (As.name (by walk_at "put") (.inr (hl' _ (by simp))) ⟨_, rfl, Ev.cast (.binop (Ev.strC [97]) (.binop (Ev.name (by walk_at "mem")) .int Op2.addInt) (Op2.mulStrI ?_ ?_ ?_)) ?_⟩)) rfl rfl
            · lia
            · lia
            · simp; lia
            · simp
          refine Exs.last (Ex.append (d := rowD (Y.map (·.2), leadL (Y.getLastD ([], 0)).1 X.2.length, Y.map (·.2))) (by walk_at "mem") (.tuple (.cons (Ev.cast (Ev.name (by walk_at "mem")) (by rw [namesF_map])) (.cons (Ev.fn (by walk_at "mem") (.cons (Ev.item_tup (Ev.item_list (Ev.name (by walk_at "mem")) (.neg .int) (Y.length - 1) (by simpa using At.last ypos) (d := pairD (Y.getLastD ([], 0))) (by rw [List.getElem?_map, ylast]; rfl)) .int 0 (.nat (Nat.succ_pos _)) rfl) (.cons (Ev.name (by walk_at "mem")) .nil)) (lead_ok hCG' hK' (Y.getLastD ([], 0)).1 X.2.length ?_ ?_ ?_) ?_) (.cons (Ev.cast (EvO.comp (cl := []) (ls := ["held", "k"]) (frees := []) (items := Y.map pairD) (f := kF) ?_ (EvI.list (Ev.name (by walk_at "mem"))) ?_ ?_).ev (by rw [kF_map])) .nil))) ?_) (by walk_at "put") ?_ ⟨.val _, .val _, .val _, .val _, ⟨rfl, rfl, rfl, rfl⟩, ⟨rfl, rfl, rfl, rfl⟩, by dsimp only; rw [List.map_append (f := rowD)]; rfl⟩ ?_ rfl)
          · lia
          · lia
          · intro x hx; have := z3 x hx; lia
          · lia
          · exact ⟨by rw [hL]; rfl, by decide, rfl, by decide, by decide, (fun p hp => by cases hp), (fun x c h => by cases h), by decide⟩
          · simp; lia
          · intro C' hG' hr' hl' d hd
            obtain ⟨r, hr, rfl⟩ := List.mem_map.mp hd
            show As C' ([("held", .unset), ("k", .unset)] : Rho) _ (.tup [.list (r.1.map nI), nI r.2]) _
            exact As.tup (As.name (by walk_at "put") (.inr (hl' _ (by simp))) (As.name (by walk_at "put") (.inr (hl' _ (by simp))) ⟨_, rfl, Ev.name (by walk_at "mem")⟩)) rfl rfl
          · rw [hs]; simp
          · simp; lia
          · rw [hL]; rfl
    · rintro ρ ⟨e1, e2, e3, e4, _, _, rfl⟩
      rw [List.length_map, List.take_length]
      exact ⟨rfl, _, e1, e2, e3, e4, rfl⟩
    · exact ⟨.unset, .unset, .unset, .unset, ⟨rfl, rfl, rfl, rfl⟩, ⟨rfl, rfl, rfl, rfl⟩, rfl⟩
    · obtain ⟨_, st, e1, e2, e3, e4, rfl⟩ := h
      exact ExT.freeze (x := "rows") (by walk_at "mem") (by walk_at "put") (Exs.last (Ex.ret (Ev.name (by walk_at "mem")) rfl))
end Mine
namespace Mine
noncomputable def esc (t : List Nat) : List Nat := (t.map fun c => if c = 92 ∨ c = 34 then [92, c] else [c]).flatten
noncomputable def itemT (r : Row) (t : List Nat) : List Nat := [10] ++ r.2.1 ++ word (r.1.getLastD 0) ++ [61, 34] ++ esc t ++ [34] ++ r.2.1
noncomputable def deeper (m : Nat) (r : Row) : Bool := decide (m < r.1.length)
noncomputable def itemsOf (f : List Row → List Nat) (m : Nat) : List Row → List (List Nat)
  | [] => []
  | r :: rest => if r.1.length = m then itemT r (f (rest.takeWhile (deeper m))) :: itemsOf f m rest else itemsOf f m rest
noncomputable def headLen (rows : List Row) : Nat := (rows.headD ([], [], [])).1.length
noncomputable def textF : Nat → List Row → List Nat
  | 0, _ => []
  | n + 1, rows => joinL [44] (itemsOf (textF n) (headLen rows) rows)
noncomputable def rsz (r : Row) : Nat := 2 * r.2.1.length + (r.1.getLastD 0 + 1) + 6
noncomputable def rszs (rows : List Row) : Nat := (rows.map rsz).sum

theorem esc_len (t : List Nat) : (esc t).length ≤ 2 * t.length := by
  unfold esc
  induction t with
  | nil => simp
  | cons a r ih =>
    simp only [List.map_cons, List.flatten_cons, List.length_append, List.length_cons]
    split <;> simp only [List.length_cons, List.length_nil] <;> lia
theorem itemT_len (r : Row) (t : List Nat) : (itemT r t).length + 1 ≤ rsz r + 2 * t.length := by
  have := esc_len t
  simp only [itemT, rsz, word, List.length_append, List.length_cons, List.length_nil, List.length_replicate]; lia
theorem itemsOf_skip {f : List Row → List Nat} {m : Nat} : ∀ {pre suf : List Row}, (∀ x ∈ pre, m < x.1.length) → itemsOf f m (pre ++ suf) = itemsOf f m suf
  | [], _, _ => rfl
  | r :: pre, suf, h => by
    have h1 := h r (.head _)
    rw [List.cons_append, itemsOf, if_neg (by lia)]
    exact itemsOf_skip fun x hx => h x (.tail _ hx)
theorem takeWhile_deeper {m : Nat} : ∀ {rows : List Row}, ∀ x ∈ rows.takeWhile (deeper m), m < x.1.length
  | [], x, hx => by simp at hx
  | r :: rest, x, hx => by
    rw [List.takeWhile_cons] at hx
    split at hx
    · rename_i q
      rcases List.mem_cons.mp hx with rfl | hx
      · simpa [deeper] using q
      · exact takeWhile_deeper x hx
    · cases hx
theorem itemsOf_cons {f : List Row → List Nat} {m : Nat} {r : Row} {rest : List Row} (h : r.1.length = m) : itemsOf f m (r :: rest) = itemT r (f (rest.takeWhile (deeper m))) :: itemsOf f m (rest.dropWhile (deeper m)) := by
  rw [itemsOf, if_pos h]
  congr 1
  have := itemsOf_skip (f := f) (m := m) (pre := rest.takeWhile (deeper m)) (suf := rest.dropWhile (deeper m)) takeWhile_deeper
  rw [List.takeWhile_append_dropWhile] at this
  exact this
theorem rszs_append (a b : List Row) : rszs (a ++ b) = rszs a + rszs b := by simp [rszs]
theorem itemsOf_len {f : List Row → List Nat} {m : Nat} : ∀ (n : Nat) (rows : List Row), rows.length ≤ n → (∀ x : List Row, x.length < rows.length → (f x).length ≤ 2 ^ x.length * rszs x) → ((itemsOf f m rows).map (·.length)).sum + (itemsOf f m rows).length ≤ 2 ^ rows.length * rszs rows
  | 0, rows, h, _ => by
    have : rows = [] := List.length_eq_zero_iff.mp (by lia)
    subst this; simp [itemsOf]
  | n + 1, [], _, _ => by simp [itemsOf]
  | n + 1, r :: rest, h, hf => by
    have hp : ∀ k, 1 ≤ 2 ^ k := fun k => Nat.one_le_two_pow
    rw [List.length_cons] at h
    have e1 : rszs (r :: rest) = rsz r + rszs rest := by simp [rszs]
    rw [List.length_cons, e1, Nat.pow_succ]
    by_cases hm : r.1.length = m
    · rw [itemsOf_cons hm]
      have e2 : rszs rest = rszs (rest.takeWhile (deeper m)) + rszs (rest.dropWhile (deeper m)) := by
        rw [← rszs_append, List.takeWhile_append_dropWhile]
      have e3 : rest.length = (rest.takeWhile (deeper m)).length + (rest.dropWhile (deeper m)).length := by
        rw [← List.length_append, List.takeWhile_append_dropWhile]
      have ih := itemsOf_len (f := f) (m := m) n (rest.dropWhile (deeper m)) (by lia) (fun x hx => hf x (by simp; lia))
      have hi := hf (rest.takeWhile (deeper m)) (by simp; lia)
      have hit := itemT_len r (f (rest.takeWhile (deeper m)))
      simp only [List.map_cons, List.sum_cons, List.length_cons]
      have m1 : 2 ^ (rest.takeWhile (deeper m)).length ≤ 2 ^ rest.length := Nat.pow_le_pow_right (by decide) (by lia)
      have m2 : 2 ^ (rest.dropWhile (deeper m)).length ≤ 2 ^ rest.length := Nat.pow_le_pow_right (by decide) (by lia)
      have m3 := Nat.mul_le_mul_right (rszs (rest.takeWhile (deeper m))) m1
      have m4 := Nat.mul_le_mul_right (rszs (rest.dropWhile (deeper m))) m2
      have m5 := Nat.mul_le_mul_right (rsz r) (hp rest.length)
      rw [e2, Nat.mul_assoc, Nat.mul_add, Nat.mul_add, Nat.mul_add, Nat.mul_add]
      have e6 : 2 ^ rest.length * (2 * rsz r) = 2 * (2 ^ rest.length * rsz r) := Nat.mul_left_comm _ _ _
      have e7 : 2 ^ rest.length * (2 * rszs (rest.takeWhile (deeper m))) = 2 * (2 ^ rest.length * rszs (rest.takeWhile (deeper m))) := Nat.mul_left_comm _ _ _
      have e8 : 2 ^ rest.length * (2 * rszs (rest.dropWhile (deeper m))) = 2 * (2 ^ rest.length * rszs (rest.dropWhile (deeper m))) := Nat.mul_left_comm _ _ _
      rw [e6, e7, e8]
      lia
    · rw [itemsOf, if_neg hm]
      have ih := itemsOf_len (f := f) (m := m) n rest (by lia) (fun x hx => hf x (by simp; lia))
      have m5 : 2 ^ rest.length * rszs rest ≤ 2 ^ rest.length * 2 * (rsz r + rszs rest) := Nat.mul_le_mul (by lia) (by lia)
      lia
theorem textF_len : ∀ (n : Nat) (rows : List Row), (textF n rows).length ≤ 2 ^ rows.length * rszs rows
  | 0, _ => by simp [textF]
  | n + 1, rows => by
    have h1 := joinL_len [44] (itemsOf (textF n) (headLen rows) rows)
    have h2 := itemsOf_len (f := textF n) (m := headLen rows) rows.length rows (Nat.le_refl _) (fun x _ => textF_len n x)
    rw [textF]
    simp only [List.length_singleton, Nat.mul_one] at h1
    lia

noncomputable def RowsOk (rows : List Row) : Prop := rows.length ≤ 10 ∧ ∀ r ∈ rows, r.1 ≠ [] ∧ rsz r ≤ 1000
theorem RowsOk.size {rows : List Row} (h : RowsOk rows) : rszs rows ≤ 1000 * rows.length := by
  have := sum_le (rows.map rsz) 1000 (fun x hx => by obtain ⟨r, hr, rfl⟩ := List.mem_map.mp hx; exact (h.2 r hr).2)
  simp at this; unfold rszs; lia
theorem RowsOk.pow {rows : List Row} (h : RowsOk rows) : 2 ^ rows.length * rszs rows ≤ 1024 * 10000 :=
  Nat.mul_le_mul (Nat.pow_le_pow_right (by decide) h.1 : 2 ^ rows.length ≤ 2 ^ 10) (by have := h.size; have := h.1; lia)
theorem RowsOk.sub {rows xs : List Row} (h : RowsOk rows) (hl : xs.length ≤ rows.length) (hs : ∀ x ∈ xs, x ∈ rows) : RowsOk xs := ⟨by have := h.1; lia, fun r hr => h.2 r (hs r hr)⟩
theorem joinL_nil (ls : List (List Nat)) : joinL [] ls = ls.flatten := by
  induction ls with
  | nil => rfl
  | cons a r ih =>
    cases r with
    | nil => simp [joinL]
    | cons b r => rw [joinL, ih]; simp; intro h; cases h
end Mine
namespace Mine
noncomputable def escF : D → Option D
  | .str [c] => some (.str (if c = 92 ∨ c = 34 then [92, c] else [c]))
  | _ => none
theorem takeWhile_take {m : Nat} : ∀ {rest : List Row} {j : Nat} {r : Row}, rest[j]? = some r → ¬ m < r.1.length → (∀ x ∈ rest.take j, m < x.1.length) → rest.takeWhile (deeper m) = rest.take j
  | [], j, r, h, _, _ => by simp at h
  | a :: rest, 0, r, h, hr, _ => by
    simp at h; subst h
    rw [List.takeWhile_cons, if_neg (by simpa [deeper] using hr)]; rfl
  | a :: rest, j + 1, r, h, hr, hx => by
    rw [List.takeWhile_cons, if_pos (by simpa [deeper] using hx a (.head _)), List.take_succ_cons]
    congr 1
    exact takeWhile_take (by simpa using h) hr fun x hx' => hx x (.tail _ hx')
theorem takeWhile_all {m : Nat} : ∀ {rest : List Row}, (∀ x ∈ rest, m < x.1.length) → rest.takeWhile (deeper m) = rest
  | [], _ => rfl
  | a :: rest, h => by rw [List.takeWhile_cons, if_pos (by simpa [deeper] using h a (.head _)), takeWhile_all fun x hx => h x (.tail _ hx)]

theorem text_step {G : Glo} (hG : GloOk G) (hK : G.K = heapK G.w.params) (N : Nat) (f : List Row → List Nat) (rows : List Row) (hrows : RowsOk rows)
    (hlen : ∀ x : List Row, (f x).length ≤ 2 ^ x.length * rszs x)
    (ih : ∀ x : List Row, x.length < rows.length → RowsOk x → FnOk G N 178 [.list (x.map rowD)] (.str (f x))) :
    FnOk G (N + 1) 178 [.list (rows.map rowD)] (.str (joinL [44] (itemsOf f (headLen rows) rows))) := by
  refine FnOk.def ["rows"] ["items", "k", "names", "lead", "taken", "inner", "row", "text"] [("range", .type "range"), ("len", .builtin "len"), ("_law_text", .ref 178)]
    (ρ₀ := [("rows", .val (.list (rows.map rowD))), ("items", .unset), ("k", .unset), ("names", .unset), ("lead", .unset), ("taken", .unset), ("inner", .unset), ("row", .unset), ("text", .unset), ("range", .glob (.type "range")), ("len", .glob (.builtin "len")), ("_law_text", .glob (.ref 178))]) hG (by rw [hK]; rfl) rfl (by rw [hK]; kernel_rfl) rfl rfl rfl rfl rfl rfl ?_ ?_ rfl rfl rfl rfl (by decide +kernel) (by decide +kernel) (by decide +kernel) ?_
  · rw [hK]; exact ⟨.inr ⟨by kernel_rfl, by kernel_rfl, by decide⟩, .inr ⟨by kernel_rfl, by kernel_rfl, by decide⟩, .inl (by kernel_rfl), trivial⟩
  · intro vs hv
    match vs, hv with
    | [a], _ => rfl
  · intro C hCG hr hw henv
    have hs := sizeLine_is
    obtain ⟨L, hL⟩ := henv
    have hl10 := hrows.1
    have hpow := hrows.pow
    have htot := itemsOf_len (f := f) (m := headLen rows) rows.length rows (Nat.le_refl _) (fun x _ => hlen x)
    refine Exs.seq (Ex.assignO (xs := []) (EvO.list .nil ?_) (by walk_at "put") hw ?_)
    · rw [hs]; decide
    refine Exs.cons (R' := fun o q => o = .next ∧ ∃ (e1 e2 e3 e4 e5 e6 e7 : Ent), q = ([("rows", .val (.list (rows.map rowD))), ("items", .own ((itemsOf f (headLen rows) rows).map .str)), ("k", e1), ("names", e2), ("lead", e3), ("taken", e4), ("inner", e5), ("row", e6), ("text", e7), ("range", .glob (.type "range")), ("len", .glob (.builtin "len")), ("_law_text", .glob (.ref 178))] : Rho))
      (Ex.for_ (EvI.range1 (n := rows.length) (by walk_at "mem") (Ev.cast (Ev.len_list (by walk_at "mem") (Ev.name (by walk_at "mem"))) (by simp)) (by lia)) (ForL.of (I := fun i q => ∃ (acc : List (List Nat)) (e1 e2 e3 e4 e5 e6 e7 : Ent), (e1.isGlob = false ∧ e2.isGlob = false ∧ e3.isGlob = false ∧ e4.isGlob = false ∧ e5.isGlob = false ∧ e6.isGlob = false ∧ e7.isGlob = false) ∧ acc.length ≤ i ∧ acc ++ itemsOf f (headLen rows) (rows.drop i) = itemsOf f (headLen rows) rows ∧
        q = ([("rows", .val (.list (rows.map rowD))), ("items", .own (acc.map .str)), ("k", e1), ("names", e2), ("lead", e3), ("taken", e4), ("inner", e5), ("row", e6), ("text", e7), ("range", .glob (.type "range")), ("len", .glob (.builtin "len")), ("_law_text", .glob (.ref 178))] : Rho)) ?_ ?_ ?_)) (fun ρ' h => ?_) (fun _ h => by cases h.1) (fun _ h => by cases h.1) (fun _ _ h => by cases h.1)
    · /- a turn -/
      rintro i d ρ hd ⟨acc, e1, e2, e3, e4, e5, e6, e7, ⟨g1, g2, g3, g4, g5, g6, g7⟩, hacc, hsum, rfl⟩
      have hi : i < rows.length := by simpa using (List.getElem?_eq_some_iff.mp hd).1
      have hdi : d = D.int i := by rw [List.getElem?_map, List.getElem?_range hi] at hd; exact (Option.some.inj hd).symm
      subst hdi
      have hri : rows[i]? = some rows[i] := List.getElem?_eq_getElem hi
      have hdrop : rows.drop i = rows[i] :: rows.drop (i + 1) := List.drop_eq_getElem_cons hi
      have hmem : rows[i] ∈ rows := List.getElem_mem hi
      generalize hR : rows[i] = r at *
      have hr0 : rows[0]? = some (rows.headD ([], [], [])) := by cases rows with | nil => simp at hi | cons a b => rfl
      have hrd : (rows.map rowD)[i]? = some (rowD r) := by rw [List.getElem?_map, hri]; rfl
      have hrok := hrows.2 r hmem
      have hpl : 0 < r.1.length := List.length_pos_iff.mpr hrok.1
      refine As.name (by walk_at "put") (.inl hw) ?_
      refine Exs.seq (Ex.unpack (ds := [.list (r.1.map fun k => .str (word k)), .str r.2.1, .list (r.2.2.map nI)]) (Ev.item_list (Ev.name (by walk_at "mem")) (Ev.name (by walk_at "mem")) i (.nat (by simpa using hi)) hrd) (As.name (by walk_at "put") (.inl hw) (As.name (by walk_at "put") (.inl hw) (As.name (by walk_at "put") (.inl hw) ?_))) rfl rfl)
      refine Exs.last (Ex.if_ (Tr.compare (Ev.len_list (by walk_at "mem") (Ev.name (by walk_at "mem"))) (Ev.len_list (by walk_at "mem") (Ev.item_tup (Ev.item_list (d := rowD (rows.headD ([], [], []))) (Ev.name (by walk_at "mem")) .int 0 (.nat (by rw [List.length_map]; exact Nat.lt_of_le_of_lt (Nat.zero_le _) hi)) (by rw [List.getElem?_map, hr0]; rfl)) .int 0 (.nat (Nat.succ_pos _)) rfl)) Op2.eqInt rfl) (fun hc => ?_) fun hc => .nil ?_)
      · have hc' : r.1.length = headLen rows := by simp at hc; unfold headLen; rw [List.headD_eq_head?_getD]; lia
        refine Exs.seq (Ex.assignO (xs := []) (EvO.list .nil ?_) (by walk_at "put") hw ?_)
        · rw [hs]; decide
        refine Exs.cons (R' := fun o q => o = .next ∧ ∃ (e6 : Ent), e6.isGlob = false ∧ q = ([("rows", .val (.list (rows.map rowD))), ("items", .own (acc.map .str)), ("k", .val (.int i)), ("names", .val (.list (r.1.map fun k => .str (word k)))), ("lead", .val (.str r.2.1)), ("taken", .val (.list (r.2.2.map nI))), ("inner", .own (((rows.drop (i + 1)).takeWhile (deeper (headLen rows))).map rowD)), ("row", e6), ("text", e7), ("range", .glob (.type "range")), ("len", .glob (.builtin "len")), ("_law_text", .glob (.ref 178))] : Rho))
          (Ex.for_ (items := (rows.drop (i + 1)).map rowD) (EvI.list (Ev.cast (EvO.slice (Ev.name (by walk_at "mem")) (.some (.binop (Ev.name (by walk_at "mem")) .int Op2.addInt)) .none).ev ?_)) (ForL.of (I := fun j q => ∃ (e6 : Ent), e6.isGlob = false ∧ (∀ x ∈ (rows.drop (i + 1)).take j, headLen rows < x.1.length) ∧ q = ([("rows", .val (.list (rows.map rowD))), ("items", .own (acc.map .str)), ("k", .val (.int i)), ("names", .val (.list (r.1.map fun k => .str (word k)))), ("lead", .val (.str r.2.1)), ("taken", .val (.list (r.2.2.map nI))), ("inner", .own (((rows.drop (i + 1)).take j).map rowD)), ("row", e6), ("text", e7), ("range", .glob (.type "range")), ("len", .glob (.builtin "len")), ("_law_text", .glob (.ref 178))] : Rho)) ?_ ?_ ?_)) (fun ρ' h => ?_) (fun _ h => by cases h.1) (fun _ h => by cases h.1) (fun _ _ h => by cases h.1)
        · rw [show ((i : Int) + 1) = ((i + 1 : Nat) : Int) by lia, cutL_from, List.map_drop]
        · rintro j d ρ hd ⟨e6, g6, hall, rfl⟩
          have hj : j < (rows.drop (i + 1)).length := by simpa using (List.getElem?_eq_some_iff.mp hd).1
          have hjx : (rows.drop (i + 1))[j]? = some (rows.drop (i + 1))[j] := List.getElem?_eq_getElem hj
          have hdx : d = rowD (rows.drop (i + 1))[j] := by rw [List.getElem?_map, hjx] at hd; exact (Option.some.inj hd).symm
          subst hdx
          have hjl : j < rows.length := by simp at hj; lia
          generalize hxx : (rows.drop (i + 1))[j] = x at *
          refine As.name (by walk_at "put") (.inl hw) ?_
          refine Exs.seq (Ex.if_ (Tr.compare (Ev.len_list (by walk_at "mem") (Ev.item_tup (xs := [.list (x.1.map fun k => .str (word k)), .str x.2.1, .list (x.2.2.map nI)]) (show Ev C _ _ (rowD x) from Ev.name (by walk_at "mem")) .int 0 (.nat (Nat.succ_pos _)) rfl)) (Ev.len_list (by walk_at "mem") (Ev.name (by walk_at "mem"))) Op2.leInt rfl) (fun hq => Exs.last (Ex.brk ?_)) fun hq => .nil ?_)
          · have hq' : ¬ headLen rows < x.1.length := by simp at hq; lia
            exact ⟨rfl, _, rfl, by rw [takeWhile_take hjx hq' hall]⟩
          · have hq' : headLen rows < x.1.length := by simp at hq; lia
            have ht : (rows.drop (i + 1)).take (j + 1) = (rows.drop (i + 1)).take j ++ [x] := by rw [List.take_add_one, hjx]; rfl
            refine Exs.last (Ex.append (by walk_at "mem") (Ev.name (by walk_at "mem")) (by walk_at "put") ?_ ⟨.val _, rfl, ?_, by rw [ht, List.map_append (f := rowD)]; rfl⟩ ?_ rfl)
            · simp; lia
            · rw [ht]; intro y hy
              rcases List.mem_append.mp hy with hy | hy
              · exact hall y hy
              · rw [List.mem_singleton] at hy; subst hy; exact hq'
            · rw [hL]; rfl
        · rintro ρ ⟨e6, g6, hall, rfl⟩
          rw [List.length_map, List.take_length] at hall ⊢
          exact ⟨rfl, e6, g6, by rw [takeWhile_all hall]⟩
        · exact ⟨e6, g6, by simp, rfl⟩
        · obtain ⟨_, e6, g6, rfl⟩ := h
          have hsubl : ((rows.drop (i + 1)).takeWhile (deeper (headLen rows))).length ≤ rows.length - (i + 1) := by
            have := (List.takeWhile_prefix (p := deeper (headLen rows)) (l := rows.drop (i + 1))).length_le
            simpa using this
          have hitem : itemsOf f (headLen rows) (rows.drop i) = itemT r (f ((rows.drop (i + 1)).takeWhile (deeper (headLen rows)))) :: itemsOf f (headLen rows) (rows.drop (i + 1)) := by
            rw [hdrop, itemsOf, if_pos hc']
          have hinok : RowsOk ((rows.drop (i + 1)).takeWhile (deeper (headLen rows))) := hrows.sub (by lia) fun x hx => List.mem_of_mem_drop ((List.takeWhile_prefix _).subset hx)
          have hfl := hlen ((rows.drop (i + 1)).takeWhile (deeper (headLen rows)))
          have hfp := hinok.pow
          have ihx := ih ((rows.drop (i + 1)).takeWhile (deeper (headLen rows))) (by lia) hinok
          generalize (rows.drop (i + 1)).takeWhile (deeper (headLen rows)) = inner at *
          generalize f inner = t at *
          have hel := esc_len t
          have hpl2 : 512 * 9000 = 4608000 := by decide
          have htb : t.length ≤ 10240000 := by lia
          have hitb : (itemT r t).length + 1 ≤ 10240000 := by
            have h1 : ((itemsOf f (headLen rows) rows).map (·.length)).sum + (itemsOf f (headLen rows) rows).length ≤ 10240000 := by lia
            rw [← hsum, hitem] at h1
            simp at h1; lia
          have hilen : (itemT r t).length = 1 + r.2.1.length + (r.1.getLastD 0 + 1) + 2 + (esc t).length + 1 + r.2.1.length := by
            simp only [itemT, word, List.length_append, List.length_cons, List.length_nil, List.length_replicate]
          have hlast : (r.1.map fun k => D.str (word k))[(r.1.map fun k => D.str (word k)).length - 1]? = some (.str (word (r.1.getLastD 0))) := by
            rw [List.length_map, List.getElem?_map, ← List.getLast?_eq_getElem?, List.getLastD_eq_getLast?, List.getLast?_eq_some_getLast hrok.1]; rfl
          refine ExT.freeze (x := "inner") (by walk_at "mem") (by walk_at "put") (Exs.seq (Ex.assign (d := .str (esc t)) (Ev.cast (Ev.join (sep := []) (ls := t.map fun c => if c = 92 ∨ c = 34 then [92, c] else [c]) (Ev.strC []) (Ev.cast (EvO.comp (cl := []) (ls := ["sign"]) (frees := []) (items := t.map fun c => .str [c]) (f := escF) ?_ (EvI.str (Ev.fn (by walk_at "mem") (.cons (Ev.name (by walk_at "mem")) .nil) (hCG ▸ ihx) (by lia))) ?_ ?_).ev ?_) ?_ rfl rfl) ?_) (by walk_at "put") hw ?_))
          · exact ⟨by rw [hL]; rfl, by decide, rfl, by decide, by decide, (fun p hp => by cases hp), (fun x c h => by cases h), by decide⟩
          · simp; lia
          · intro C' hG' hr' hl' d hd
            obtain ⟨c, hc, rfl⟩ := List.mem_map.mp hd
            show As C' ([("sign", .unset)] : Rho) _ _ _
            refine As.name (by walk_at "put") (.inr (hl' _ (by simp))) ⟨_, rfl, Ev.ifexp (Tr.or (Tr.compare (Ev.name (by walk_at "mem")) (Ev.strC [92]) Op2.eqStr rfl) fun _ => Tr.compare (Ev.name (by walk_at "mem")) (Ev.strC [34]) Op2.eqStr rfl) (fun hb => ?_) fun hb => ?_⟩
            · have hb' : c = 92 ∨ c = 34 := by simpa using hb
              rw [if_pos hb']
              exact .binop (Ev.strC [92]) (Ev.name (by walk_at "mem")) (Op2.addStr (by rw [hs]; simp))
            · have hb' : ¬ (c = 92 ∨ c = 34) := by simpa using hb
              rw [if_neg hb']
              exact Ev.name (by walk_at "mem")
          · rw [List.filterMap_map, List.map_map]
            congr 1
            exact filterMap_is fun c _ => rfl
          · have : ((t.map fun c => if c = 92 ∨ c = 34 then [92, c] else [c]).map (·.length)).sum = (esc t).length := by unfold esc; rw [List.length_flatten]
            rw [this]; simp; lia
          · rw [joinL_nil]; rfl
          refine Exs.last (Ex.append (d := .str (itemT r t)) (by walk_at "mem") (.binop (.binop (.binop (.binop (.binop (.binop (Ev.strC [10]) (Ev.name (by walk_at "mem")) (Op2.addStr ?_)) (Ev.item_list (Ev.name (by walk_at "mem")) (.neg .int) _ (.last (by simpa using hpl)) hlast) (Op2.addStr ?_)) (Ev.strC [61, 34]) (Op2.addStr ?_)) (Ev.name (by walk_at "mem")) (Op2.addStr ?_)) (Ev.strC [34]) (Op2.addStr ?_)) (Ev.name (by walk_at "mem")) (Op2.addStr ?_)) (by walk_at "put") ?_ ⟨acc ++ [itemT r t], .val _, .val _, .val _, .val _, .val _, e6, .val _, ⟨rfl, rfl, rfl, rfl, rfl, g6, rfl⟩, ?_, ?_, by rw [List.map_append]; rfl⟩ ?_ rfl)
          all_goals (try (simp only [word, List.length_append, List.length_cons, List.length_nil, List.length_replicate]; lia))
          · simp; lia
          · rw [← hsum, hitem]; simp
          · rw [hL]; rfl
      · have hc' : ¬ r.1.length = headLen rows := by simp at hc; unfold headLen; rw [List.headD_eq_head?_getD]; lia
        refine ⟨acc, .val _, .val _, .val _, .val _, e5, e6, e7, ⟨rfl, rfl, rfl, rfl, g5, g6, g7⟩, by lia, ?_, rfl⟩
        rw [← hsum, hdrop, itemsOf, if_neg hc']
    · rintro ρ ⟨acc, e1, e2, e3, e4, e5, e6, e7, _, hacc, hsum, rfl⟩
      rw [List.length_map, List.length_range, List.drop_length, itemsOf, List.append_nil] at hsum
      subst hsum
      exact ⟨rfl, e1, e2, e3, e4, e5, e6, e7, rfl⟩
    · exact ⟨[], .unset, .unset, .unset, .unset, .unset, .unset, .unset, ⟨rfl, rfl, rfl, rfl, rfl, rfl, rfl⟩, Nat.le_refl _, rfl, rfl⟩
    · obtain ⟨_, e1, e2, e3, e4, e5, e6, e7, rfl⟩ := h
      refine ExT.freeze (x := "items") (by walk_at "mem") (by walk_at "put") (Exs.last (Ex.ret (Ev.join (Ev.strC [44]) (Ev.name (by walk_at "mem")) ?_ rfl rfl) rfl))
      simp only [List.length_singleton, Nat.mul_one]; lia

theorem text_ok {G : Glo} (hG : GloOk G) (hK : G.K = heapK G.w.params) : ∀ (n : Nat) (rows : List Row), rows.length ≤ n → RowsOk rows → FnOk G (n + 1) 178 [.list (rows.map rowD)] (.str (textF n rows))
  | 0, rows, h, hr => by
    have : rows = [] := List.length_eq_zero_iff.mp (by lia)
    subst this
    exact text_step hG hK 0 (textF 0) [] hr (fun x => textF_len 0 x) (fun x hx => by simp at hx)
  | n + 1, rows, h, hr => text_step hG hK (n + 1) (textF n) rows hr (fun x => textF_len n x) fun x hx hx' => text_ok hG hK n x (by lia) hx'
end Mine
namespace Mine
structure PH where
  res : List (List Nat)
  part : List Nat
  esc : Bool
  quo : Bool
noncomputable def phStep (x : PH) (c : Nat) : PH :=
  if x.esc = true then ⟨x.res, x.part ++ [c], false, x.quo⟩
  else if x.quo = true then
    if c = 92 then ⟨x.res, x.part, true, x.quo⟩ else if c = 34 then ⟨x.res, x.part ++ [c], x.esc, false⟩ else ⟨x.res, x.part ++ [c], x.esc, x.quo⟩
  else if c = 44 then ⟨x.res ++ [x.part], [], x.esc, x.quo⟩
  else if c = 34 then ⟨x.res, x.part ++ [c], x.esc, true⟩ else ⟨x.res, x.part ++ [c], x.esc, x.quo⟩
noncomputable def phF (s : List Nat) : PH := s.foldl phStep ⟨[], [], false, false⟩
noncomputable def stripL (l : List Nat) : List Nat := (Txt.strip (st l)).cps.toList
theorem stripL_st (l : List Nat) : Txt.strip (st l) = st (stripL l) := by simp [stripL, st]
noncomputable def httpL (s : List Nat) : List (List Nat) := (if (phF s).part = [] then (phF s).res else (phF s).res ++ [(phF s).part]).map stripL

theorem phStep_len (x : PH) (c : Nat) (n : Nat) (h1 : x.part.length ≤ n) (h2 : x.res.length ≤ n) : (phStep x c).part.length ≤ n + 1 ∧ (phStep x c).res.length ≤ n + 1 := by
  unfold phStep
  repeat' split
  all_goals (simp; lia)
theorem phAt_len (s : List Nat) : ∀ i, i ≤ s.length → ((s.take i).foldl phStep ⟨[], [], false, false⟩).part.length ≤ i ∧ ((s.take i).foldl phStep ⟨[], [], false, false⟩).res.length ≤ i
  | 0, _ => ⟨Nat.le_refl _, Nat.le_refl _⟩
  | i + 1, h => by
    have hi : i < s.length := h
    rw [List.take_add_one, List.getElem?_eq_getElem hi, Option.toList_some, List.foldl_append]
    obtain ⟨a, b⟩ := phAt_len s i (by lia)
    exact phStep_len _ _ i a b

theorem http_ok {G : Glo} (hG : GloOk G) (hK : G.K = heapK G.w.params) (s : List Nat) (h0 : s.length ≤ 16000000) :
    FnOk G 1 83 [.str s] (.list ((httpL s).map .str)) := by
  refine FnOk.def ["s"] ["res", "part", "escape", "quote", "cur"] []
    (ρ₀ := [("s", .val (.str s)), ("res", .unset), ("part", .unset), ("escape", .unset), ("quote", .unset), ("cur", .unset)]) hG (by rw [hK]; rfl) rfl (by rw [hK]; kernel_rfl) rfl rfl rfl rfl rfl rfl trivial ?_ rfl rfl rfl rfl (by decide +kernel) (by decide +kernel) (by decide +kernel) ?_
  · intro vs hv
    match vs, hv with
    | [a], _ => rfl
  · intro C hCG hr hw henv
    have hs := sizeLine_is
    obtain ⟨L, hL⟩ := henv
    refine Exs.seq (Ex.assignO (xs := []) (EvO.list .nil ?_) (by walk_at "put") hw ?_)
    · rw [hs]; decide
    refine Exs.seq (Ex.assign (Ev.strC []) (by walk_at "put") hw ?_)
    refine Exs.seq (Ex.assign2 .bool (by walk_at "put") (by walk_at "put") hw ?_)
    refine Exs.cons (R' := fun o q => o = .next ∧ ∃ (e1 : Ent), e1.isGlob = false ∧ q = ([("s", .val (.str s)), ("res", .own ((phF s).res.map .str)), ("part", .val (.str (phF s).part)), ("escape", .val (.bool (phF s).esc)), ("quote", .val (.bool (phF s).quo)), ("cur", e1)] : Rho))
      (Ex.for_ (EvI.str (Ev.name (by walk_at "mem"))) (ForL.of (I := fun i q => ∃ (e1 : Ent) (x : PH), e1.isGlob = false ∧ x = (s.take i).foldl phStep ⟨[], [], false, false⟩ ∧ q = ([("s", .val (.str s)), ("res", .own (x.res.map .str)), ("part", .val (.str x.part)), ("escape", .val (.bool x.esc)), ("quote", .val (.bool x.quo)), ("cur", e1)] : Rho)) ?_ ?_ ?_)) (fun ρ' h => ?_) (fun _ h => by cases h.1) (fun _ h => by cases h.1) (fun _ _ h => by cases h.1)
    · rintro i d ρ hd ⟨e1, x, g1, hx, rfl⟩
      have hi : i < s.length := by simpa using (List.getElem?_eq_some_iff.mp hd).1
      have hdx : d = .str [s[i]] := by rw [List.getElem?_map, List.getElem?_eq_getElem hi] at hd; exact (Option.some.inj hd).symm
      subst hdx
      have hstep : (s.take (i + 1)).foldl phStep ⟨[], [], false, false⟩ = phStep x s[i] := by
        rw [hx, List.take_add_one, List.getElem?_eq_getElem hi, Option.toList_some, List.foldl_append]; rfl
      obtain ⟨b1, b2⟩ := phAt_len s i (by lia)
      rw [← hx] at b1 b2
      rw [hstep]
      generalize s[i] = c at *
      obtain ⟨res, part, es, qu⟩ := x
      simp only at b1 b2
      have hpc : (part ++ [c]).length ≤ sizeLine := by simp; lia
      refine As.name (by walk_at "put") (.inl hw) ?_
      refine Exs.seq (Ex.if_ (Tr.name (Ev.name (by walk_at "mem"))) (fun hc => ?_) fun hc => .nil ?_)
      · have e : phStep ⟨res, part, es, qu⟩ c = ⟨res, part ++ [c], false, qu⟩ := by unfold phStep; rw [if_pos hc]
        exact Exs.seq (Ex.aug (by walk_at "mem") (Ev.name (by walk_at "mem")) (Op2.iaddStr hpc) (by walk_at "put") hw (Exs.seq (Ex.assign .bool (by walk_at "put") hw (Exs.last (Ex.cont ⟨.val _, _, rfl, rfl, by rw [e]⟩)))))
      · refine Exs.seq (Ex.if_ (Tr.name (Ev.name (by walk_at "mem"))) (fun hq => ?_) fun hq => .nil ?_)
        · refine Exs.seq (Ex.if_ (Tr.compare (Ev.name (by walk_at "mem")) (Ev.strC [92]) Op2.eqStr rfl) (fun h92 => ?_) fun h92 => Exs.last (Ex.if_ (Tr.compare (Ev.name (by walk_at "mem")) (Ev.strC [34]) Op2.eqStr rfl) (fun h34 => ?_) fun h34 => .nil ?_))
          · have e : phStep ⟨res, part, es, qu⟩ c = ⟨res, part, true, qu⟩ := by unfold phStep; rw [if_neg (by rw [hc]; decide), if_pos hq, if_pos (by simpa using h92)]
            exact Exs.seq (Ex.assign .bool (by walk_at "put") hw (Exs.last (Ex.cont ⟨.val _, _, rfl, rfl, by rw [e]⟩)))
          · have e : phStep ⟨res, part, es, qu⟩ c = ⟨res, part ++ [c], es, false⟩ := by unfold phStep; rw [if_neg (by rw [hc]; decide), if_pos hq, if_neg (by simpa using h92), if_pos (by simpa using h34)]
            exact Exs.last (Ex.assign .bool (by walk_at "put") hw (Exs.seq (Ex.aug (by walk_at "mem") (Ev.name (by walk_at "mem")) (Op2.iaddStr hpc) (by walk_at "put") hw (Exs.last (Ex.cont ⟨.val _, _, rfl, rfl, by rw [e]⟩)))))
          · have e : phStep ⟨res, part, es, qu⟩ c = ⟨res, part ++ [c], es, qu⟩ := by unfold phStep; rw [if_neg (by rw [hc]; decide), if_pos hq, if_neg (by simpa using h92), if_neg (by simpa using h34)]
            exact Exs.seq (Ex.aug (by walk_at "mem") (Ev.name (by walk_at "mem")) (Op2.iaddStr hpc) (by walk_at "put") hw (Exs.last (Ex.cont ⟨.val _, _, rfl, rfl, by rw [e]⟩)))
        · refine Exs.seq (Ex.if_ (Tr.compare (Ev.name (by walk_at "mem")) (Ev.strC [44]) Op2.eqStr rfl) (fun h44 => ?_) fun h44 => .nil (Exs.seq (Ex.if_ (Tr.compare (Ev.name (by walk_at "mem")) (Ev.strC [34]) Op2.eqStr rfl) (fun h34 => ?_) fun h34 => .nil ?_)))
          · have e : phStep ⟨res, part, es, qu⟩ c = ⟨res ++ [part], [], es, qu⟩ := by unfold phStep; rw [if_neg (by rw [hc]; decide), if_neg (by rw [hq]; decide), if_pos (by simpa using h44)]
            refine Exs.seq (Ex.append (by walk_at "mem") (Ev.name (by walk_at "mem")) (by walk_at "put") ?_ (Exs.seq (Ex.assign (Ev.strC []) (by walk_at "put") hw (Exs.last (Ex.cont ⟨.val _, _, rfl, rfl, by rw [e, List.map_append (f := D.str)]; rfl⟩)))) ?_ rfl)
            · simp; lia
            · rw [hL]; rfl
          · have e : phStep ⟨res, part, es, qu⟩ c = ⟨res, part ++ [c], es, true⟩ := by unfold phStep; rw [if_neg (by rw [hc]; decide), if_neg (by rw [hq]; decide), if_neg (by simpa using h44), if_pos (by simpa using h34)]
            exact Exs.last (Ex.assign .bool (by walk_at "put") hw (Exs.last (Ex.aug (by walk_at "mem") (Ev.name (by walk_at "mem")) (Op2.iaddStr hpc) (by walk_at "put") hw ⟨.val _, _, rfl, rfl, by rw [e]⟩)))
          · have e : phStep ⟨res, part, es, qu⟩ c = ⟨res, part ++ [c], es, qu⟩ := by unfold phStep; rw [if_neg (by rw [hc]; decide), if_neg (by rw [hq]; decide), if_neg (by simpa using h44), if_neg (by simpa using h34)]
            exact Exs.last (Ex.aug (by walk_at "mem") (Ev.name (by walk_at "mem")) (Op2.iaddStr hpc) (by walk_at "put") hw ⟨.val _, _, rfl, rfl, by rw [e]⟩)
    · rintro ρ ⟨e1, x, g1, hx, rfl⟩
      rw [List.length_map, List.take_length] at hx
      subst hx
      exact ⟨rfl, e1, g1, rfl⟩
    · exact ⟨.unset, _, rfl, rfl, rfl⟩
    · obtain ⟨_, e1, g1, rfl⟩ := h
      obtain ⟨b1, b2⟩ := phAt_len s s.length (Nat.le_refl _)
      rw [List.take_length] at b1 b2
      refine Exs.cons (R' := fun o q => o = .next ∧ q = ([("s", .val (.str s)), ("res", .own ((if (phF s).part = [] then (phF s).res else (phF s).res ++ [(phF s).part]).map .str)), ("part", .val (.str (phF s).part)), ("escape", .val (.bool (phF s).esc)), ("quote", .val (.bool (phF s).quo)), ("cur", e1)] : Rho))
        (Ex.if_ (Tr.str (Ev.name (by walk_at "mem"))) (fun hc => ?_) fun hc => .nil ?_) (fun ρ' h => ?_) (fun _ h => by cases h.1) (fun _ h => by cases h.1) (fun _ _ h => by cases h.1)
      · have hc' : ¬ (phF s).part = [] := by simpa using hc
        refine Exs.last (Ex.append (by walk_at "mem") (Ev.name (by walk_at "mem")) (by walk_at "put") ?_ ⟨rfl, by rw [if_neg hc', List.map_append (f := D.str)]; rfl⟩ ?_ rfl)
        · simp [phF] at b2 ⊢; lia
        · rw [hL]; rfl
      · have hc' : (phF s).part = [] := by simpa using hc
        exact ⟨rfl, by rw [if_pos hc']⟩
      · obtain ⟨_, rfl⟩ := h
        have hrl : (if (phF s).part = [] then (phF s).res else (phF s).res ++ [(phF s).part]).length ≤ s.length + 1 := by
          have b2' : (phF s).res.length ≤ s.length := b2
          split
          · lia
          · simp; lia
        generalize hres : (if (phF s).part = [] then (phF s).res else (phF s).res ++ [(phF s).part]) = res at *
        have hh : httpL s = res.map stripL := by unfold httpL; rw [hres]
        rw [hh]
        refine ExT.freeze (x := "res") (by walk_at "mem") (by walk_at "put") (Exs.last (Ex.ret (Ev.cast (EvO.comp (cl := []) (ls := ["part"]) (frees := []) (items := res.map .str) (f := fun d => match d with | .str l => some (.str (stripL l)) | _ => none) ?_ (EvI.list (Ev.name (by walk_at "mem"))) ?_ ?_).ev ?_) rfl))
        · exact ⟨by rw [hL]; rfl, by decide, rfl, by decide, by decide, (fun p hp => by cases hp), (fun x c h => by cases h), by decide⟩
        · simp; lia
        · intro C' hG' hr' hl' d hd
          obtain ⟨l, hl, rfl⟩ := List.mem_map.mp hd
          show As C' ([("part", .unset)] : Rho) _ _ _
          exact As.name (by walk_at "put") (.inr (hl' _ (by simp))) ⟨_, rfl, Ev.strip (Ev.name (by walk_at "mem")) (stripL_st l) rfl rfl⟩
        · rw [List.filterMap_map, List.map_map]
          congr 1
          exact filterMap_is fun c _ => rfl
end Mine
namespace Mine
open PySem.Builtin PySem.Builtin.Str

theorem strSub_st (l : List Nat) (i j : Nat) : strSub (st l) i j = st ((l.drop i).take (j - i)) := by
  unfold strSub st
  congr 1
  rw [List.extract_toArray]

theorem stripL_core {w1 core w2 : List Nat} (h1 : ∀ c ∈ w1, Unicode.isSpace c = true) (h2 : ∀ c ∈ w2, Unicode.isSpace c = true) (hc : core ≠ []) (hh : ∀ c, core.head? = some c → Unicode.isSpace c = false) (hl : ∀ c, core.getLast? = some c → Unicode.isSpace c = false) :
    stripL (w1 ++ core ++ w2) = core := by
  have tw : ∀ (p : Nat → Bool) (a b : List Nat), (∀ c ∈ a, p c = true) → (∀ c, b.head? = some c → p c = false) → (a ++ b).takeWhile p = a := by
    intro p a b ha hb
    induction a with
    | nil =>
      cases b with
      | nil => rfl
      | cons x r => rw [List.nil_append, List.takeWhile_cons, if_neg (by rw [hb x rfl]; decide)]
    | cons x r ih => rw [List.cons_append, List.takeWhile_cons, if_pos (ha x (.head _)), ih fun c hc => ha c (.tail _ hc)]
  have e1 : (w1 ++ core ++ w2).takeWhile Unicode.isSpace = w1 := by
    rw [List.append_assoc]
    refine tw _ _ _ h1 fun c hx => hh c ?_
    cases core with
    | nil => exact absurd rfl hc
    | cons x r => exact hx
  have e2 : ((w1 ++ core ++ w2).drop w1.length).reverse.takeWhile Unicode.isSpace = w2.reverse := by
    rw [List.append_assoc, List.drop_left, List.reverse_append]
    refine tw _ _ _ (fun c hx => h2 c (List.mem_reverse.mp hx)) fun c hx => hl c ?_
    rw [List.head?_reverse] at hx; exact hx
  unfold stripL Txt.strip
  rw [PyProof.Rows.stripBy_eq]
  have lo : stripLo Unicode.isSpace true (st (w1 ++ core ++ w2)) = w1.length := by
    unfold stripLo
    rw [if_pos rfl]
    show ((w1 ++ core ++ w2).toArray.toList.takeWhile _).length = _
    rw [List.toList_toArray, e1]
  rw [lo]
  have hi : stripHi Unicode.isSpace true (st (w1 ++ core ++ w2)) w1.length = w1.length + core.length := by
    unfold stripHi
    rw [if_pos rfl, st_length]
    show _ - (((w1 ++ core ++ w2).toArray.toList.drop _).reverse.takeWhile _).length = _
    rw [List.toList_toArray, e2]
    simp; lia
  rw [hi, strSub_st]
  show List.take _ (List.drop _ _) = _
  rw [List.append_assoc, List.drop_left, Nat.add_sub_cancel_left, List.take_left]

/-! one sign as the separator -/
noncomputable def posL (c : Nat) : Nat → List Nat → List Nat
  | _, [] => []
  | i, x :: r => if x = c then i :: posL c (i + 1) r else posL c (i + 1) r

theorem subAt_one {pre r : List Nat} {x c : Nat} : subAt (st (pre ++ x :: r)) (st [c]) pre.length = (x == c) := by
  unfold subAt
  rw [st_length]
  show ((pre ++ x :: r).toArray.extract pre.length (pre.length + 1) == [c].toArray) = _
  rw [List.extract_toArray]
  have : (pre ++ x :: r).extract pre.length (pre.length + 1) = [x] := by
    rw [List.extract_eq_take_drop]; simp
  rw [this]
  simp

theorem occ_loop (l : List Nat) (c limit : Nat) : ∀ (suf pre : List Nat) (found : Array Nat) (free : Nat), l = pre ++ suf → free ≤ pre.length →
    (forIn (List.range' pre.length (suf.length + 1)) (found, free) (StrLaws.occBody (st l) (st [c]) l.length limit)).run.fst.toList = found.toList ++ (posL c pre.length suf).take (limit - found.size)
  | [], pre, found, free, hl, hf => by
    have hlen : l.length = pre.length := by rw [hl]; simp
    rw [List.length_nil, Nat.zero_add, List.range'_one, List.forIn_cons]
    unfold StrLaws.occBody
    rw [if_neg (by rw [st_length]; simp; lia)]
    simp [posL]
  | x :: r, pre, found, free, hl, hf => by
    have hlen : l.length = pre.length + (r.length + 1) := by rw [hl]; simp
    rw [List.length_cons, List.range'_succ, List.forIn_cons]
    have hsub : subAt (st l) (st [c]) pre.length = (x == c) := by rw [hl]; exact subAt_one
    have hl' : l = (pre ++ [x]) ++ r := by rw [hl]; simp
    have hpl : (pre ++ [x]).length = pre.length + 1 := by simp
    by_cases hc : x = c
    · by_cases hs : found.size < limit
      · have e : StrLaws.occBody (st l) (st [c]) l.length limit pre.length (found, free) = pure (ForInStep.yield (found.push pre.length, pre.length + 1)) := by
          unfold StrLaws.occBody
          rw [if_pos ⟨⟨⟨hs, hf⟩, by rw [st_length]; simp; lia⟩, by rw [hsub]; simpa using hc⟩]; rfl
        rw [e]
        have ih := occ_loop l c limit r (pre ++ [x]) (found.push pre.length) (pre.length + 1) hl' (by rw [hpl]; exact Nat.le_refl _)
        rw [hpl] at ih
        refine Eq.trans ih ?_
        rw [posL, if_pos hc]
        have : limit - found.size = (limit - (found.push pre.length).size) + 1 := by simp; lia
        rw [this, List.take_succ_cons]; simp
      · have e : StrLaws.occBody (st l) (st [c]) l.length limit pre.length (found, free) = pure (ForInStep.yield (found, free)) := by
          unfold StrLaws.occBody
          rw [if_neg (fun q => hs q.1.1.1)]
        rw [e]
        have ih := occ_loop l c limit r (pre ++ [x]) found free hl' (by rw [hpl]; lia)
        rw [hpl] at ih
        refine Eq.trans ih ?_
        have : limit - found.size = 0 := by lia
        rw [this]; simp
    · have e : StrLaws.occBody (st l) (st [c]) l.length limit pre.length (found, free) = pure (ForInStep.yield (found, free)) := by
        unfold StrLaws.occBody
        rw [if_neg (fun q => by have := q.2; rw [hsub] at this; exact hc (by simpa using this))]
      rw [e]
      have ih := occ_loop l c limit r (pre ++ [x]) found free hl' (by rw [hpl]; lia)
      rw [hpl] at ih
      refine Eq.trans ih ?_
      rw [posL, if_neg hc]

theorem occ_one (l : List Nat) (c limit : Nat) : occurrences (st l) (st [c]) 0 (st l).length limit = (posL c 0 l).take limit := by
  rw [StrLaws.occ_eq, st_length]
  have := occ_loop l c limit l [] #[] 0 rfl (Nat.le_refl _)
  simpa using this

noncomputable def splitC (c : Nat) : List Nat → List (List Nat)
  | [] => [[]]
  | x :: r => if x = c then [] :: splitC c r else match splitC c r with
    | h :: t => (x :: h) :: t
    | [] => [[x]]
theorem splitC_ne (c : Nat) (l : List Nat) : splitC c l ≠ [] := by
  cases l with
  | nil => simp [splitC]
  | cons x r => rw [splitC]; split; simp; split <;> simp
noncomputable def onHead (cur : List Nat) : List (List Nat) → List (List Nat)
  | [] => []
  | h :: t => (cur ++ h) :: t
theorem parts_loop (l : List Nat) (c : Nat) : ∀ (suf pre cur : List Nat), l = pre ++ (cur ++ suf) → StrLaws.partsFrom (st l) 1 pre.length (posL c (pre.length + cur.length) suf) = (onHead cur (splitC c suf)).map st
  | [], pre, cur, hl => by
    rw [posL, StrLaws.partsFrom, strSub_st, st_length]
    have : (l.drop pre.length).take (l.length - pre.length) = cur := by
      rw [hl, List.append_nil, List.drop_left]
      exact List.take_of_length_le (by simp)
    rw [this]; simp [splitC, onHead]
  | x :: r, pre, cur, hl => by
    rw [posL, splitC]
    by_cases hc : x = c
    · rw [if_pos hc, if_pos hc, StrLaws.partsFrom, strSub_st]
      have e1 : (l.drop pre.length).take (pre.length + cur.length - pre.length) = cur := by
        rw [hl, List.drop_left, Nat.add_sub_cancel_left, List.take_left]
      have ih := parts_loop l c r (pre ++ cur ++ [x]) [] (by rw [hl]; simp)
      have hpl : (pre ++ cur ++ [x]).length = pre.length + cur.length + 1 := by simp; lia
      rw [hpl] at ih
      simp only [List.length_nil, Nat.add_zero] at ih
      rw [e1, ih]
      cases q : splitC c r with
      | nil => exact absurd q (splitC_ne c r)
      | cons h t => simp [onHead]
    · rw [if_neg hc, if_neg hc]
      have ih := parts_loop l c r pre (cur ++ [x]) (by rw [hl]; simp)
      have hpl : pre.length + (cur ++ [x]).length = pre.length + cur.length + 1 := by simp; lia
      rw [hpl] at ih
      rw [ih]
      cases q : splitC c r with
      | nil => exact absurd q (splitC_ne c r)
      | cons h t => simp [onHead]

theorem kind_one {l : List Nat} {c : Nat} (hc : c < 256) : ¬ Builtin.Str.strKind (st l) < Builtin.Str.strKind (st [c]) := by
  have : Builtin.Str.strKind (st [c]) = 1 := by unfold Builtin.Str.strKind; simp [st, hc]
  rw [this]
  unfold Builtin.Str.strKind
  repeat' split
  all_goals decide
theorem pos_len (c : Nat) : ∀ (l : List Nat) (i : Nat), (posL c i l).length ≤ l.length
  | [], _ => by simp [posL]
  | x :: r, i => by
    have := pos_len c r (i + 1)
    rw [posL]; split <;> simp <;> lia

theorem split_one (l : List Nat) (c : Nat) (hc : c < 256) : Txt.split (st l) (st [c]) = (splitC c l).map st := by
  have key := parts_loop l c l [] [] rfl
  simp only [List.length_nil, Nat.add_zero] at key
  have hh : onHead [] (splitC c l) = splitC c l := by
    cases q : splitC c l with
    | nil => rfl
    | cons h t => rfl
  rw [hh] at key
  have hocc : occurrences (st l) (st [c]) 0 (st l).length ((st l).length + 1) = posL c 0 l := by
    rw [occ_one, st_length]
    exact List.take_of_length_le (by have := pos_len c l 0; lia)
  unfold Txt.split
  by_cases h0 : l = []
  · subst h0
    rw [if_pos (by simp [st_length])]
    rfl
  · have hpos : 0 < l.length := List.length_pos_iff.mpr h0
    rw [if_neg (by rw [st_length, st_length]; simp [kind_one hc]; lia), hocc]
    split
    · rename_i he
      have he' : posL c 0 l = [] := by simpa using he
      rw [he'] at key
      rw [← key, StrLaws.partsFrom, strSub_st, st_length]; simp
    · rw [StrLaws.partsBetween_eq, st_length]; exact key

theorem split_first (k rest : List Nat) (c : Nat) (hc : c < 256) (hk : c ∉ k) : Txt.splitMax (st (k ++ c :: rest)) (st [c]) 1 = [k, rest].map st := by
  have hp : ∀ (k : List Nat) (i : Nat), c ∉ k → (posL c i (k ++ c :: rest)).take 1 = [i + k.length] := by
    intro k
    induction k with
    | nil => intro i _; simp [posL]
    | cons x r ih =>
      intro i h
      rw [List.cons_append, posL, if_neg (fun q => h (by simp [q])), ih (i + 1) (fun q => h (by simp [q]))]
      simp; lia
  have hocc : occurrences (st (k ++ c :: rest)) (st [c]) 0 (st (k ++ c :: rest)).length (limitOf (st (k ++ c :: rest)) 1) = [k.length] := by
    rw [occ_one]
    have := hp k 0 hk
    simpa [limitOf] using this
  unfold Txt.splitMax
  rw [if_neg (by rw [st_length, st_length]; simp [kind_one hc]), hocc, if_neg (by simp), StrLaws.partsBetween_eq, StrLaws.partsFrom, StrLaws.partsFrom, strSub_st, strSub_st, st_length, st_length]
  simp only [List.map_cons, List.map_nil, List.drop_zero, Nat.sub_zero, List.take_left, List.length_singleton]
  congr 2
  rw [show k ++ c :: rest = (k ++ [c]) ++ rest by simp, List.drop_append_of_le_length (by simp)]
  simp
  exact List.take_of_length_le (by lia)
end Mine
namespace Mine
noncomputable def Ent.oki : Ent → Bool
  | .oinst .. => false
  | _ => true
noncomputable def OkI : Rho → Prop
  | [] => True
  | p :: r => p.2.oki = true ∧ OkI r
theorem OkI.no {ρ : Rho} (h : OkI ρ) : ∀ p ∈ ρ, match p.2 with | .oinst .. => False | _ => True := by
  induction ρ with
  | nil => intro p hp; cases hp
  | cons q r ih =>
    intro p hp
    rcases List.mem_cons.mp hp with rfl | hp
    · have := h.1
      revert this
      cases p.2 <;> intro this <;> first | trivial | cases this
    · exact ih h.2 p hp

noncomputable def keqvElt (kv : List Nat × List Nat) : List Nat := kv.1 ++ 61 :: (34 :: (kv.2 ++ [34]))
theorem cutL_inner (x : List Nat) : cutL (34 :: (x ++ [34])) (some 1) (some (-1)) = x := by
  unfold cutL
  have h1 : clipAt (34 :: (x ++ [34])).length ((1 : Nat) : Int) = 1 := by rw [clipAt_nat]; simp
  have h2 : clipAt (34 :: (x ++ [34])).length (-((1 : Nat) : Int)) = x.length + 1 := by rw [clipAt_neg _ _ (by decide)]; simp
  simp only [Option.elim]
  rw [show (1 : Int) = ((1 : Nat) : Int) by rfl, h1, show (-((1 : Nat) : Int)) = (-((1 : Nat) : Int)) by rfl, h2]
  simp

theorem keqv_ok {G : Glo} (hG : GloOk G) (hK : G.K = heapK G.w.params) (kvs : List (List Nat × List Nat)) (h0 : kvs.length ≤ 1000) (h1 : ∀ kv ∈ kvs, 61 ∉ kv.1) (h2 : ∀ kv ∈ kvs, (keqvElt kv).length ≤ 16000000) (h3 : (kvs.map (·.1)).Nodup) :
    FnOk G 1 78 [.list ((kvs.map keqvElt).map .str)] (.dict G.w kvs) := by
  refine FnOk.def ["l"] ["parsed", "elt", "k", "v"] []
    (ρ₀ := [("l", .val (.list ((kvs.map keqvElt).map .str))), ("parsed", .unset), ("elt", .unset), ("k", .unset), ("v", .unset)]) hG (by rw [hK]; rfl) rfl (by rw [hK]; kernel_rfl) rfl rfl rfl rfl rfl rfl trivial ?_ rfl rfl rfl rfl (by decide +kernel) (by decide +kernel) (by decide +kernel) ?_
  · intro vs hv
    match vs, hv with
    | [a], _ => rfl
  · intro C hCG hr hw henv
    have hs := sizeLine_is
    obtain ⟨L, hL⟩ := henv
    refine Exs.seq (Ex.assignD (by walk_at "put") hw ?_)
    refine Exs.cons (R' := fun o q => o = .next ∧ ∃ (e1 e2 e3 : Ent), (e1.oki = true ∧ e2.oki = true ∧ e3.oki = true) ∧ q = ([("l", .val (.list ((kvs.map keqvElt).map .str))), ("parsed", .ownd kvs), ("elt", e1), ("k", e2), ("v", e3)] : Rho))
      (Ex.for_ (EvI.list (Ev.name (by walk_at "mem"))) (ForL.of (I := fun i q => ∃ (e1 e2 e3 : Ent), (e1.oki = true ∧ e2.oki = true ∧ e3.oki = true) ∧ (e1.isGlob = false ∧ e2.isGlob = false ∧ e3.isGlob = false) ∧ q = ([("l", .val (.list ((kvs.map keqvElt).map .str))), ("parsed", .ownd (kvs.take i)), ("elt", e1), ("k", e2), ("v", e3)] : Rho)) ?_ ?_ ?_)) (fun ρ' h => ?_) (fun _ h => by cases h.1) (fun _ h => by cases h.1) (fun _ _ h => by cases h.1)
    · rintro i d ρ hd ⟨e1, e2, e3, ⟨k1, k2, k3⟩, ⟨g1, g2, g3⟩, rfl⟩
      have hi : i < kvs.length := by simpa using (List.getElem?_eq_some_iff.mp hd).1
      have hdx : d = .str (keqvElt kvs[i]) := by rw [List.getElem?_map, List.getElem?_map, List.getElem?_eq_getElem hi] at hd; exact (Option.some.inj hd).symm
      subst hdx
      have hmem : kvs[i] ∈ kvs := List.getElem_mem hi
      have hsz := h2 _ hmem
      have hno := h1 _ hmem
      have htake : kvs.take (i + 1) = kvs.take i ++ [kvs[i]] := by rw [List.take_add_one, List.getElem?_eq_getElem hi]; rfl
      have hnew : ((kvs.take i).any fun kv => decide (kv.1 = kvs[i].1)) = false := by
        rw [List.any_eq_false]
        intro kv hkv q
        have q' : kv.1 = kvs[i].1 := by simpa using q
        obtain ⟨j, hj, e⟩ := List.getElem_of_mem hkv
        have hji : j < i := by simp at hj; lia
        have e' : kvs[j]'(by lia) = kv := by rw [← e, List.getElem_take]
        have hnd := List.pairwise_iff_getElem.mp h3 j i (by simp; lia) (by simpa using hi) hji
        apply hnd
        rw [List.getElem_map, List.getElem_map, e']
        exact q'
      generalize hkv : kvs[i] = kv at *
      obtain ⟨k, x⟩ := kv
      simp only at hno hnew
      have hlen : (keqvElt (k, x)).length = k.length + (x.length + 3) := by simp [keqvElt]
      rw [hlen] at hsz
      have hst : storedD (kvs.take i) k x = kvs.take (i + 1) := by unfold storedD; rw [hnew, htake]; rfl
      have hvlen : (34 :: (x ++ [34])).length = x.length + 2 := by simp
      refine As.name (by walk_at "put") (.inl hw) ?_
      refine Exs.seq (Ex.unpackL (ds := [.str k, .str (34 :: (x ++ [34]))]) (Ev.splitMax (l := keqvElt (k, x)) (ls := [k, 34 :: (x ++ [34])]) (Ev.name (by walk_at "mem")) (Ev.strC [61]) .int (by simp) (split_first k _ 61 (by decide) hno) (by rw [hlen]; lia) (by decide) rfl rfl) (As.name (by walk_at "put") (.inl hw) (As.name (by walk_at "put") (.inl hw) ?_)) rfl rfl)
      refine Exs.seq (Ex.if_ (Tr.and (Tr.compare (Ev.item_str (l := 34 :: (x ++ [34])) (Ev.name (by walk_at "mem")) .int 0 (.nat (Nat.succ_pos _)) rfl) (Ev.strC [34]) Op2.eqStr rfl) fun _ => Tr.compare (Ev.item_str (l := 34 :: (x ++ [34])) (c := 34) (Ev.name (by walk_at "mem")) (.neg .int) _ (.last (Nat.succ_pos _)) ?_) (Ev.strC [34]) Op2.eqStr rfl) (fun hc => ?_) fun hc => ?_)
      · rw [hvlen]; simp
      · refine Exs.last (Ex.assign (Ev.cast (Ev.slice_str (Ev.name (by walk_at "mem")) (.some .int) (.some (.neg .int))) (by rw [cutL_inner])) (by walk_at "put") hw ?_)
        refine Exs.last (Ex.setD (Ev.name (by walk_at "mem")) (Ev.name (by walk_at "mem")) (by walk_at "mem") (OkI.no ⟨rfl, rfl, rfl, rfl, rfl, True.intro⟩) ?_ (by walk_at "put") ⟨.val _, .val _, .val _, ⟨rfl, rfl, rfl⟩, ⟨rfl, rfl, rfl⟩, by rw [hst]⟩)
        simp; lia
      · exact absurd hc (by decide)
    · rintro ρ ⟨e1, e2, e3, hk, _, rfl⟩
      rw [List.length_map, List.length_map, List.take_length]
      exact ⟨rfl, e1, e2, e3, hk, rfl⟩
    · exact ⟨.unset, .unset, .unset, ⟨rfl, rfl, rfl⟩, ⟨rfl, rfl, rfl⟩, rfl⟩
    · obtain ⟨_, e1, e2, e3, ⟨k1, k2, k3⟩, rfl⟩ := h
      refine ExT.freezeD (x := "parsed") (OkI.no ⟨rfl, rfl, k1, k2, k3, True.intro⟩) (by walk_at "mem") (by walk_at "put") (Exs.last (Ex.ret (Ev.name (by walk_at "mem")) ?_))
      rw [hCG]
end Mine
namespace Mine
noncomputable def pathsOf (above : List Nat) (ps : List ((List Nat × List Nat) × List (List Nat))) : List (List Nat) := (ps.map fun p => (above ++ [47] ++ p.1.1) :: p.2).flatten
theorem pathsOf_snoc (above : List Nat) (ps : List ((List Nat × List Nat) × List (List Nat))) (p : (List Nat × List Nat) × List (List Nat)) : pathsOf above (ps ++ [p]) = pathsOf above ps ++ ((above ++ [47] ++ p.1.1) :: p.2) := by simp [pathsOf]
theorem pathsOf_len {above : List Nat} : ∀ {ps : List ((List Nat × List Nat) × List (List Nat))}, (∀ p ∈ ps, p.2.length ≤ 1000) → (pathsOf above ps).length ≤ 1001 * ps.length
  | [], _ => by simp [pathsOf]
  | kv :: r, h => by
    have h1 := pathsOf_len (above := above) (ps := r) fun x hx => h x (.tail _ hx)
    have h2 := h kv (.head _)
    unfold pathsOf at h1 ⊢
    rw [List.map_cons, List.flatten_cons, List.length_append, List.length_cons, List.length_cons]; lia

theorem paths_step {G : Glo} (hG : GloOk G) (hK : G.K = heapK G.w.params) (N : Nat) (hN : 1 ≤ N) (s above : List Nat) (ps : List ((List Nat × List Nat) × List (List Nat))) (kvs : List (List Nat × List Nat)) (hps : kvs = ps.map (·.1)) (hsl : s.length ≤ 16000000) (hh : httpL s = kvs.map keqvElt)
    (h0 : kvs.length ≤ 1000) (h1 : ∀ kv ∈ kvs, 61 ∉ kv.1) (h2 : ∀ kv ∈ kvs, (keqvElt kv).length ≤ 16000000) (h3 : (kvs.map (·.1)).Nodup) (ha : above.length ≤ 100000) (hk : ∀ kv ∈ kvs, kv.1.length ≤ 1000) (hg : ∀ p ∈ ps, p.2.length ≤ 1000)
    (ih : ∀ p ∈ ps, FnOk G N 185 [.str p.1.2, .str (above ++ [47] ++ p.1.1)] (.list (p.2.map .str))) :
    FnOk G (N + 1) 185 [.str s, .str above] (.list ((pathsOf above ps).map .str)) := by
  refine FnOk.def ["text", "above"] ["paths", "told", "word", "inner"] [("parse_keqv_list", .ref 78), ("parse_http_list", .ref 83), ("_law_paths", .ref 185)]
    (ρ₀ := [("text", .val (.str s)), ("above", .val (.str above)), ("paths", .unset), ("told", .unset), ("word", .unset), ("inner", .unset), ("parse_keqv_list", .glob (.ref 78)), ("parse_http_list", .glob (.ref 83)), ("_law_paths", .glob (.ref 185))]) hG (by rw [hK]; rfl) rfl (by rw [hK]; kernel_rfl) rfl rfl rfl rfl rfl rfl ?_ ?_ rfl rfl rfl rfl (by decide +kernel) (by decide +kernel) (by decide +kernel) ?_
  · rw [hK]; exact ⟨.inl (by kernel_rfl), .inl (by kernel_rfl), .inl (by kernel_rfl), trivial⟩
  · intro vs hv
    match vs, hv with
    | [a, b], _ => rfl
  · intro C hCG hr hw henv
    have hs := sizeLine_is
    obtain ⟨L, hL⟩ := henv
    have hCG' : GloOk C.G := hCG ▸ hG
    have hK' : C.G.K = heapK C.G.w.params := by rw [hCG]; exact hK
    have ih' : ∀ p ∈ ps, FnOk C.G N 185 [.str p.1.2, .str (above ++ [47] ++ p.1.1)] (.list (p.2.map .str)) := by rw [hCG]; exact ih
    refine Exs.seq (Ex.assignO (xs := []) (EvO.list .nil ?_) (by walk_at "put") hw ?_)
    · rw [hs]; decide
    refine Exs.seq (Ex.assign (Ev.fn (by walk_at "mem") (.cons (Ev.fn (by walk_at "mem") (.cons (Ev.name (by walk_at "mem")) .nil) (http_ok hCG' hK' s hsl) (by lia)) .nil) (hh ▸ keqv_ok hCG' hK' kvs h0 h1 h2 h3) (by lia)) (by walk_at "put") hw ?_)
    refine Exs.cons (R' := fun o q => o = .next ∧ ∃ (e1 e2 : Ent), q = ([("text", .val (.str s)), ("above", .val (.str above)), ("paths", .own ((pathsOf above ps).map .str)), ("told", .val (.dict C.G.w kvs)), ("word", e1), ("inner", e2), ("parse_keqv_list", .glob (.ref 78)), ("parse_http_list", .glob (.ref 83)), ("_law_paths", .glob (.ref 185))] : Rho))
      (Ex.for_ (EvI.items (Ev.name (by walk_at "mem")) rfl rfl) (ForL.of (I := fun i q => ∃ (e1 e2 : Ent), (e1.isGlob = false ∧ e2.isGlob = false) ∧ q = ([("text", .val (.str s)), ("above", .val (.str above)), ("paths", .own ((pathsOf above (ps.take i)).map .str)), ("told", .val (.dict C.G.w kvs)), ("word", e1), ("inner", e2), ("parse_keqv_list", .glob (.ref 78)), ("parse_http_list", .glob (.ref 83)), ("_law_paths", .glob (.ref 185))] : Rho)) ?_ ?_ ?_)) (fun ρ' h => ?_) (fun _ h => by cases h.1) (fun _ h => by cases h.1) (fun _ _ h => by cases h.1)
    · rintro i d ρ hd ⟨e1, e2, ⟨g1, g2⟩, rfl⟩
      have hlen : kvs.length = ps.length := by rw [hps]; simp
      have hi : i < ps.length := by have := (List.getElem?_eq_some_iff.mp hd).1; simp [itemsD] at this; lia
      have hkvi : kvs[i]? = some ps[i].1 := by rw [hps, List.getElem?_map, List.getElem?_eq_getElem hi]; rfl
      have hdx : d = .tup [.str ps[i].1.1, .str ps[i].1.2] := by rw [itemsD, List.getElem?_map, hkvi] at hd; exact (Option.some.inj hd).symm
      subst hdx
      have hmem : ps[i] ∈ ps := List.getElem_mem hi
      have htake : ps.take (i + 1) = ps.take i ++ [ps[i]] := by rw [List.take_add_one, List.getElem?_eq_getElem hi]; rfl
      have hkl := hk _ (List.mem_of_getElem? hkvi)
      have hgl := hg _ hmem
      have ihk := ih' _ hmem
      have hpl := pathsOf_len (above := above) (ps := ps.take i) fun x hx => hg x (List.mem_of_mem_take hx)
      have htl : (ps.take i).length ≤ 1000 := by simp; lia
      generalize ps[i] = p at *
      obtain ⟨kv, pp⟩ := p
      simp only at hkl hgl ihk htake
      have b1 : (above ++ [47]).length ≤ sizeLine := by simp; lia
      have b2 : (above ++ [47] ++ kv.1).length ≤ sizeLine := by simp; lia
      refine As.tup (As.name (by walk_at "put") (.inl hw) (As.name (by walk_at "put") (.inl hw) ?_)) rfl rfl
      refine Exs.seq (Ex.append (by walk_at "mem") (.binop (.binop (Ev.name (by walk_at "mem")) (Ev.strC [47]) (Op2.addStr b1)) (Ev.name (by walk_at "mem")) (Op2.addStr b2)) (by walk_at "put") ?_ ?_ ?_ rfl)
      · simp only [List.length_map]; lia
      · refine ExT.freeze (x := "paths") (by walk_at "mem") (by walk_at "put") (Exs.last (Ex.assignO (EvO.add (Ev.name (by walk_at "mem")) (Ev.fn (by walk_at "mem") (.cons (Ev.name (by walk_at "mem")) (.cons (.binop (.binop (Ev.name (by walk_at "mem")) (Ev.strC [47]) (Op2.addStr b1)) (Ev.name (by walk_at "mem")) (Op2.addStr b2)) .nil)) ihk (by lia)) ?_) (by walk_at "put") hw ⟨.val (.str kv.1), .val (.str kv.2), ⟨rfl, rfl⟩, ?_⟩))
        · simp only [List.length_map, List.length_append, List.length_singleton]; lia
        · rw [htake, pathsOf_snoc, List.map_append]; simp
      · rw [hL]; rfl
    · rintro ρ ⟨e1, e2, _, rfl⟩
      rw [show (itemsD kvs).length = ps.length by simp [itemsD, hps], List.take_length]
      exact ⟨rfl, e1, e2, rfl⟩
    · exact ⟨.unset, .unset, ⟨rfl, rfl⟩, rfl⟩
    · obtain ⟨_, e1, e2, rfl⟩ := h
      exact ExT.freeze (x := "paths") (by walk_at "mem") (by walk_at "put") (Exs.last (Ex.ret (Ev.name (by walk_at "mem")) rfl))
end Mine
namespace Mine
noncomputable def rawT (r : Row) (t : List Nat) : List Nat := [10] ++ r.2.1 ++ word (r.1.getLastD 0) ++ [61, 34] ++ t ++ [34] ++ r.2.1
noncomputable def WsL (l : List Nat) : Prop := ∀ c ∈ l, c = 32 ∨ c = 9

theorem ph_plain : ∀ (l : List Nat) (res : List (List Nat)) (part : List Nat), (∀ c ∈ l, c ≠ 44 ∧ c ≠ 34) → l.foldl phStep ⟨res, part, false, false⟩ = ⟨res, part ++ l, false, false⟩
  | [], res, part, _ => by simp
  | c :: r, res, part, h => by
    obtain ⟨h1, h2⟩ := h c (.head _)
    rw [List.foldl_cons]
    have e : phStep ⟨res, part, false, false⟩ c = ⟨res, part ++ [c], false, false⟩ := by simp [phStep, h1, h2]
    rw [e, ph_plain r res (part ++ [c]) fun x hx => h x (.tail _ hx)]
    simp
theorem ph_esc : ∀ (t : List Nat) (res : List (List Nat)) (part : List Nat), (esc t).foldl phStep ⟨res, part, false, true⟩ = ⟨res, part ++ t, false, true⟩
  | [], res, part => by simp [esc]
  | c :: r, res, part => by
    have e : esc (c :: r) = (if c = 92 ∨ c = 34 then [92, c] else [c]) ++ esc r := by simp [esc]
    rw [e, List.foldl_append]
    have e2 : (if c = 92 ∨ c = 34 then [92, c] else [c]).foldl phStep ⟨res, part, false, true⟩ = ⟨res, part ++ [c], false, true⟩ := by
      split
      · simp [phStep]
      · rename_i h
        have h1 : ¬ c = 92 := fun q => h (.inl q)
        have h2 : ¬ c = 34 := fun q => h (.inr q)
        simp [phStep, h1, h2]
    rw [e2, ph_esc r res (part ++ [c])]
    simp
theorem ws_plain {l : List Nat} (h : WsL l) : ∀ c ∈ l, c ≠ 44 ∧ c ≠ 34 := fun c hc => by rcases h c hc with rfl | rfl <;> decide
theorem word_plain (k : Nat) : ∀ c ∈ word k, c ≠ 44 ∧ c ≠ 34 := fun c hc => by have := (List.mem_replicate.mp hc).2; subst this; decide
theorem ph_item (r : Row) (t : List Nat) (res : List (List Nat)) (hw : WsL r.2.1) : (itemT r t).foldl phStep ⟨res, [], false, false⟩ = ⟨res, rawT r t, false, false⟩ := by
  unfold itemT rawT
  simp only [List.foldl_append]
  rw [ph_plain [10] _ _ (by decide), ph_plain _ _ _ (ws_plain hw), ph_plain _ _ _ (word_plain _)]
  have e1 : ([61, 34] : List Nat).foldl phStep ⟨res, [] ++ [10] ++ r.2.1 ++ word (r.1.getLastD 0), false, false⟩ = ⟨res, [] ++ [10] ++ r.2.1 ++ word (r.1.getLastD 0) ++ [61, 34], false, true⟩ := by simp [phStep]
  rw [e1, ph_esc]
  have e2 : ∀ p, ([34] : List Nat).foldl phStep ⟨res, p, false, true⟩ = ⟨res, p ++ [34], false, false⟩ := by intro p; simp [phStep]
  rw [e2, ph_plain _ _ _ (ws_plain hw)]
  simp
theorem rawT_ne (r : Row) (t : List Nat) : rawT r t ≠ [] := by simp [rawT]

theorem ph_join : ∀ (xs : List (Row × List Nat)) (res : List (List Nat)), (∀ x ∈ xs, WsL x.1.2.1) →
    ((joinL [44] (xs.map fun p => itemT p.1 p.2)).foldl phStep ⟨res, [], false, false⟩ = ⟨res, [], false, false⟩ ∧ xs = []) ∨ ∃ ys y, xs = ys ++ [y] ∧ (joinL [44] (xs.map fun p => itemT p.1 p.2)).foldl phStep ⟨res, [], false, false⟩ = ⟨res ++ ys.map (fun p => rawT p.1 p.2), rawT y.1 y.2, false, false⟩
  | [], res, _ => .inl ⟨rfl, rfl⟩
  | [x], res, h => .inr ⟨[], x, rfl, by
      show (itemT x.1 x.2).foldl _ _ = _
      rw [ph_item _ _ _ (h x (.head _))]; simp⟩
  | x :: y :: r, res, h => by
    have e : joinL [44] ((x :: y :: r).map fun p => itemT p.1 p.2) = itemT x.1 x.2 ++ [44] ++ joinL [44] ((y :: r).map fun p => itemT p.1 p.2) := rfl
    have e2 : ([44] : List Nat).foldl phStep ⟨res, rawT x.1 x.2, false, false⟩ = ⟨res ++ [rawT x.1 x.2], [], false, false⟩ := by simp [phStep]
    rcases ph_join (y :: r) (res ++ [rawT x.1 x.2]) (fun z hz => h z (.tail _ hz)) with ⟨_, q⟩ | ⟨ys, z, q1, q2⟩
    · cases q
    · refine .inr ⟨x :: ys, z, by rw [q1]; rfl, ?_⟩
      rw [e, List.foldl_append, List.foldl_append, ph_item _ _ _ (h x (.head _)), e2, q2]
      simp

theorem strip_raw (r : Row) (t : List Nat) (hw : WsL r.2.1) : stripL (rawT r t) = keqvElt (word (r.1.getLastD 0), t) := by
  have e : rawT r t = ([10] ++ r.2.1) ++ keqvElt (word (r.1.getLastD 0), t) ++ r.2.1 := by simp [rawT, keqvElt]
  have hsp : ∀ c ∈ r.2.1, Unicode.isSpace c = true := fun c hc => by rcases hw c hc with rfl | rfl <;> decide
  rw [e]
  refine stripL_core ?_ hsp (by simp [keqvElt]) ?_ ?_
  · intro c hc
    rcases List.mem_append.mp hc with hc | hc
    · rw [List.mem_singleton] at hc; subst hc; decide
    · exact hsp c hc
  · intro c hc
    have : (keqvElt (word (r.1.getLastD 0), t)).head? = some 97 := by simp [keqvElt, word, List.replicate_succ]
    rw [this] at hc; cases hc; decide
  · intro c hc
    have : (keqvElt (word (r.1.getLastD 0), t)).getLast? = some 34 := by
      have : keqvElt (word (r.1.getLastD 0), t) = (word (r.1.getLastD 0) ++ 61 :: 34 :: t) ++ [34] := by simp [keqvElt]
      rw [this, List.getLast?_append]; rfl
    rw [this] at hc; cases hc; decide

theorem http_join (xs : List (Row × List Nat)) (h : ∀ x ∈ xs, WsL x.1.2.1) : httpL (joinL [44] (xs.map fun p => itemT p.1 p.2)) = xs.map fun p => keqvElt (word (p.1.1.getLastD 0), p.2) := by
  have key : ∀ ys : List (Row × List Nat), (∀ x ∈ ys, WsL x.1.2.1) → (ys.map fun p => rawT p.1 p.2).map stripL = ys.map fun p => keqvElt (word (p.1.1.getLastD 0), p.2) := by
    intro ys hy
    rw [List.map_map]
    apply List.map_congr_left
    intro x hx
    exact strip_raw x.1 x.2 (hy x hx)
  unfold httpL phF
  rcases ph_join xs [] h with ⟨q, rfl⟩ | ⟨ys, y, q1, q2⟩
  · rw [q]; rfl
  · rw [q2]
    dsimp only
    rw [if_neg (rawT_ne _ _), List.nil_append]
    have : ys.map (fun p => rawT p.1 p.2) ++ [rawT y.1 y.2] = xs.map fun p => rawT p.1 p.2 := by rw [q1]; simp
    rw [this, key xs h]

/-! groups -/
noncomputable def groupsOf (m : Nat) : List Row → List (Row × List Row)
  | [] => []
  | r :: rest => if r.1.length = m then (r, rest.takeWhile (deeper m)) :: groupsOf m rest else groupsOf m rest
theorem itemsOf_groups (f : List Row → List Nat) (m : Nat) : ∀ rows : List Row, itemsOf f m rows = ((groupsOf m rows).map fun p => (p.1, f p.2)).map fun p => itemT p.1 p.2
  | [] => rfl
  | r :: rest => by
    rw [itemsOf, groupsOf]
    split
    · rw [itemsOf_groups f m rest]; rfl
    · exact itemsOf_groups f m rest
theorem groups_skip {m : Nat} : ∀ {pre suf : List Row}, (∀ x ∈ pre, m < x.1.length) → groupsOf m (pre ++ suf) = groupsOf m suf
  | [], _, _ => rfl
  | r :: pre, suf, h => by
    have h1 := h r (.head _)
    rw [List.cons_append, groupsOf, if_neg (by lia)]
    exact groups_skip fun x hx => h x (.tail _ hx)
theorem groups_cons {m : Nat} {r : Row} {rest : List Row} (h : r.1.length = m) : groupsOf m (r :: rest) = (r, rest.takeWhile (deeper m)) :: groupsOf m (rest.dropWhile (deeper m)) := by
  rw [groupsOf, if_pos h]
  congr 1
  have := groups_skip (m := m) (pre := rest.takeWhile (deeper m)) (suf := rest.dropWhile (deeper m)) takeWhile_deeper
  rw [List.takeWhile_append_dropWhile] at this
  exact this
theorem groups_mem {m : Nat} : ∀ {rows : List Row} {p : Row × List Row}, p ∈ groupsOf m rows → p.1 ∈ rows ∧ p.1.1.length = m ∧ p.2.length < rows.length ∧ (∀ x ∈ p.2, x ∈ rows) ∧ ∃ pre suf, rows = pre ++ p.1 :: (p.2 ++ suf) ∧ (∀ x ∈ p.2, m < x.1.length)
  | [], p, h => by simp [groupsOf] at h
  | r :: rest, p, h => by
    rw [groupsOf] at h
    have go : p ∈ groupsOf m rest → p.1 ∈ r :: rest ∧ p.1.1.length = m ∧ p.2.length < (r :: rest).length ∧ (∀ x ∈ p.2, x ∈ r :: rest) ∧ ∃ pre suf, r :: rest = pre ++ p.1 :: (p.2 ++ suf) ∧ (∀ x ∈ p.2, m < x.1.length) := fun h => by
      obtain ⟨a, b, c, d, pre, suf, e, f⟩ := groups_mem (m := m) (rows := rest) h
      exact ⟨.tail _ a, b, by simp; lia, fun x hx => .tail _ (d x hx), r :: pre, suf, by rw [e]; rfl, f⟩
    split at h
    · rename_i hm
      rcases List.mem_cons.mp h with rfl | h
      · refine ⟨.head _, hm, ?_, fun x hx => .tail _ ((List.takeWhile_prefix _).subset hx), [], rest.dropWhile (deeper m), ?_, takeWhile_deeper⟩
        · have := (List.takeWhile_prefix (p := deeper m) (l := rest)).length_le
          simp; lia
        · rw [List.takeWhile_append_dropWhile]; rfl
      · exact go h
    · exact go h

/-! a forest laid line by line -/
noncomputable def Chain (prev : List Nat) : List Row → Prop
  | [] => True
  | r :: rest => r.1 ≠ [] ∧ r.1.dropLast <+: prev ∧ Chain r.1 rest
theorem Chain.left {prev : List Nat} : ∀ {a b : List Row}, Chain prev (a ++ b) → Chain prev a
  | [], _, _ => trivial
  | r :: a, b, h => ⟨h.1, h.2.1, Chain.left h.2.2⟩
theorem Chain.after {prev : List Nat} : ∀ {a : List Row} {r : Row} {b : List Row}, Chain prev (a ++ r :: b) → Chain r.1 b
  | [], _, _, h => h.2.2
  | _ :: a, r, b, h => Chain.after (a := a) h.2.2
theorem base_prefix {base prev : List Nat} {r : Row} (hb : base <+: prev) (hd : r.1.dropLast <+: prev) (hl : base.length < r.1.length) : base <+: r.1.dropLast :=
  List.prefix_of_prefix_length_le hb hd (by simp; lia)
theorem Chain.base {base : List Nat} : ∀ {rows : List Row} {prev : List Nat}, Chain prev rows → base <+: prev → (∀ r ∈ rows, base.length < r.1.length) → ∀ r ∈ rows, base <+: r.1.dropLast
  | [], _, _, _, _, r, hr => by cases hr
  | x :: rest, prev, h, hb, hl, r, hr => by
    have hx := base_prefix hb h.2.1 (hl x (.head _))
    rcases List.mem_cons.mp hr with rfl | hr
    · exact hx
    · exact Chain.base h.2.2 (hx.trans (List.dropLast_prefix _)) (fun y hy => hl y (.tail _ hy)) r hr
theorem Chain.suffix {base : List Nat} : ∀ {a : List Row} {prev : List Nat} {s : Row} {b : List Row}, Chain prev (a ++ s :: b) → base <+: prev → (∀ r ∈ a ++ s :: b, base.length < r.1.length) → s.1.length = base.length + 1 → Chain base (s :: b)
  | [], prev, s, b, h, hb, hl, hs => by
    refine ⟨h.1, ?_, h.2.2⟩
    have hx := base_prefix hb h.2.1 (hl s (.head _))
    have : base = s.1.dropLast := List.IsPrefix.eq_of_length hx (by simp; lia)
    rw [← this]
    exact List.prefix_refl _
  | x :: a, prev, s, b, h, hb, hl, hs => by
    have hx := base_prefix hb h.2.1 (hl x (.head _))
    exact Chain.suffix (a := a) h.2.2 (hx.trans (List.dropLast_prefix _)) (fun y hy => hl y (.tail _ hy)) hs

noncomputable def pathT (ks : List Nat) : List Nat := (ks.map fun k => 47 :: word k).flatten
noncomputable def expP (above base : List Nat) (rows : List Row) : List (List Nat) := rows.map fun r => above ++ pathT (r.1.drop base.length)

theorem first_is {base : List Nat} {r : Row} (h : r.1 ≠ []) (hd : r.1.dropLast <+: base) (hl : base.length < r.1.length) : r.1 = base ++ [r.1.getLastD 0] ∧ r.1.length = base.length + 1 := by
  have h1 := hd.length_le
  have hp := List.length_pos_iff.mpr h
  have hlen : r.1.length = base.length + 1 := by simp at h1; lia
  have e : r.1.dropLast = base := List.IsPrefix.eq_of_length hd (by simp; lia)
  refine ⟨?_, hlen⟩
  have := List.dropLast_concat_getLast h
  rw [e] at this
  rw [List.getLastD_eq_getLast?, List.getLast?_eq_some_getLast h]
  exact this.symm

theorem exp_groups : ∀ (n : Nat) (rows : List Row) (above base : List Nat), rows.length ≤ n → Chain base rows → (∀ r ∈ rows, base.length < r.1.length) →
    ((groupsOf (base.length + 1) rows).map fun p => (above ++ [47] ++ word (p.1.1.getLastD 0)) :: expP (above ++ [47] ++ word (p.1.1.getLastD 0)) p.1.1 p.2).flatten = expP above base rows
  | 0, rows, above, base, h, _, _ => by
    have : rows = [] := List.length_eq_zero_iff.mp (by lia)
    subst this; rfl
  | n + 1, [], above, base, _, _, _ => rfl
  | n + 1, r :: rest, above, base, h, hc, hl => by
    obtain ⟨e1, e2⟩ := first_is hc.1 hc.2.1 (hl r (.head _))
    rw [groups_cons e2, List.map_cons, List.flatten_cons]
    have hsplit := List.takeWhile_append_dropWhile (p := deeper (base.length + 1)) (l := rest)
    generalize hin : rest.takeWhile (deeper (base.length + 1)) = inner at *
    generalize hsu : rest.dropWhile (deeper (base.length + 1)) = suf at *
    have hcr : Chain r.1 (inner ++ suf) := hsplit ▸ hc.2.2
    have hdeep : ∀ x ∈ inner, base.length + 1 < x.1.length := by rw [← hin]; exact takeWhile_deeper
    have hbr : base <+: r.1 := by rw [e1]; exact List.prefix_append _ _
    have hlr : ∀ x ∈ inner ++ suf, base.length < x.1.length := fun x hx => hl x (.tail _ (hsplit ▸ hx))
    have hsuf : Chain base suf ∧ (∀ x ∈ suf, base.length < x.1.length) ∧ suf.length ≤ n := by
      refine ⟨?_, fun x hx => hlr x (List.mem_append_right _ hx), ?_⟩
      · cases suf with
        | nil => trivial
        | cons s0 b =>
          have hs0 : ¬ base.length + 1 < s0.1.length := by
            have := List.head?_dropWhile_not (deeper (base.length + 1)) rest
            rw [hsu] at this
            simpa [deeper] using this
          have := hlr s0 (by simp)
          exact Chain.suffix (a := inner) hcr hbr hlr (by lia)
      · have := congrArg List.length hsplit
        simp at this h; lia
    have ih := exp_groups n suf above base hsuf.2.2 hsuf.1 hsuf.2.1
    rw [ih]
    have hexp : expP above base (r :: rest) = (above ++ pathT (r.1.drop base.length)) :: (expP above base inner ++ expP above base suf) := by
      rw [← hsplit]; simp [expP]
    rw [hexp]
    have hr1 : pathT (r.1.drop base.length) = 47 :: word (r.1.getLastD 0) := by
      rw [e1, List.drop_left]; simp [pathT]
    rw [hr1]
    have hin2 : expP (above ++ [47] ++ word (r.1.getLastD 0)) r.1 inner = expP above base inner := by
      unfold expP
      apply List.map_congr_left
      intro x hx
      have hpre := Chain.base (base := r.1) hcr.left (List.prefix_refl _) (fun y hy => by have := hdeep y hy; lia) x hx
      obtain ⟨t, ht⟩ := hpre.trans (List.dropLast_prefix _)
      rw [← ht, List.drop_left]
      have : (r.1 ++ t).drop base.length = r.1.getLastD 0 :: t := by
        have e3 : r.1 ++ t = base ++ (r.1.getLastD 0 :: t) := by
          conv => lhs; rw [e1]
          simp
        rw [e3, List.drop_left]
      rw [this]
      simp [pathT]
    rw [hin2]
    simp
end Mine
namespace Mine
theorem groups_sub (m : Nat) : ∀ rows : List Row, ((groupsOf m rows).map (·.1)).Sublist rows
  | [] => .slnil
  | r :: rest => by
    rw [groupsOf]
    split
    · exact .cons_cons _ (groups_sub m rest)
    · exact .cons _ (groups_sub m rest)
theorem word_inj {a b : Nat} (h : word a = word b) : a = b := by
  have := congrArg List.length h
  simpa [word] using this
theorem nodup_words {l : List Nat} (h : l.Nodup) : (l.map word).Nodup := by
  unfold List.Nodup at *
  rw [List.pairwise_map]
  exact h.imp fun hab q => hab (word_inj q)

theorem paths_ok {G : Glo} (hG : GloOk G) (hK : G.K = heapK G.w.params) : ∀ (n : Nat) (rows : List Row) (above base : List Nat), rows.length ≤ n → RowsOk rows → (∀ r ∈ rows, WsL r.2.1) → (rows.map (fun r => r.1.getLastD 0)).Nodup → Chain base rows → (∀ r ∈ rows, base.length < r.1.length) → above.length + 1001 * rows.length ≤ 50000 →
    FnOk G (n + 2) 185 [.str (textF n rows), .str above] (.list ((expP above base rows).map .str))
  | 0, rows, above, base, h, hok, hws, hnd, hch, hdp, hab => by
    have : rows = [] := List.length_eq_zero_iff.mp (by lia)
    subst this
    exact paths_step hG hK 1 (Nat.le_refl _) [] above [] [] rfl (by simp) rfl (by simp) (by simp) (by simp) .nil (by lia) (by simp) (by simp) (fun p hp => by cases hp)
  | n + 1, rows, above, base, h, hok, hws, hnd, hch, hdp, hab => by
    have htext : textF (n + 1) rows = joinL [44] (itemsOf (textF n) (base.length + 1) rows) := by
      rw [textF]
      cases rows with
      | nil => rfl
      | cons r rest =>
        have : headLen (r :: rest) = base.length + 1 := (first_is hch.1 hch.2.1 (hdp r (.head _))).2
        rw [this]
    have hlen := textF_len (n + 1) rows
    have hpow := hok.pow
    have hl10 := hok.1
    have hgl : (groupsOf (base.length + 1) rows).length ≤ rows.length := by
      have := (groups_sub (base.length + 1) rows).length_le
      simpa using this
    have hhttp : httpL (textF (n + 1) rows) = ((groupsOf (base.length + 1) rows).map fun p => (word (p.1.1.getLastD 0), textF n p.2)).map keqvElt := by
      rw [htext, itemsOf_groups, http_join]
      · rw [List.map_map, List.map_map]; rfl
      · intro x hx
        obtain ⟨p, hp, rfl⟩ := List.mem_map.mp hx
        exact hws _ (groups_mem hp).1
    have hres := exp_groups rows.length rows above base (Nat.le_refl _) hch hdp
    have hpaths : pathsOf above ((groupsOf (base.length + 1) rows).map fun p => ((word (p.1.1.getLastD 0), textF n p.2), expP (above ++ [47] ++ word (p.1.1.getLastD 0)) p.1.1 p.2)) = expP above base rows := by
      rw [← hres]; unfold pathsOf; rw [List.map_map]; rfl
    rw [← hpaths]
    refine paths_step hG hK (n + 2) (by lia) _ above _ ((groupsOf (base.length + 1) rows).map fun p => (word (p.1.1.getLastD 0), textF n p.2)) (by rw [List.map_map]; rfl) (by lia) hhttp ?_ ?_ ?_ ?_ (by lia) ?_ ?_ ?_
    · simp; lia
    · intro kv hkv
      obtain ⟨p, hp, rfl⟩ := List.mem_map.mp hkv
      intro q
      have := (List.mem_replicate.mp q).2; cases this
    · intro kv hkv
      obtain ⟨p, hp, rfl⟩ := List.mem_map.mp hkv
      obtain ⟨a, b, c, d, _⟩ := groups_mem hp
      have h1 := textF_len n p.2
      have h2 := (hok.sub (by lia) d).pow
      have h3 := (hok.2 _ a).2
      unfold rsz at h3
      simp only [keqvElt, word, List.length_append, List.length_cons, List.length_replicate, List.length_nil]; lia
    · have : ((groupsOf (base.length + 1) rows).map fun p => (word (p.1.1.getLastD 0), textF n p.2)).map (·.1) = (((groupsOf (base.length + 1) rows).map (·.1)).map fun r => r.1.getLastD 0).map word := by simp
      rw [this]
      exact nodup_words (hnd.sublist ((groups_sub (base.length + 1) rows).map _))
    · intro kv hkv
      obtain ⟨p, hp, rfl⟩ := List.mem_map.mp hkv
      have h3 := (hok.2 _ (groups_mem hp).1).2
      unfold rsz at h3
      simp only [word, List.length_replicate]; lia
    · intro q hq
      obtain ⟨p, hp, rfl⟩ := List.mem_map.mp hq
      obtain ⟨a, b, c, d, _⟩ := groups_mem hp
      simp [expP]; lia
    · intro q hq
      obtain ⟨p, hp, rfl⟩ := List.mem_map.mp hq
      obtain ⟨a, b, c, d, pre, suf, e, hd2⟩ := groups_mem hp
      have h3 := (hok.2 _ a).2
      unfold rsz at h3
      refine paths_ok hG hK n p.2 (above ++ [47] ++ word (p.1.1.getLastD 0)) p.1.1 (by lia) (hok.sub (by lia) d) (fun r hr => hws r (d r hr)) ?_ ?_ (fun r hr => by have := hd2 r hr; lia) ?_
      · refine hnd.sublist (List.Sublist.map _ ?_)
        rw [e]
        exact ((List.sublist_append_left p.2 suf).trans (List.sublist_cons_self _ _)).trans (List.sublist_append_right _ _)
      · rw [e] at hch
        exact (Chain.after hch).left
      · simp only [word, List.length_append, List.length_cons, List.length_nil, List.length_replicate]; lia
end Mine
namespace Mine
structure W4 where
  cnt : List Nat
  b : Nat
  n : Nat
  nt : Nat
noncomputable def grown (cnt : List Nat) (b : Nat) : List Nat := if cnt.length ≤ b then cnt ++ List.replicate (b - cnt.length + 1) 0 else cnt
noncomputable def bump (cnt : List Nat) (b : Nat) : List Nat := (grown cnt b).set b ((grown cnt b).getD b 0 + 1)
noncomputable def scan : W4 → List Nat → W4
  | x, [] => x
  | x, c :: r => if c = 32 then scan ⟨x.cnt, x.b + 1, x.n + 1, x.nt⟩ r else if c = 9 then scan ⟨bump x.cnt x.b, 0, x.n + 1, x.nt + 1⟩ r else x
noncomputable def wsOf (l : List Nat) : W4 := scan ⟨[], 0, 0, 0⟩ l
noncomputable abbrev wsD (l : List Nat) : D := .inst 145 ["raw", "n", "nt", "norm", "is_simple"] [.str l, nI (wsOf l).n, nI (wsOf l).nt, .tup [.tup ((wsOf l).cnt.map nI), nI (wsOf l).b], .bool (decide ((wsOf l).cnt.length ≤ 1))]
theorem grown_len (cnt : List Nat) (b : Nat) : (grown cnt b).length = max cnt.length (b + 1) := by
  unfold grown; split
  · simp; lia
  · lia
theorem bump_len (cnt : List Nat) (b : Nat) : (bump cnt b).length = max cnt.length (b + 1) := by
  unfold bump; rw [List.length_set, grown_len]

theorem OkAll.tail {x : Str} {e : Ent} {r : Rho} (h : OkAll r) : ∀ p ∈ (x, e) :: r, p.1 ≠ x → match p.2 with | .oinst .. => False | .ownd _ => False | _ => True := by
  intro p hp hx
  rcases List.mem_cons.mp hp with rfl | hp
  · exact absurd rfl hx
  · have := h.own p hp
    revert this
    cases p.2 <;> intro this <;> first | trivial | exact this

theorem ws_init {G : Glo} (hG : GloOk G) (hK : G.K = heapK G.w.params) (l : List Nat) (hl : l.length ≤ 16000000) :
    InitOk G 1 100 145 [.str l] ["raw", "n", "nt", "norm", "is_simple"] [.str l, nI (wsOf l).n, nI (wsOf l).nt, .tup [.tup ((wsOf l).cnt.map nI), nI (wsOf l).b], .bool (decide ((wsOf l).cnt.length ≤ 1))] := by
  refine InitOk.def "self" ["ws"] ["S", "T", "count", "b", "n", "nt", "ch"] [("Whitespace", .ref 145), ("len", .builtin "len"), ("tuple", .type "tuple")]
    (ρ₀ := [("ws", .val (.str l)), ("S", .unset), ("T", .unset), ("count", .unset), ("b", .unset), ("n", .unset), ("nt", .unset), ("ch", .unset), ("Whitespace", .glob (.ref 145)), ("len", .glob (.builtin "len")), ("tuple", .glob (.type "tuple"))]) hG (by rw [hK]; rfl) rfl (by rw [hK]; kernel_rfl) rfl rfl rfl rfl rfl rfl ?_ ?_ rfl rfl rfl rfl (by decide +kernel) (by decide +kernel) (by decide +kernel) (by decide +kernel) ?_
  · rw [hK]; exact ⟨.inl (by kernel_rfl), .inr ⟨by kernel_rfl, by kernel_rfl, by decide⟩, .inr ⟨by kernel_rfl, by kernel_rfl, by decide⟩, trivial⟩
  · intro vs hv
    match vs, hv with
    | [a, b], _ => rfl
  · intro C a hCG hr hw henv
    have hs := sizeLine_is
    obtain ⟨L, hL⟩ := henv
    have hK' : C.G.K = heapK C.G.w.params := by rw [hCG]; exact hK
    have hover : plainOver C.G.K 145 = true := by rw [hK']; kernel_rfl
    have hdict : hasDictIn C.G.K 145 = true := by rw [hK']; kernel_rfl
    have hset : findIn C.G.K (.ref 145) "__setattr__" = some (some (.builtin "object.__setattr__")) := by rw [hK']; kernel_rfl
    refine Exs.seq (Ex.setAttr (Ev.name (by walk_at "mem")) (by walk_at "mem") (by walk_at "put") rfl rfl (by decide) (OkAll.tail (by walk_at "okall")) hover (by rw [hK']; kernel_rfl) hdict hset ?_)
    refine Exs.seq (Ex.swap2 (Ev.tuple (.cons (Ev.clsStr (l := [32]) (t := 295) (mc := .type "type") (by walk_at "mem") (by rw [hK']; kernel_rfl) (by rw [hK']; kernel_rfl) (by rw [hs]; decide)) (.cons (Ev.clsStr (l := [9]) (t := 296) (mc := .type "type") (by walk_at "mem") (by rw [hK']; kernel_rfl) (by rw [hK']; kernel_rfl) (by rw [hs]; decide)) .nil)) (by rw [hs]; decide)) (by walk_at "put") (by walk_at "put") hw ?_ (by rw [hL]; rfl) (by rw [hL]; rfl))
    refine Exs.seq (Ex.assignO (xs := []) (EvO.list .nil ?_) (by walk_at "put") hw ?_)
    · rw [hs]; decide
    refine Exs.seq (Ex.assign3 .int (by walk_at "put") (by walk_at "put") (by walk_at "put") hw ?_)
    refine Exs.cons (R' := fun o q => o = .next ∧ ∃ (e1 : Ent), (e1.isGlob = false ∧ e1.ok = true) ∧ (wsOf l).cnt.length ≤ l.length ∧ q = ([("self", .oinst a 145 ["raw"] [.str l]), ("ws", .val (.str l)), ("S", .val (.str [32])), ("T", .val (.str [9])), ("count", .own ((wsOf l).cnt.map nI)), ("b", .val (nI (wsOf l).b)), ("n", .val (nI (wsOf l).n)), ("nt", .val (nI (wsOf l).nt)), ("ch", e1), ("Whitespace", .glob (.ref 145)), ("len", .glob (.builtin "len")), ("tuple", .glob (.type "tuple"))] : Rho))
      (Ex.for_ (EvI.str (l := l) (Ev.peekI (x := "self") (OkAll.tail (by walk_at "okall")) (by walk_at "mem") (by walk_at "put") (Ev.attr (attr := none) (Ev.name (by walk_at "mem")) rfl (by rw [hK']; kernel_rfl) hdict (by rw [hK']; kernel_rfl) (by rw [hK']; kernel_rfl)) rfl)) (ForL.of (I := fun i q => ∃ (e1 : Ent) (x : W4), (e1.isGlob = false ∧ e1.ok = true) ∧ scan x (l.drop i) = wsOf l ∧ x.b ≤ i ∧ x.cnt.length ≤ i ∧ q = ([("self", .oinst a 145 ["raw"] [.str l]), ("ws", .val (.str l)), ("S", .val (.str [32])), ("T", .val (.str [9])), ("count", .own (x.cnt.map nI)), ("b", .val (nI x.b)), ("n", .val (nI x.n)), ("nt", .val (nI x.nt)), ("ch", e1), ("Whitespace", .glob (.ref 145)), ("len", .glob (.builtin "len")), ("tuple", .glob (.type "tuple"))] : Rho)) ?_ ?_ ?_)) (fun ρ' h => ?_) (fun _ h => by cases h.1) (fun _ h => by cases h.1) (fun _ _ h => by cases h.1)
    · rintro i d ρ hd ⟨e1, x, ⟨g1, k1⟩, hx, b1, b2, rfl⟩
      have hi : i < l.length := by simpa using (List.getElem?_eq_some_iff.mp hd).1
      have hdx : d = .str [l[i]] := by rw [List.getElem?_map, List.getElem?_eq_getElem hi] at hd; exact (Option.some.inj hd).symm
      subst hdx
      rw [List.drop_eq_getElem_cons hi] at hx
      generalize l[i] = c at *
      obtain ⟨cnt, b, n, nt⟩ := x
      simp only at b1 b2
      refine As.name (by walk_at "put") (.inl hw) ?_
      refine Exs.last (Ex.if_ (Tr.compare (Ev.name (by walk_at "mem")) (Ev.name (by walk_at "mem")) Op2.eqStr rfl) (fun hc => ?_) fun hc => Exs.last (Ex.if_ (Tr.compare (Ev.name (by walk_at "mem")) (Ev.name (by walk_at "mem")) Op2.eqStr rfl) (fun hc2 => ?_) fun hc2 => Exs.last (Ex.brk ?_)))
      · have hc' : c = 32 := by simpa using hc
        rw [scan, if_pos hc'] at hx
        exact Exs.seq (Ex.assign (d := nI (n + 1)) (.binop (Ev.name (by walk_at "mem")) .int Op2.addInt) (by walk_at "put") hw (Exs.last (Ex.assign (d := nI (b + 1)) (.binop (Ev.name (by walk_at "mem")) .int Op2.addInt) (by walk_at "put") hw ⟨.val _, ⟨cnt, b + 1, n + 1, nt⟩, ⟨rfl, rfl⟩, hx, by show b + 1 ≤ i + 1; lia, by show cnt.length ≤ i + 1; lia, rfl⟩)))
      · have hc' : ¬ c = 32 := by simpa using hc
        have hc2' : c = 9 := by simpa using hc2
        rw [scan, if_neg hc', if_pos hc2'] at hx
        refine Exs.seq (Ex.assign (d := nI (n + 1)) (.binop (Ev.name (by walk_at "mem")) .int Op2.addInt) (by walk_at "put") hw ?_)
        refine Exs.seq (Ex.assign (d := nI (nt + 1)) (.binop (Ev.name (by walk_at "mem")) .int Op2.addInt) (by walk_at "put") hw ?_)
        refine Exs.cons (R' := fun o q => o = .next ∧ q = ([("self", .oinst a 145 ["raw"] [.str l]), ("ws", .val (.str l)), ("S", .val (.str [32])), ("T", .val (.str [9])), ("count", .own ((grown cnt b).map nI)), ("b", .val (nI b)), ("n", .val (nI (n + 1))), ("nt", .val (nI (nt + 1))), ("ch", .val (.str [c])), ("Whitespace", .glob (.ref 145)), ("len", .glob (.builtin "len")), ("tuple", .glob (.type "tuple"))] : Rho))
          (Ex.if_ (Tr.peek (x := "count") (by walk_at "mem") (by walk_at "put") (Tr.compare (Ev.name (by walk_at "mem")) (Ev.len_list (by walk_at "mem") (Ev.name (by walk_at "mem"))) Op2.geInt rfl)) (fun hc => ?_) fun hc => .nil ?_) (fun ρ' h => ?_) (fun _ h => by cases h.1) (fun _ h => by cases h.1) (fun _ _ h => by cases h.1)
        · have hc3 : cnt.length ≤ b := by simp at hc; lia
          have e : ((b : Int) - (cnt.map nI).length + 1).toNat = b - cnt.length + 1 := by rw [List.length_map]; lia
          refine ExT.freeze (x := "count") (by walk_at "mem") (by walk_at "put") (Exs.last (Ex.assignO (EvO.cast (EvO.add (Ev.name (by walk_at "mem")) (.binop (EvO.list (.cons .int .nil) ?_).ev (.binop (.binop (Ev.name (by walk_at "mem")) (Ev.len_list (by walk_at "mem") (Ev.name (by walk_at "mem"))) Op2.subInt) .int Op2.addInt) (Op2.mulList1 ?_ ?_)) ?_) ?_) (by walk_at "put") hw ⟨rfl, rfl⟩))
          · rw [hs]; decide
          · simp only [List.length_map]; lia
          · simp only [List.length_map]; lia
          · rw [e]; simp; lia
          · rw [e]; unfold grown; rw [if_pos hc3]; simp
        · have hc3 : ¬ cnt.length ≤ b := by simp at hc; lia
          refine ⟨rfl, ?_⟩
          unfold grown; rw [if_neg hc3]
        · obtain ⟨_, rfl⟩ := h
          have hgl := grown_len cnt b
          have hbl : b < (grown cnt b).length := by lia
          refine Exs.seq (Ex.setO (j := b) (Ev.peek (x := "count") (by walk_at "mem") (by walk_at "put") (d := nI ((grown cnt b).getD b 0 + 1)) (.binop (Ev.item_list (Ev.name (by walk_at "mem")) (Ev.name (by walk_at "mem")) b (.nat (by simpa using hbl)) (get_nI hbl)) .int Op2.addInt) rfl) (Ev.name (by walk_at "mem")) (by walk_at "mem") (by simpa using hbl) (by walk_at "put") ?_)
          refine Exs.last (Ex.assign (d := nI 0) .int (by walk_at "put") hw ⟨.val (.str [c]), ⟨bump cnt b, 0, n + 1, nt + 1⟩, ⟨rfl, rfl⟩, hx, Nat.zero_le _, ?_, ?_⟩)
          · have := bump_len cnt b
            show (bump cnt b).length ≤ i + 1; lia
          · simp only [bump, List.map_set]
      · have hc' : ¬ c = 32 := by simpa using hc
        have hc2' : ¬ c = 9 := by simpa using hc2
        rw [scan, if_neg hc', if_neg hc2'] at hx
        rw [← hx]
        exact ⟨rfl, .val _, ⟨rfl, rfl⟩, by show cnt.length ≤ l.length; lia, rfl⟩
    · rintro ρ ⟨e1, x, hg, hx, b1, b2, rfl⟩
      rw [List.length_map] at b1 b2
      rw [List.length_map, List.drop_length, scan] at hx
      subst hx
      exact ⟨rfl, e1, hg, b2, rfl⟩
    · exact ⟨.unset, ⟨[], 0, 0, 0⟩, ⟨rfl, rfl⟩, rfl, Nat.le_refl _, Nat.le_refl _, rfl⟩
    · obtain ⟨_, e1, ⟨g1, k1⟩, hcl, rfl⟩ := h
      refine Exs.seq (Ex.setAttr (Ev.name (by walk_at "mem")) (by walk_at "mem") (by walk_at "put") rfl rfl (by decide) (OkAll.tail (by walk_at "okall")) hover (by rw [hK']; kernel_rfl) hdict hset ?_)
      refine Exs.seq (Ex.setAttr (Ev.name (by walk_at "mem")) (by walk_at "mem") (by walk_at "put") rfl rfl (by decide) (OkAll.tail (by walk_at "okall")) hover (by rw [hK']; kernel_rfl) hdict hset ?_)
      refine ExT.freeze (x := "count") (by walk_at "mem") (by walk_at "put") (Exs.seq (Ex.setAttr (Ev.tuple (.cons (Ev.tuple_of (by walk_at "mem") (Ev.name (by walk_at "mem"))) (.cons (Ev.name (by walk_at "mem")) .nil)) (by rw [hs]; simp)) (by walk_at "mem") (by walk_at "put") rfl rfl (by decide) (OkAll.tail (by walk_at "okall")) hover (by rw [hK']; kernel_rfl) hdict hset ?_))
      refine Exs.last (Ex.setAttr (Ev.compare (Ev.len_list (by walk_at "mem") (Ev.name (by walk_at "mem"))) .int Op2.leInt rfl) (by walk_at "mem") (by walk_at "put") rfl rfl (by decide) (OkAll.tail (by walk_at "okall")) hover (by rw [hK']; kernel_rfl) hdict hset ⟨rfl, ?_⟩)
      have e : (decide (((List.map nI (wsOf l).cnt).length : Int) ≤ 1)) = decide ((wsOf l).cnt.length ≤ 1) := by rw [List.length_map]; apply decide_eq_decide.mpr; lia
      rw [e]
      exact .head _
end Mine
namespace Mine
section
variable {C : Cx} {ρ ρ' : Rho} {R : Out → Rho → Prop}
theorem Tr.attr {x name : Str} {xp p : Pos} {b : Bool} (h : Ev C ρ (.Attribute (.Name x xp) name p) (.bool b)) : Tr C ρ (.Attribute (.Name x xp) name p) b := by
  refine ⟨fun s Z Q E S k => ?_⟩
  refine wpAny_isTrue_value (h.use S fun v1 s1 Z1 g1 S1 r1 => ?_)
  rw [Rep] at r1; subst r1
  exact wpAny_truthy_bool (k s1 Z1 g1)
end

theorem bits_small {a : Int} (h : a.natAbs < 2 ^ 64) : Builtin.Int.intBits a ≤ 64 := by
  unfold Builtin.Int.intBits
  split
  · lia
  · rename_i q
    have q' : a.natAbs ≠ 0 := by simpa using q
    have := (Nat.log2_lt q').mpr h
    lia
theorem mul_small {a b : Int} (h : a.natAbs < 2 ^ 64) : IntMulOk a b := .of_left (bits_small h)

theorem eqv_ints : ∀ l l' : List Nat, PyData.eqvAll (toPs (l.map nI)) (toPs (l'.map nI)) = decide (l = l')
  | [], [] => rfl
  | [], _ :: _ => by simp [toPs, PyData.eqvAll]
  | _ :: _, [] => by simp [toPs, PyData.eqvAll]
  | a :: l, b :: l' => by
    rw [List.map_cons, List.map_cons, toPs, toPs, PyData.eqvAll, eqv_ints l l', toP, toP, PyData.eqv]
    rw [Bool.eq_iff_iff]; simp; lia

structure Small (x : W4) : Prop where
  len : x.cnt.length ≤ 1000
  cnt : ∀ c ∈ x.cnt, c ≤ 1000
  b : x.b ≤ 1000
  nt : x.nt ≤ 1000
  n : x.n ≤ 1000
theorem Small.get {x : W4} (h : Small x) (i : Nat) : x.cnt.getD i 0 ≤ 1000 := by
  rw [List.getD_eq_getElem?_getD]
  cases q : x.cnt[i]? with
  | none => simp
  | some v => exact h.cnt _ (List.mem_of_getElem? q)

noncomputable def longestL (x : W4) : Nat := max (x.cnt.length - 1) x.b
noncomputable def ilF (ts : Nat) (cnt : List Nat) (j : Nat) : Nat := ((List.range j).map fun i => (ts + i) / ts * cnt.getD (ts + i) 0).sum
noncomputable def indentL (ts : Nat) (x : W4) : Nat := x.b + ts * (ilF ts x.cnt (x.cnt.length - ts) + x.nt)
noncomputable def eqL (x y : W4) : Bool := decide (x.cnt = y.cnt ∧ x.b = y.b)
noncomputable def lessL (x y : W4) : Bool :=
  if y.n ≤ x.n then false else if x.cnt.length ≤ 1 ∧ y.cnt.length ≤ 1 then decide (x.nt ≤ y.nt)
  else (List.range (max (longestL x) (longestL y))).all fun j => decide (indentL (2 + j) x < indentL (2 + j) y)

theorem ilF_le {ts : Nat} {x : W4} (h : Small x) (hts : 1 ≤ ts) : ∀ j, ts + j ≤ 100000 → ilF ts x.cnt j ≤ j * 100000000
  | 0, _ => by simp [ilF]
  | j + 1, hj => by
    have ih := ilF_le h hts j (by lia)
    have h1 := h.get (ts + j)
    have h2 : (ts + j) / ts ≤ 100000 := Nat.le_trans (Nat.div_le_self _ _) (by lia)
    have h3 : (ts + j) / ts * x.cnt.getD (ts + j) 0 ≤ 100000 * 1000 := Nat.mul_le_mul h2 h1
    unfold ilF at ih ⊢
    rw [List.range_succ, List.map_append, List.sum_append]
    simp only [List.map_cons, List.map_nil, List.sum_cons, List.sum_nil]
    rw [Nat.add_mul]; lia
theorem ilF_succ (ts : Nat) (cnt : List Nat) (j : Nat) : ilF ts cnt (j + 1) = ilF ts cnt j + (ts + j) / ts * cnt.getD (ts + j) 0 := by
  unfold ilF
  rw [List.range_succ, List.map_append, List.sum_append]; simp

theorem longest_ok {G : Glo} (hG : GloOk G) (hK : G.K = heapK G.w.params) (l : List Nat) : FnOk G 1 107 [wsD l] (.int (longestL (wsOf l) : Nat)) := by
  refine FnOk.def ["self"] ["count", "trailing"] [("max", .builtin "max"), ("len", .builtin "len")]
    (ρ₀ := [("self", .val (wsD l)), ("count", .unset), ("trailing", .unset), ("max", .glob (.builtin "max")), ("len", .glob (.builtin "len"))]) hG (by rw [hK]; rfl) rfl (by rw [hK]; kernel_rfl) rfl rfl rfl rfl rfl rfl ?_ ?_ rfl rfl rfl rfl (by decide +kernel) (by decide +kernel) (by decide +kernel) ?_
  · rw [hK]; exact ⟨.inr ⟨by kernel_rfl, by kernel_rfl, by decide⟩, .inr ⟨by kernel_rfl, by kernel_rfl, by decide⟩, trivial⟩
  · intro vs hv
    match vs, hv with
    | [a], _ => rfl
  · intro C hCG hr hw henv
    obtain ⟨L, hL⟩ := henv
    have hK' : C.G.K = heapK C.G.w.params := by rw [hCG]; exact hK
    have hdict : hasDictIn C.G.K 145 = true := by rw [hK']; kernel_rfl
    refine Exs.seq (Ex.unpack (ds := [.tup ((wsOf l).cnt.map nI), nI (wsOf l).b]) (Ev.attr (attr := none) (Ev.name (by walk_at "mem")) rfl (by rw [hK']; kernel_rfl) hdict (by rw [hK']; kernel_rfl) (by rw [hK']; kernel_rfl)) (As.name (by walk_at "put") (.inl hw) (As.name (by walk_at "put") (.inl hw) ?_)) rfl rfl)
    refine Exs.last (Ex.ret (Ev.cast (Ev.max2 (by walk_at "mem") (.binop (Ev.len_tup (by walk_at "mem") (Ev.name (by walk_at "mem"))) .int Op2.subInt) (Ev.name (by walk_at "mem"))) ?_) rfl)
    congr 1
    unfold longestL
    rw [List.length_map]
    lia

theorem indent_ok {G : Glo} (hG : GloOk G) (hK : G.K = heapK G.w.params) (l : List Nat) (ts : Nat) (hsm : Small (wsOf l)) (h1 : 1 ≤ ts) (h2 : ts ≤ 10000) : FnOk G 1 114 [wsD l, .int ts] (.int (indentL ts (wsOf l) : Nat)) := by
  refine FnOk.def ["self", "tabsize"] ["count", "trailing", "il", "i"] [("range", .type "range"), ("len", .builtin "len")]
    (ρ₀ := [("self", .val (wsD l)), ("tabsize", .val (.int ts)), ("count", .unset), ("trailing", .unset), ("il", .unset), ("i", .unset), ("range", .glob (.type "range")), ("len", .glob (.builtin "len"))]) hG (by rw [hK]; rfl) rfl (by rw [hK]; kernel_rfl) rfl rfl rfl rfl rfl rfl ?_ ?_ rfl rfl rfl rfl (by decide +kernel) (by decide +kernel) (by decide +kernel) ?_
  · rw [hK]; exact ⟨.inr ⟨by kernel_rfl, by kernel_rfl, by decide⟩, .inr ⟨by kernel_rfl, by kernel_rfl, by decide⟩, trivial⟩
  · intro vs hv
    match vs, hv with
    | [a, b], _ => rfl
  · intro C hCG hr hw henv
    obtain ⟨L, hL⟩ := henv
    have hK' : C.G.K = heapK C.G.w.params := by rw [hCG]; exact hK
    have hdict : hasDictIn C.G.K 145 = true := by rw [hK']; kernel_rfl
    have hlen := hsm.len
    refine Exs.seq (Ex.unpack (ds := [.tup ((wsOf l).cnt.map nI), nI (wsOf l).b]) (Ev.attr (attr := none) (Ev.name (by walk_at "mem")) rfl (by rw [hK']; kernel_rfl) hdict (by rw [hK']; kernel_rfl) (by rw [hK']; kernel_rfl)) (As.name (by walk_at "put") (.inl hw) (As.name (by walk_at "put") (.inl hw) ?_)) rfl rfl)
    refine Exs.seq (Ex.assign (d := nI 0) .int (by walk_at "put") hw ?_)
    refine Exs.cons (R' := fun o q => o = .next ∧ ∃ (e1 : Ent), q = ([("self", .val (wsD l)), ("tabsize", .val (.int ts)), ("count", .val (.tup ((wsOf l).cnt.map nI))), ("trailing", .val (nI (wsOf l).b)), ("il", .val (nI (ilF ts (wsOf l).cnt ((wsOf l).cnt.length - ts)))), ("i", e1), ("range", .glob (.type "range")), ("len", .glob (.builtin "len"))] : Rho))
      (Ex.for_ (EvI.range2 (by walk_at "mem") (Ev.name (by walk_at "mem")) (Ev.len_tup (by walk_at "mem") (Ev.name (by walk_at "mem"))) (by lia) (by rw [List.length_map]; lia)) (ForL.of (I := fun j q => ∃ (e1 : Ent), e1.isGlob = false ∧ q = ([("self", .val (wsD l)), ("tabsize", .val (.int ts)), ("count", .val (.tup ((wsOf l).cnt.map nI))), ("trailing", .val (nI (wsOf l).b)), ("il", .val (nI (ilF ts (wsOf l).cnt j))), ("i", e1), ("range", .glob (.type "range")), ("len", .glob (.builtin "len"))] : Rho)) ?_ ?_ ?_)) (fun ρ' h => ?_) (fun _ h => by cases h.1) (fun _ h => by cases h.1) (fun _ _ h => by cases h.1)
    · rintro j d ρ hd ⟨e1, g1, rfl⟩
      have hj : j < (((wsOf l).cnt.map nI).length - (ts : Int)).toNat := by simpa using (List.getElem?_eq_some_iff.mp hd).1
      have hdx : d = D.int ((ts : Int) + j) := by rw [List.getElem?_map, List.getElem?_range hj] at hd; exact (Option.some.inj hd).symm
      subst hdx
      rw [List.length_map] at hj
      have hjl : ts + j < (wsOf l).cnt.length := by lia
      have e : (ts : Int) + j = ((ts + j : Nat) : Int) := by lia
      rw [e]
      have hdv : ((ts + j : Nat) : Int).fdiv ts = (((ts + j) / ts : Nat) : Int) := fdiv_nat _ _
      have hdl : (ts + j) / ts ≤ ts + j := Nat.div_le_self _ _
      refine As.name (by walk_at "put") (.inl hw) (Exs.last (Ex.assign (d := nI (ilF ts (wsOf l).cnt (j + 1))) (Ev.cast (.binop (Ev.name (by walk_at "mem")) (.binop (.binop (Ev.name (by walk_at "mem")) (Ev.name (by walk_at "mem")) (Op2.divInt (by lia) ?_)) (Ev.item_tup (Ev.name (by walk_at "mem")) (Ev.name (by walk_at "mem")) (ts + j) (.nat (by simpa using hjl)) (get_nI hjl)) (Op2.mulInt ?_)) Op2.addInt) ?_) (by walk_at "put") hw ⟨.val _, rfl, rfl⟩))
      · exact PyProof.noPylong_small (by lia)
      · rw [hdv]; exact mul_small (by rw [Int.natAbs_natCast]; lia)
      · rw [hdv, ilF_succ]
        simp only [nI, Int.natCast_add, Int.natCast_mul]
    · rintro ρ ⟨e1, g1, rfl⟩
      rw [List.length_map, List.length_range, List.length_map, show (((wsOf l).cnt.length : Int) - (ts : Int)).toNat = (wsOf l).cnt.length - ts by lia]
      exact ⟨rfl, e1, rfl⟩
    · exact ⟨.unset, rfl, rfl⟩
    · obtain ⟨_, e1, rfl⟩ := h
      refine Exs.last (Ex.ret (Ev.cast (.binop (Ev.name (by walk_at "mem")) (.binop (Ev.name (by walk_at "mem")) (.binop (Ev.name (by walk_at "mem")) (Ev.attr (attr := none) (Ev.name (by walk_at "mem")) rfl (by rw [hK']; kernel_rfl) hdict (by rw [hK']; kernel_rfl) (by rw [hK']; kernel_rfl)) Op2.addInt) (Op2.mulInt (mul_small (by lia)))) Op2.addInt) ?_) rfl)
      unfold indentL
      simp only [Int.natCast_add, Int.natCast_mul]

theorem equal_ok {G : Glo} (hG : GloOk G) (hK : G.K = heapK G.w.params) (l l' : List Nat) : FnOk G 1 121 [wsD l, wsD l'] (.bool (eqL (wsOf l) (wsOf l'))) := by
  refine FnOk.def ["self", "other"] [] []
    (ρ₀ := [("self", .val (wsD l)), ("other", .val (wsD l'))]) hG (by rw [hK]; rfl) rfl (by rw [hK]; kernel_rfl) rfl rfl rfl rfl rfl rfl trivial ?_ rfl rfl rfl rfl (by decide +kernel) (by decide +kernel) (by decide +kernel) ?_
  · intro vs hv
    match vs, hv with
    | [a, b], _ => rfl
  · intro C hCG hr hw henv
    obtain ⟨L, hL⟩ := henv
    have hK' : C.G.K = heapK C.G.w.params := by rw [hCG]; exact hK
    have hdict : hasDictIn C.G.K 145 = true := by rw [hK']; kernel_rfl
    have hfl : ∀ x : W4, flat 2 (.tup [.tup (x.cnt.map nI), nI x.b]) = true := fun x => by
      have : flats 0 (x.cnt.map nI) = true := by rw [flats_all, List.all_eq_true]; intro d hd; obtain ⟨n, _, rfl⟩ := List.mem_map.mp hd; rfl
      simp [flat, flats, this]
    refine Exs.last (Ex.ret (Ev.cast (Ev.compare (Ev.attr (attr := none) (d := .tup [.tup ((wsOf l).cnt.map nI), nI (wsOf l).b]) (Ev.name (by walk_at "mem")) rfl (by rw [hK']; kernel_rfl) hdict (by rw [hK']; kernel_rfl) (by rw [hK']; kernel_rfl)) (Ev.attr (attr := none) (d := .tup [.tup ((wsOf l').cnt.map nI), nI (wsOf l').b]) (Ev.name (by walk_at "mem")) rfl (by rw [hK']; kernel_rfl) hdict (by rw [hK']; kernel_rfl) (by rw [hK']; kernel_rfl)) (Op2.eqD (n := 2) (m := 2) (hfl _) (hfl _)) rfl) ?_) rfl)
    congr 1
    unfold eqL
    simp only [toP, toPs, PyData.eqv, PyData.eqvAll, eqv_ints, Bool.and_true]
    rw [Bool.eq_iff_iff]; simp; lia
end Mine
namespace Mine
theorem less_ok {G : Glo} (hG : GloOk G) (hK : G.K = heapK G.w.params) (l l' : List Nat) (hs1 : Small (wsOf l)) (hs2 : Small (wsOf l')) : FnOk G 2 135 [wsD l, wsD l'] (.bool (lessL (wsOf l) (wsOf l'))) := by
  refine FnOk.def ["self", "other"] ["n", "ts"] [("max", .builtin "max"), ("range", .type "range")]
    (ρ₀ := [("self", .val (wsD l)), ("other", .val (wsD l')), ("n", .unset), ("ts", .unset), ("max", .glob (.builtin "max")), ("range", .glob (.type "range"))]) hG (by rw [hK]; rfl) rfl (by rw [hK]; kernel_rfl) rfl rfl rfl rfl rfl rfl ?_ ?_ rfl rfl rfl rfl (by decide +kernel) (by decide +kernel) (by decide +kernel) ?_
  · rw [hK]; exact ⟨.inr ⟨by kernel_rfl, by kernel_rfl, by decide⟩, .inr ⟨by kernel_rfl, by kernel_rfl, by decide⟩, trivial⟩
  · intro vs hv
    match vs, hv with
    | [a, b], _ => rfl
  · intro C hCG hr hw henv
    obtain ⟨L, hL⟩ := henv
    have hCG' : GloOk C.G := hCG ▸ hG
    have hK' : C.G.K = heapK C.G.w.params := by rw [hCG]; exact hK
    have hdict : hasDictIn C.G.K 145 = true := by rw [hK']; kernel_rfl
    have hl1 : longestL (wsOf l) ≤ 1000 := by unfold longestL; have := hs1.len; have := hs1.b; lia
    have hl2 : longestL (wsOf l') ≤ 1000 := by unfold longestL; have := hs2.len; have := hs2.b; lia
    refine Exs.seq (Ex.if_ (Tr.compare (Ev.attr (attr := none) (d := nI (wsOf l).n) (Ev.name (by walk_at "mem")) rfl (by rw [hK']; kernel_rfl) hdict (by rw [hK']; kernel_rfl) (by rw [hK']; kernel_rfl)) (Ev.attr (attr := none) (d := nI (wsOf l').n) (Ev.name (by walk_at "mem")) rfl (by rw [hK']; kernel_rfl) hdict (by rw [hK']; kernel_rfl) (by rw [hK']; kernel_rfl)) Op2.geInt rfl) (fun hc => Exs.last (Ex.ret (Ev.cast .bool ?_) rfl)) fun hc => .nil ?_)
    · have hc' : (wsOf l').n ≤ (wsOf l).n := by simp at hc; lia
      unfold lessL; rw [if_pos hc']
    · have hc' : ¬ (wsOf l').n ≤ (wsOf l).n := by simp at hc; lia
      refine Exs.seq (Ex.if_ (Tr.and (Tr.attr (Ev.attr (attr := none) (d := .bool (decide ((wsOf l).cnt.length ≤ 1))) (Ev.name (by walk_at "mem")) rfl (by rw [hK']; kernel_rfl) hdict (by rw [hK']; kernel_rfl) (by rw [hK']; kernel_rfl))) fun _ => Tr.attr (Ev.attr (attr := none) (d := .bool (decide ((wsOf l').cnt.length ≤ 1))) (Ev.name (by walk_at "mem")) rfl (by rw [hK']; kernel_rfl) hdict (by rw [hK']; kernel_rfl) (by rw [hK']; kernel_rfl))) (fun hc2 => Exs.last (Ex.ret (Ev.cast (Ev.compare (Ev.attr (attr := none) (d := nI (wsOf l).nt) (Ev.name (by walk_at "mem")) rfl (by rw [hK']; kernel_rfl) hdict (by rw [hK']; kernel_rfl) (by rw [hK']; kernel_rfl)) (Ev.attr (attr := none) (d := nI (wsOf l').nt) (Ev.name (by walk_at "mem")) rfl (by rw [hK']; kernel_rfl) hdict (by rw [hK']; kernel_rfl) (by rw [hK']; kernel_rfl)) Op2.leInt rfl) ?_) rfl)) fun hc2 => .nil ?_)
      · have hc2' : (wsOf l).cnt.length ≤ 1 ∧ (wsOf l').cnt.length ≤ 1 := by simpa using hc2
        unfold lessL; rw [if_neg hc', if_pos hc2']
        congr 1; apply decide_eq_decide.mpr; lia
      · have hc2' : ¬ ((wsOf l).cnt.length ≤ 1 ∧ (wsOf l').cnt.length ≤ 1) := by intro q; rw [decide_eq_true q.1, decide_eq_true q.2] at hc2; cases hc2
        have hres : lessL (wsOf l) (wsOf l') = (List.range (max (longestL (wsOf l)) (longestL (wsOf l')))).all fun j => decide (indentL (2 + j) (wsOf l) < indentL (2 + j) (wsOf l')) := by
          unfold lessL; rw [if_neg hc', if_neg hc2']
        generalize hM : max (longestL (wsOf l)) (longestL (wsOf l')) = M at *
        refine Exs.seq (Ex.assign (d := nI (M + 1)) (Ev.cast (.binop (Ev.max2 (by walk_at "mem") (Ev.meth (f := 107) (Ev.name (by walk_at "mem")) .nil (longest_ok hCG' hK' l) (by lia) rfl (by rw [hK']; kernel_rfl) (by rw [hK']; kernel_rfl) (by rw [hK']; kernel_rfl) rfl (by decide) rfl) (Ev.meth (f := 107) (Ev.name (by walk_at "mem")) .nil (longest_ok hCG' hK' l') (by lia) rfl (by rw [hK']; kernel_rfl) (by rw [hK']; kernel_rfl) (by rw [hK']; kernel_rfl) rfl (by decide) rfl)) .int Op2.addInt) ?_) (by walk_at "put") hw ?_)
        · show D.int _ = D.int _
          congr 1; lia
        refine Exs.cons (R' := fun o q => (o = .next ∧ lessL (wsOf l) (wsOf l') = true) ∨ (o = .ret (.bool false) ∧ lessL (wsOf l) (wsOf l') = false))
          (Ex.for_ (EvI.range2 (by walk_at "mem") .int (.binop (Ev.name (by walk_at "mem")) .int Op2.addInt) (by lia) (by lia)) (ForL.of (I := fun j q => ∃ (e1 : Ent), e1.isGlob = false ∧ (∀ i < j, indentL (2 + i) (wsOf l) < indentL (2 + i) (wsOf l')) ∧ q = ([("self", .val (wsD l)), ("other", .val (wsD l')), ("n", .val (nI (M + 1))), ("ts", e1), ("max", .glob (.builtin "max")), ("range", .glob (.type "range"))] : Rho)) ?_ ?_ ?_)) (fun ρ' h => ?_) (fun _ h => by rcases h with h | h <;> cases h.1) (fun _ h => by rcases h with h | h <;> cases h.1) (fun d _ h => ?_)
        · rintro j d ρ hd ⟨e1, g1, hall, rfl⟩
          have hj : j < ((((M + 1 : Nat) : Int) + 1) - 2).toNat := by simpa using (List.getElem?_eq_some_iff.mp hd).1
          have hdx : d = D.int ((2 : Int) + j) := by rw [List.getElem?_map, List.getElem?_range hj] at hd; exact (Option.some.inj hd).symm
          subst hdx
          have hjM : j < M := by lia
          rw [show (2 : Int) + j = ((2 + j : Nat) : Int) by lia]
          refine As.name (by walk_at "put") (.inl hw) (Exs.last (Ex.if_ (Tr.compare (Ev.meth (f := 114) (Ev.name (by walk_at "mem")) (.cons (Ev.name (by walk_at "mem")) .nil) (indent_ok hCG' hK' l (2 + j) hs1 (by lia) (by lia)) (by lia) rfl (by rw [hK']; kernel_rfl) (by rw [hK']; kernel_rfl) (by rw [hK']; kernel_rfl) rfl (by decide) rfl) (Ev.meth (f := 114) (Ev.name (by walk_at "mem")) (.cons (Ev.name (by walk_at "mem")) .nil) (indent_ok hCG' hK' l' (2 + j) hs2 (by lia) (by lia)) (by lia) rfl (by rw [hK']; kernel_rfl) (by rw [hK']; kernel_rfl) (by rw [hK']; kernel_rfl) rfl (by decide) rfl) Op2.geInt rfl) (fun hq => Exs.last (Ex.ret .bool (.inr ⟨rfl, ?_⟩))) fun hq => .nil ⟨.val _, rfl, ?_, rfl⟩))
          · have hq' : ¬ indentL (2 + j) (wsOf l) < indentL (2 + j) (wsOf l') := by simp at hq; lia
            rw [hres, List.all_eq_false]
            exact ⟨j, List.mem_range.mpr hjM, by simpa using hq'⟩
          · have hq' : indentL (2 + j) (wsOf l) < indentL (2 + j) (wsOf l') := by simp at hq; lia
            intro i hi
            rcases Nat.lt_succ_iff_lt_or_eq.mp hi with hi | rfl
            · exact hall i hi
            · exact hq'
        · rintro ρ ⟨e1, g1, hall, rfl⟩
          refine .inl ⟨rfl, ?_⟩
          rw [hres, List.all_eq_true]
          intro j hj
          rw [List.length_map, List.length_range] at hall
          exact decide_eq_true (hall j (by have := List.mem_range.mp hj; lia))
        · exact ⟨.unset, rfl, fun i hi => absurd hi (Nat.not_lt_zero _), rfl⟩
        · rcases h with ⟨_, h⟩ | ⟨h, _⟩
          · exact Exs.last (Ex.ret (Ev.cast .bool (by rw [h])) rfl)
          · cases h
        · rcases h with ⟨h, _⟩ | ⟨h, h2⟩
          · cases h
          · rw [h, h2]
end Mine
namespace Mine
noncomputable abbrev Lines := List (List Nat × Nat)
noncomputable def wpD (p : List Nat × Nat) : D := .tup [wsD p.1, nI p.2]
noncomputable def likeL (st : Lines) (line : List Nat) : List Nat := (List.range st.length).filter fun k => eqL (wsOf (st.getD k ([], 0)).1) (wsOf line)
noncomputable def plNext (st : Lines) (place : Nat) (line : List Nat) : Option Lines :=
  if st = [] ∨ lessL (wsOf (st.getLastD ([], 0)).1) (wsOf line) = true then some (st ++ [(line, place)])
  else match likeL st line with
    | k :: _ => some (st.take k ++ [(line, place)])
    | [] => none
noncomputable def plStep (x : Lines × List (List Nat)) (line : List Nat) : Lines × List (List Nat) :=
  match plNext x.1 x.2.length line with
  | some st' => (st', x.2 ++ [st'.map (·.2)])
  | none => (x.1, x.2 ++ [[]])
noncomputable def placesL (lines : List (List Nat)) : List (List Nat) := (lines.foldl plStep ([], [])).2
noncomputable def onesF : D → Option D
  | .tup [_, .int k] => some (.int k)
  | _ => none
noncomputable def likeF (st : Lines) (line : List Nat) : D → Option D
  | .int i => if eqL (wsOf (st.getD i.toNat ([], 0)).1) (wsOf line) = true then some (.int i) else none
  | _ => none
theorem onesF_map (st : Lines) : (st.map wpD).filterMap onesF = (st.map (·.2)).map nI := by
  rw [List.filterMap_map, List.map_map]
  exact filterMap_is fun a _ => rfl
theorem likeF_map (st : Lines) (line : List Nat) : ((List.range st.length).map fun i : Nat => D.int i).filterMap (likeF st line) = (likeL st line).map nI := by
  unfold likeL
  induction List.range st.length with
  | nil => rfl
  | cons a r ih =>
    rw [List.map_cons, List.filterMap_cons, List.filter_cons]
    simp only [likeF, Int.toNat_natCast] at ih ⊢
    split
    · rename_i q
      split at q
      · cases q
      · rename_i q2; rw [if_neg q2]; exact ih
    · rename_i q
      split at q
      · rename_i q2; rw [if_pos q2]; cases q; rw [List.map_cons, ← ih]
      · cases q
theorem likeL_lt {st : Lines} {line : List Nat} : ∀ k ∈ likeL st line, k < st.length := fun k hk => List.mem_range.mp (List.mem_filter.mp hk).1
theorem plNext_len {st st' : Lines} {place : Nat} {line : List Nat} (h : plNext st place line = some st') : st'.length ≤ st.length + 1 ∧ (∀ p ∈ st', p ∈ st ∨ p = (line, place)) := by
  unfold plNext at h
  split at h
  · cases h; exact ⟨by simp, fun p hp => by simpa using hp⟩
  · split at h
    · cases h
      refine ⟨by simp; lia, fun p hp => ?_⟩
      rcases List.mem_append.mp hp with hp | hp
      · exact .inl (List.mem_of_mem_take hp)
      · exact .inr (by simpa using hp)
    · cases h
theorem plStep_inv {lines : List (List Nat)} : ∀ i, i ≤ lines.length → ((lines.take i).foldl plStep ([], [])).1.length ≤ i ∧ ((lines.take i).foldl plStep ([], [])).2.length = i ∧ ∀ p ∈ ((lines.take i).foldl plStep ([], [])).1, p.1 ∈ lines
  | 0, _ => ⟨Nat.le_refl _, rfl, fun p hp => by cases hp⟩
  | i + 1, h => by
    have hi : i < lines.length := h
    obtain ⟨a, b, c⟩ := plStep_inv (lines := lines) i (by lia)
    rw [List.take_add_one, List.getElem?_eq_getElem hi, Option.toList_some, List.foldl_append]
    generalize (lines.take i).foldl plStep ([], []) = X at *
    show (plStep X lines[i]).1.length ≤ i + 1 ∧ _
    show _ ∧ (plStep X lines[i]).2.length = i + 1 ∧ ∀ p ∈ (plStep X lines[i]).1, p.1 ∈ lines
    unfold plStep
    split
    · rename_i st' q
      obtain ⟨q1, q2⟩ := plNext_len q
      refine ⟨by show st'.length ≤ i + 1; lia, by simp [b], fun p hp => ?_⟩
      rcases q2 p hp with hp | rfl
      · exact c p hp
      · exact List.getElem_mem hi
    · exact ⟨by show X.1.length ≤ i + 1; lia, by simp [b], c⟩

theorem places_ok {G : Glo} (hG : GloOk G) (hK : G.K = heapK G.w.params) (lines : List (List Nat)) (h0 : lines.length ≤ 1000) (h1 : ∀ l ∈ lines, l.length ≤ 16000000) (h2 : ∀ l ∈ lines, Small (wsOf l)) :
    FnOk G 4 190 [.list (lines.map .str)] (.list ((placesL lines).map fun t => .list (t.map nI))) := by
  refine FnOk.def ["lines"] ["places", "standing", "place", "here", "like"] [("range", .type "range"), ("len", .builtin "len"), ("Whitespace", .ref 145)]
    (ρ₀ := [("lines", .val (.list (lines.map .str))), ("places", .unset), ("standing", .unset), ("place", .unset), ("here", .unset), ("like", .unset), ("range", .glob (.type "range")), ("len", .glob (.builtin "len")), ("Whitespace", .glob (.ref 145))]) hG (by rw [hK]; rfl) rfl (by rw [hK]; kernel_rfl) rfl rfl rfl rfl rfl rfl ?_ ?_ rfl rfl rfl rfl (by decide +kernel) (by decide +kernel) (by decide +kernel) ?_
  · rw [hK]; exact ⟨.inr ⟨by kernel_rfl, by kernel_rfl, by decide⟩, .inr ⟨by kernel_rfl, by kernel_rfl, by decide⟩, .inl (by kernel_rfl), trivial⟩
  · intro vs hv
    match vs, hv with
    | [a], _ => rfl
  · intro C hCG hr hw henv
    have hs := sizeLine_is
    obtain ⟨L, hL⟩ := henv
    have hCG' : GloOk C.G := hCG ▸ hG
    have hK' : C.G.K = heapK C.G.w.params := by rw [hCG]; exact hK
    refine Exs.seq (Ex.assignO (xs := []) (EvO.list .nil ?_) (by walk_at "put") hw ?_)
    · rw [hs]; decide
    refine Exs.seq (Ex.assign (d := .list []) (EvO.list .nil ?_).ev (by walk_at "put") hw ?_)
    · rw [hs]; decide
    refine Exs.cons (R' := fun o q => o = .next ∧ ∃ (e0 e1 e2 e3 : Ent), q = ([("lines", .val (.list (lines.map .str))), ("places", .own ((placesL lines).map fun t => .list (t.map nI))), ("standing", e0), ("place", e1), ("here", e2), ("like", e3), ("range", .glob (.type "range")), ("len", .glob (.builtin "len")), ("Whitespace", .glob (.ref 145))] : Rho))
      (Ex.for_ (EvI.range1 (n := lines.length) (by walk_at "mem") (Ev.cast (Ev.len_list (by walk_at "mem") (Ev.name (by walk_at "mem"))) (by simp)) (by lia)) (ForL.of (I := fun i q => ∃ (e1 e2 e3 : Ent), (e1.isGlob = false ∧ e2.isGlob = false ∧ e3.isGlob = false) ∧ (e1.ok = true ∧ e2.ok = true ∧ e3.ok = true) ∧ q = ([("lines", .val (.list (lines.map .str))), ("places", .own (((lines.take i).foldl plStep ([], [])).2.map fun t => .list (t.map nI))), ("standing", .val (.list (((lines.take i).foldl plStep ([], [])).1.map wpD))), ("place", e1), ("here", e2), ("like", e3), ("range", .glob (.type "range")), ("len", .glob (.builtin "len")), ("Whitespace", .glob (.ref 145))] : Rho)) ?_ ?_ ?_)) (fun ρ' h => ?_) (fun _ h => by cases h.1) (fun _ h => by cases h.1) (fun _ _ h => by cases h.1)
    · rintro i d ρ hd ⟨e1, e2, e3, ⟨g1, g2, g3⟩, ⟨k1, k2, k3⟩, rfl⟩
      have hi : i < lines.length := by simpa using (List.getElem?_eq_some_iff.mp hd).1
      have hdi : d = nI i := by rw [List.getElem?_map, List.getElem?_range hi] at hd; exact (Option.some.inj hd).symm
      subst hdi
      have hstep : (lines.take (i + 1)).foldl plStep ([], []) = plStep ((lines.take i).foldl plStep ([], [])) lines[i] := by
        rw [List.take_add_one, List.getElem?_eq_getElem hi, Option.toList_some, List.foldl_append]; rfl
      obtain ⟨inv1, inv2, inv3⟩ := plStep_inv (lines := lines) i (by lia)
      have hli : (lines.map D.str)[i]? = some (.str lines[i]) := by rw [List.getElem?_map, List.getElem?_eq_getElem hi]; rfl
      have hlm : lines[i] ∈ lines := List.getElem_mem hi
      rw [hstep]
      generalize (lines.take i).foldl plStep ([], []) = X at *
      generalize lines[i] = line at *
      have hsl := h2 _ hlm
      refine As.name (by walk_at "put") (.inl hw) ?_
      refine Exs.seq (Ex.assign (d := wsD line) (Ev.make (by walk_at "mem") (.cons (Ev.item_list (Ev.name (by walk_at "mem")) (Ev.name (by walk_at "mem")) i (.nat (by simpa using hi)) hli) .nil) (ws_init hCG' hK' line (h1 _ hlm)) (by lia) (by rw [hK']; kernel_rfl) (by rw [hK']; kernel_rfl) (by rw [hK']; kernel_rfl) (by rw [hK']; kernel_rfl)) (by walk_at "put") hw ?_)
      refine Exs.seq (Ex.assignComp (cl := [("standing", L + 1), ("here", L + 1 + 1)]) (ls := ["k"]) (frees := [("here", wsD line), ("standing", .list (X.1.map wpD))]) (items := (List.range X.1.length).map fun i : Nat => D.int i) (f := likeF X.1 line) ?_ (EvI.range1 (by walk_at "mem") (Ev.cast (Ev.len_list (by walk_at "mem") (Ev.name (by walk_at "mem"))) (by simp)) (by lia)) ?_ ?_ (by rw [hL]; rfl) (by walk_at "put") (by rw [hL]; rfl) (OkAll.own (by walk_at "okall")) ?_)
      · refine ⟨by rw [hL]; rfl, by decide, rfl, by decide, by decide, ?_, ?_, by show (["k", "here", "standing"] : List Str).Nodup; decide⟩
        · intro p hp
          rcases List.mem_cons.mp hp with rfl | hp
          · exact ⟨by show (("here" : Str) == "__debug__") = false; decide, by rw [hL]; rfl, by walk_at "mem", by rw [hL]; rfl, _, rfl⟩
          · rcases List.mem_singleton.mp hp with rfl
            exact ⟨by show (("standing" : Str) == "__debug__") = false; decide, by rw [hL]; rfl, by walk_at "mem", by rw [hL]; rfl, _, rfl⟩
        · intro x c h
          rw [hL]
          rw [List.lookup_cons] at h
          split at h
          · rename_i q
            rw [beq_iff_eq.mp q]; exact h
          · rw [List.lookup_cons] at h
            split at h
            · rename_i q
              rw [beq_iff_eq.mp q]; exact h
            · cases h
      · simp; lia
      · intro C' hG' hr' hl' d hd
        obtain ⟨j, hj, rfl⟩ := List.mem_map.mp hd
        have hj' : j < X.1.length := by simpa using hj
        have hjd : (X.1.map wpD)[j]? = some (wpD (X.1.getD j ([], 0))) := by rw [List.getElem?_map, List.getD_eq_getElem?_getD, List.getElem?_eq_getElem hj']; rfl
        have hG2 : GloOk C'.G := hG' ▸ hCG'
        have hK2 : C'.G.K = heapK C'.G.w.params := by rw [hG']; exact hK'
        show As C' ([("k", .unset), ("here", .val (wsD line)), ("standing", .val (.list (X.1.map wpD)))] : Rho) _ _ _
        refine As.name (by walk_at "put") (.inr (hl' _ (by simp))) ⟨eqL (wsOf (X.1.getD j ([], 0)).1) (wsOf line), Tr.cast (Tr.compare (Ev.meth (f := 121) (Ev.item_tup (Ev.item_list (Ev.name (by walk_at "mem")) (Ev.name (by walk_at "mem")) j (.nat (by simpa using hj')) hjd) .int 0 (.nat (Nat.succ_pos _)) rfl) (.cons (Ev.name (by walk_at "mem")) .nil) (equal_ok hG2 hK2 (X.1.getD j ([], 0)).1 line) (by lia) rfl (by rw [hK2]; kernel_rfl) (by rw [hK2]; kernel_rfl) (by rw [hK2]; kernel_rfl) rfl (by decide) rfl) .bool Op2.isBool rfl) (by simp), fun hb => ?_, fun hb => ⟨.int j, ?_, Ev.name (by walk_at "mem")⟩⟩
        · simp only [likeF, Int.toNat_natCast]; rw [if_neg (by rw [hb]; decide)]
        · simp only [likeF, Int.toNat_natCast]; rw [if_pos hb]
      rw [likeF_map]
      have hlk : (likeL X.1 line).length ≤ X.1.length := by
        have := List.length_filter_le (fun k => eqL (wsOf (X.1.getD k ([], 0)).1) (wsOf line)) (List.range X.1.length)
        simpa [likeL] using this
      refine Exs.last (Ex.if_ (Tr.or (Tr.compare (Ev.len_list (by walk_at "mem") (Ev.name (by walk_at "mem"))) .int Op2.eqInt rfl) fun hne => Tr.compare (Ev.meth (f := 135) (Ev.item_tup (Ev.item_list (d := wpD (X.1.getLastD ([], 0))) (Ev.name (by walk_at "mem")) (.neg .int) (X.1.length - 1) (by simp at hne; rw [List.length_map]; exact At.last (List.length_pos_iff.mpr hne)) ?_) .int 0 (.nat (Nat.succ_pos _)) rfl) (.cons (Ev.name (by walk_at "mem")) .nil) (less_ok hCG' hK' (X.1.getLastD ([], 0)).1 line ?_ hsl) (by lia) rfl (by rw [hK']; kernel_rfl) (by rw [hK']; kernel_rfl) (by rw [hK']; kernel_rfl) rfl (by decide) rfl) .bool Op2.isBool rfl) (fun hc => ?_) fun hc => ?_)
      · have hne' : X.1 ≠ [] := by simpa using hne
        rw [List.getElem?_map, ← List.getLast?_eq_getElem?, List.getLastD_eq_getLast?, List.getLast?_eq_some_getLast hne']; rfl
      · have hne' : X.1 ≠ [] := by simpa using hne
        refine h2 _ (inv3 _ ?_)
        rw [List.getLastD_eq_getLast?, List.getLast?_eq_some_getLast hne']; exact List.getLast_mem hne'
      · have hc' : X.1 = [] ∨ lessL (wsOf (X.1.getLastD ([], 0)).1) (wsOf line) = true := by simpa using hc
        have hn : plStep X line = (X.1 ++ [(line, i)], X.2 ++ [(X.1 ++ [(line, i)]).map (·.2)]) := by unfold plStep plNext; rw [if_pos hc', inv2]
        refine Exs.seq (Ex.assign (d := .list ((X.1 ++ [(line, i)]).map wpD)) (Ev.cast (.binop (Ev.name (by walk_at "mem")) (EvO.list (.cons (.tuple (.cons (Ev.name (by walk_at "mem")) (.cons (Ev.name (by walk_at "mem")) .nil)) ?_) .nil) ?_).ev (Op2.addList ?_)) ?_) (by walk_at "put") hw ?_)
        · rw [hs]; simp
        · rw [hs]; simp
        · simp; lia
        · simp [wpD]
        refine Exs.last (Ex.append (d := .list (((X.1 ++ [(line, i)]).map (·.2)).map nI)) (by walk_at "mem") (Ev.cast (EvO.comp (cl := []) (ls := ["one", "k"]) (frees := []) (items := ((X.1 ++ [(line, i)])).map wpD) (f := onesF) ?_ (EvI.list (Ev.name (by walk_at "mem"))) ?_ ?_).ev (by rw [onesF_map])) (by walk_at "put") ?_ ⟨.val (nI i), .val (wsD line), .val (.list ((likeL X.1 line).map nI)), ⟨rfl, rfl, rfl⟩, ⟨rfl, rfl, rfl⟩, ?_⟩ ?_ rfl)
        · exact ⟨by rw [hL]; rfl, by decide, rfl, by decide, by decide, (fun p hp => by cases hp), (fun x c h => by cases h), by decide⟩
        · simp; lia
        · intro C' hG' hr' hl' d hd
          obtain ⟨r, hr, rfl⟩ := List.mem_map.mp hd
          show As C' ([("one", .unset), ("k", .unset)] : Rho) _ (.tup [wsD r.1, nI r.2]) _
          exact As.tup (As.name (by walk_at "put") (.inr (hl' _ (by simp))) (As.name (by walk_at "put") (.inr (hl' _ (by simp))) ⟨_, rfl, Ev.name (by walk_at "mem")⟩)) rfl rfl
        · simp; lia
        · rw [hn]; simp
        · rw [hL]; rfl
      · have hc' : ¬ (X.1 = [] ∨ lessL (wsOf (X.1.getLastD ([], 0)).1) (wsOf line) = true) := by
          intro q; rw [Bool.or_eq_false_iff] at hc
          rcases q with q | q
          · have := hc.1; rw [q] at this; simp at this
          · have := hc.2; rw [q] at this; simp at this
        refine Exs.last (Ex.if_ (Tr.compare (Ev.len_list (by walk_at "mem") (Ev.name (by walk_at "mem"))) .int Op2.gtInt rfl) (fun hc2 => ?_) fun hc2 => ?_)
        · obtain ⟨k0, kr, hk0⟩ : ∃ k0 kr, likeL X.1 line = k0 :: kr := by
            cases q : likeL X.1 line with
            | nil => rw [q] at hc2; simp at hc2
            | cons a b => exact ⟨a, b, rfl⟩
          have hn : plStep X line = (X.1.take k0 ++ [(line, i)], X.2 ++ [(X.1.take k0 ++ [(line, i)]).map (·.2)]) := by unfold plStep plNext; rw [if_neg hc', hk0, inv2]
          have hget : ((likeL X.1 line).map nI)[0]? = some (nI k0) := by rw [hk0]; rfl
          have hlen0 : 0 < ((likeL X.1 line).map nI).length := by rw [hk0]; simp
          refine Exs.seq (Ex.assign (d := .list ((X.1.take k0 ++ [(line, i)]).map wpD)) (Ev.cast (.binop (EvO.slice (Ev.name (by walk_at "mem")) .none (.some (Ev.item_list (Ev.name (by walk_at "mem")) .int 0 (.nat hlen0) hget))).ev (EvO.list (.cons (.tuple (.cons (Ev.name (by walk_at "mem")) (.cons (Ev.name (by walk_at "mem")) .nil)) ?_) .nil) ?_).ev (Op2.addList ?_)) ?_) (by walk_at "put") hw ?_)
          · rw [hs]; simp
          · rw [hs]; simp
          · have := cutL_len (X.1.map wpD) none (some ((k0 : Nat) : Int))
            simp at this ⊢; lia
          · rw [cutL_upto]; simp [wpD, List.map_take]
          refine Exs.last (Ex.append (d := .list (((X.1.take k0 ++ [(line, i)]).map (·.2)).map nI)) (by walk_at "mem") (Ev.cast (EvO.comp (cl := []) (ls := ["one", "k"]) (frees := []) (items := ((X.1.take k0 ++ [(line, i)])).map wpD) (f := onesF) ?_ (EvI.list (Ev.name (by walk_at "mem"))) ?_ ?_).ev (by rw [onesF_map])) (by walk_at "put") ?_ ⟨.val (nI i), .val (wsD line), .val (.list ((likeL X.1 line).map nI)), ⟨rfl, rfl, rfl⟩, ⟨rfl, rfl, rfl⟩, ?_⟩ ?_ rfl)
          · exact ⟨by rw [hL]; rfl, by decide, rfl, by decide, by decide, (fun p hp => by cases hp), (fun x c h => by cases h), by decide⟩
          · simp; lia
          · intro C' hG' hr' hl' d hd
            obtain ⟨r, hr, rfl⟩ := List.mem_map.mp hd
            show As C' ([("one", .unset), ("k", .unset)] : Rho) _ (.tup [wsD r.1, nI r.2]) _
            exact As.tup (As.name (by walk_at "put") (.inr (hl' _ (by simp))) (As.name (by walk_at "put") (.inr (hl' _ (by simp))) ⟨_, rfl, Ev.name (by walk_at "mem")⟩)) rfl rfl
          · simp; lia
          · rw [hn]; simp
          · rw [hL]; rfl
        · have hnil : likeL X.1 line = [] := by
            cases q : likeL X.1 line with
            | nil => rfl
            | cons a b => rw [q] at hc2; simp at hc2
          have hn : plStep X line = (X.1, X.2 ++ [[]]) := by unfold plStep plNext; rw [if_neg hc', hnil]
          refine Exs.last (Ex.append (d := .list []) (by walk_at "mem") (EvO.list .nil ?_).ev (by walk_at "put") ?_ ⟨.val (nI i), .val (wsD line), .val (.list ((likeL X.1 line).map nI)), ⟨rfl, rfl, rfl⟩, ⟨rfl, rfl, rfl⟩, ?_⟩ ?_ rfl)
          · rw [hs]; decide
          · simp; lia
          · rw [hn]; simp
          · rw [hL]; rfl
    · rintro ρ ⟨e1, e2, e3, _, _, rfl⟩
      rw [List.length_map, List.length_range, List.take_length]
      exact ⟨rfl, _, e1, e2, e3, rfl⟩
    · exact ⟨.unset, .unset, .unset, ⟨rfl, rfl, rfl⟩, ⟨rfl, rfl, rfl⟩, rfl⟩
    · obtain ⟨_, e0, e1, e2, e3, rfl⟩ := h
      exact ExT.freeze (x := "places") (by walk_at "mem") (by walk_at "put") (Exs.last (Ex.ret (Ev.name (by walk_at "mem")) rfl))
end Mine
namespace Mine
noncomputable abbrev mgrD (w : World) : D := .inst 67 ["passwd"] [.dict w []]
noncomputable abbrev uriD (h p : List Nat) : D := .tup [.str h, .str p]
noncomputable def slashed (p : List Nat) : List Nat := if p.drop (p.length - 1) = [47] then p else p ++ [47]
noncomputable def subL (h1 p1 h2 p2 : List Nat) : Bool := if h1 = h2 ∧ p1 = p2 then true else if h1 ≠ h2 then false else (slashed p1).isPrefixOf p2

theorem starts_is (l y : List Nat) : Txt.startswith (st l) (st y) = y.isPrefixOf l := by
  unfold Txt.startswith
  rw [st_length, st_length]
  unfold Builtin.Str.subAt
  rw [st_length]
  show (decide (0 + y.length ≤ l.length) && (l.toArray.extract 0 (0 + y.length) == y.toArray)) = _
  rw [List.extract_toArray, List.extract_eq_take_drop]
  have e : ((List.take (0 + y.length - 0) (List.drop 0 l)).toArray == y.toArray) = decide (l.take y.length = y) := by
    rw [Bool.eq_iff_iff]; simp
  rw [e, Bool.eq_iff_iff]
  simp only [Bool.and_eq_true, decide_eq_true_eq, List.isPrefixOf_iff_prefix]
  constructor
  · rintro ⟨h1, h2⟩
    rw [List.prefix_iff_eq_take]; exact h2.symm
  · intro h
    exact ⟨by have := h.length_le; lia, (List.prefix_iff_eq_take.mp h).symm⟩

theorem mgr_init {G : Glo} (hG : GloOk G) (hK : G.K = heapK G.w.params) : InitOk G 1 35 67 [] ["passwd"] [.dict G.w []] := by
  refine InitOk.def "self" [] [] [] (ρ₀ := []) hG (by rw [hK]; rfl) rfl (by rw [hK]; kernel_rfl) rfl rfl rfl rfl rfl rfl trivial ?_ rfl rfl rfl rfl (by decide +kernel) (by decide +kernel) (by decide +kernel) (by decide +kernel) ?_
  · intro vs hv
    match vs, hv with
    | [a], _ => rfl
  · intro C a hCG hr hw henv
    obtain ⟨L, hL⟩ := henv
    have hK' : C.G.K = heapK C.G.w.params := by rw [hCG]; exact hK
    rw [← hCG]
    refine Exs.last (Ex.setAttr Ev.dict0 (by walk_at "mem") (by walk_at "put") rfl rfl (by decide) (OkAll.tail (by walk_at "okall")) (by rw [hK']; kernel_rfl) (by rw [hK']; kernel_rfl) (by rw [hK']; kernel_rfl) (by rw [hK']; kernel_rfl) ?_)
    exact ⟨rfl, .head _⟩

theorem suburi_ok {G : Glo} (hG : GloOk G) (hK : G.K = heapK G.w.params) (h1 p1 h2 p2 : List Nat) (hl : p1.length ≤ 1000000) (c1 : ∀ c ∈ h1, c < 0x110000) (c2 : ∀ c ∈ p1, c < 0x110000) (c3 : ∀ c ∈ h2, c < 0x110000) (c4 : ∀ c ∈ p2, c < 0x110000) :
    FnOk G 1 64 [mgrD G.w, uriD h1 p1, uriD h2 p2] (.bool (subL h1 p1 h2 p2)) := by
  refine FnOk.def ["self", "base", "test"] ["prefix"] []
    (ρ₀ := [("self", .val (mgrD G.w)), ("base", .val (uriD h1 p1)), ("test", .val (uriD h2 p2)), ("prefix", .unset)]) hG (by rw [hK]; rfl) rfl (by rw [hK]; kernel_rfl) rfl rfl rfl rfl rfl rfl trivial ?_ rfl rfl rfl rfl (by decide +kernel) (by decide +kernel) (by decide +kernel) ?_
  · intro vs hv
    match vs, hv with
    | [a, b, c], _ => rfl
  · intro C hCG hr hw henv
    obtain ⟨L, hL⟩ := henv
    have hs := sizeLine_is
    have hfl : ∀ h p : List Nat, (∀ c ∈ h, c < 0x110000) → (∀ c ∈ p, c < 0x110000) → flat 1 (uriD h p) = true := fun h p a b => by
      have e1 : (h.all fun c => decide (c < 0x110000)) = true := List.all_eq_true.mpr fun c hc => decide_eq_true (a c hc)
      have e2 : (p.all fun c => decide (c < 0x110000)) = true := List.all_eq_true.mpr fun c hc => decide_eq_true (b c hc)
      simp only [flat, flats, e1, e2]; rfl
    have heq : PyData.eqv (toP (uriD h1 p1)) (toP (uriD h2 p2)) = decide (h1 = h2 ∧ p1 = p2) := by
      simp only [toP, toPs, PyData.eqv, PyData.eqvAll, Bool.and_true]
      rw [Bool.eq_iff_iff]
      simp [st_inj]
    refine Exs.seq (Ex.if_ (Tr.compare (Ev.name (by walk_at "mem")) (Ev.name (by walk_at "mem")) (Op2.eqD (n := 1) (m := 1) (hfl h1 p1 c1 c2) (hfl h2 p2 c3 c4)) rfl) (fun hc => Exs.last (Ex.ret (Ev.cast .bool ?_) rfl)) fun hc => .nil ?_)
    · rw [heq] at hc
      unfold subL; rw [if_pos (of_decide_eq_true hc)]
    · rw [heq] at hc
      have hc' := of_decide_eq_false hc
      refine Exs.seq (Ex.if_ (Tr.compare (Ev.item_tup (xs := [.str h1, .str p1]) (Ev.name (by walk_at "mem")) .int 0 (.nat (Nat.succ_pos _)) rfl) (Ev.item_tup (xs := [.str h2, .str p2]) (Ev.name (by walk_at "mem")) .int 0 (.nat (Nat.succ_pos _)) rfl) Op2.neStr rfl) (fun hc2 => Exs.last (Ex.ret (Ev.cast .bool ?_) rfl)) fun hc2 => .nil ?_)
      · have hc2' : h1 ≠ h2 := by simpa using hc2
        unfold subL; rw [if_neg hc', if_pos hc2']
      · have hc2' : ¬ h1 ≠ h2 := by simpa using hc2
        refine Exs.seq (Ex.assign (d := .str p1) (Ev.item_tup (xs := [.str h1, .str p1]) (Ev.name (by walk_at "mem")) .int 1 (.nat (Nat.succ_lt_succ (Nat.succ_pos _))) rfl) (by walk_at "put") hw ?_)
        refine Exs.cons (R' := fun o q => o = .next ∧ q = ([("self", .val (mgrD G.w)), ("base", .val (uriD h1 p1)), ("test", .val (uriD h2 p2)), ("prefix", .val (.str (slashed p1)))] : Rho))
          (Ex.if_ (Tr.compare (Ev.cast (Ev.slice_str (Ev.name (by walk_at "mem")) (.some (.neg .int)) .none) (by rw [cutL_last])) (Ev.strC [47]) Op2.neStr rfl) (fun hc3 => ?_) fun hc3 => .nil ?_) (fun ρ' h => ?_) (fun _ h => by cases h.1) (fun _ h => by cases h.1) (fun _ _ h => by cases h.1)
        · have hc3' : ¬ p1.drop (p1.length - 1) = [47] := by simpa using hc3
          refine Exs.last (Ex.aug (by walk_at "mem") (Ev.strC [47]) (Op2.iaddStr ?_) (by walk_at "put") hw ⟨rfl, ?_⟩)
          · simp; lia
          · unfold slashed; rw [if_neg hc3']
        · have hc3' : p1.drop (p1.length - 1) = [47] := by simpa using hc3
          refine ⟨rfl, ?_⟩
          unfold slashed; rw [if_pos hc3']
        · obtain ⟨_, rfl⟩ := h
          refine Exs.last (Ex.ret (Ev.cast (Ev.startswith (Ev.item_tup (xs := [.str h2, .str p2]) (Ev.name (by walk_at "mem")) .int 1 (.nat (Nat.succ_lt_succ (Nat.succ_pos _))) rfl) (Ev.name (by walk_at "mem")) (starts_is _ _) rfl rfl) ?_) rfl)
          unfold subL; rw [if_neg hc', if_neg hc2']
end Mine
namespace Mine
noncomputable def hostL : List Nat := [104, 111, 115, 116]
noncomputable def hosL : List Nat := [104, 111, 115]
noncomputable def takenK (T : List (List Nat)) : List Nat := (List.range T.length).filter fun k => decide (T.getD k [] ≠ [])
noncomputable def takenF (T : List (List Nat)) : D → Option D
  | .int i => if T.getD i.toNat [] ≠ [] then some (.int i) else none
  | _ => none
noncomputable def isF : D → Option D
  | .tup [.bool a, .bool b] => some (.bool (a == b))
  | _ => none
theorem takenF_map (T : List (List Nat)) : ((List.range T.length).map fun i : Nat => D.int i).filterMap (takenF T) = (takenK T).map nI := by
  unfold takenK
  induction List.range T.length with
  | nil => rfl
  | cons a r ih =>
    rw [List.map_cons, List.filterMap_cons, List.filter_cons]
    simp only [takenF, Int.toNat_natCast] at ih ⊢
    split
    · rename_i q
      split at q
      · cases q
      · rename_i q2; rw [if_neg (by simpa using q2)]; exact ih
    · rename_i q
      split at q
      · rename_i q2; rw [if_pos (by simpa using q2)]; cases q; rw [List.map_cons, ← ih]
      · cases q
theorem takenK_lt {T : List (List Nat)} : ∀ k ∈ takenK T, k < T.length := fun k hk => List.mem_range.mp (List.mem_filter.mp hk).1

structure CovOk (P T : List (List Nat)) : Prop where
  len : P.length = T.length
  few : T.length ≤ 1000
  short : ∀ p ∈ P, p.length ≤ 100000
  chars : ∀ p ∈ P, ∀ c ∈ p, c < 0x110000
  top : ∀ j ∈ takenK T, subL hostL [] hostL (P.getD j []) = true
  two : ∀ i ∈ takenK T, ∀ j ∈ takenK T, subL hostL (P.getD i []) hostL (P.getD j []) = (T.getD j []).contains i
  s1 : ∀ i ∈ takenK T, ∀ j ∈ takenK T, (T.getD j []).contains i = true → subL hostL (P.getD i [] ++ [47]) hostL (P.getD j []) = decide (i ≠ j)
  s2 : ∀ i ∈ takenK T, ∀ j ∈ takenK T, (T.getD j []).contains i = true → subL hostL (P.getD i [] ++ [47]) hostL (P.getD j [] ++ [47]) = true
  s3 : ∀ i ∈ takenK T, ∀ j ∈ takenK T, (T.getD j []).contains i = true → subL hosL (P.getD i []) hostL (P.getD j []) = false
  s4 : ∀ i ∈ takenK T, ∀ j ∈ takenK T, (T.getD j []).contains i = true → subL hostL (P.getD i []) hostL ([47, 98] ++ P.getD j []) = false

theorem zip_self : ∀ bs : List Bool, (zipD (bs.map D.bool) (bs.map D.bool)).filterMap isF = bs.map fun _ => D.bool true
  | [] => rfl
  | b :: r => by
    have ih := zip_self r
    unfold zipD at ih ⊢
    rw [List.map_cons, List.zip_cons_cons, List.map_cons, List.filterMap_cons]
    simp only [isF]
    rw [ih]; simp
theorem const_map : ∀ bs : List Bool, (bs.map D.bool).filterMap (fun _ => some (D.bool true)) = bs.map fun _ => D.bool true
  | [] => rfl
  | b :: r => by rw [List.map_cons, List.filterMap_cons, List.map_cons, const_map r]
theorem flat_bools (bs : List Bool) : flat 1 (.list (bs.map fun _ => D.bool true)) = true := by
  rw [flat, flats_all, List.all_eq_true]
  intro d hd; obtain ⟨n, _, rfl⟩ := List.mem_map.mp hd; rfl
theorem nat_contains (l : List Nat) (i : Nat) : (l.map fun n : Nat => (n : Int)).contains (i : Int) = l.contains i := by
  induction l with
  | nil => rfl
  | cons a r ih =>
    rw [List.map_cons, List.contains_cons, List.contains_cons, ih]
    congr 1
    rw [Bool.eq_iff_iff]; simp; lia
theorem all_lt {l : List Nat} (h : (l.all fun c => decide (c < 0x110000)) = true) : ∀ c ∈ l, c < 0x110000 := fun c hc => of_decide_eq_true (List.all_eq_true.mp h c hc)

theorem covers_ok {G : Glo} (hG : GloOk G) (hK : G.K = heapK G.w.params) (P T : List (List Nat)) (ok : CovOk P T) :
    FnOk G 3 195 [.list (P.map .str), .list (T.map fun t => .list (t.map nI))] (.bool true) := by
  refine FnOk.def ["paths", "places"] ["manager", "taken", "j", "test", "i", "told", "due"] [("HTTPPasswordMgr", .ref 67), ("range", .type "range"), ("len", .builtin "len"), ("zip", .type "zip")]
    (ρ₀ := [("paths", .val (.list (P.map .str))), ("places", .val (.list (T.map fun t => .list (t.map nI)))), ("manager", .unset), ("taken", .unset), ("j", .unset), ("test", .unset), ("i", .unset), ("told", .unset), ("due", .unset), ("HTTPPasswordMgr", .glob (.ref 67)), ("range", .glob (.type "range")), ("len", .glob (.builtin "len")), ("zip", .glob (.type "zip"))]) hG (by rw [hK]; rfl) rfl (by rw [hK]; kernel_rfl) rfl rfl rfl rfl rfl rfl ?_ ?_ rfl rfl rfl rfl (by decide +kernel) (by decide +kernel) (by decide +kernel) ?_
  · rw [hK]; exact ⟨.inl (by kernel_rfl), .inr ⟨by kernel_rfl, by kernel_rfl, by decide⟩, .inr ⟨by kernel_rfl, by kernel_rfl, by decide⟩, .inr ⟨by kernel_rfl, by kernel_rfl, by decide⟩, trivial⟩
  · intro vs hv
    match vs, hv with
    | [a, b], _ => rfl
  · intro C hCG hr hw henv
    have hs := sizeLine_is
    obtain ⟨L, hL⟩ := henv
    have hCG' : GloOk C.G := hCG ▸ hG
    have hK' : C.G.K = heapK C.G.w.params := by rw [hCG]; exact hK
    have hfew := ok.few
    have hlen := ok.len
    have hgP : ∀ k, k < T.length → (P.map D.str)[k]? = some (.str (P.getD k [])) := fun k hk => by
      rw [List.getElem?_map, List.getD_eq_getElem?_getD, List.getElem?_eq_getElem (by lia)]; rfl
    have hgT : ∀ k, k < T.length → (T.map fun t => D.list (t.map nI))[k]? = some (.list ((T.getD k []).map nI)) := fun k hk => by
      rw [List.getElem?_map, List.getD_eq_getElem?_getD, List.getElem?_eq_getElem hk]; rfl
    have hPm : ∀ k, k < T.length → P.getD k [] ∈ P := fun k hk => by
      rw [List.getD_eq_getElem?_getD, List.getElem?_eq_getElem (by lia)]; exact List.getElem_mem _
    have hsz : ∀ k, k < T.length → (P.getD k []).length ≤ 100000 := fun k hk => ok.short _ (hPm k hk)
    have hch : ∀ k, k < T.length → ∀ c ∈ P.getD k [], c < 0x110000 := fun k hk => ok.chars _ (hPm k hk)
    have hhost : ∀ c ∈ hostL, c < 0x110000 := by decide
    have hhos : ∀ c ∈ hosL, c < 0x110000 := by decide
    refine Exs.seq (Ex.assign (d := mgrD C.G.w) (Ev.make (by walk_at "mem") .nil (mgr_init hCG' hK') (by lia) (by rw [hK']; kernel_rfl) (by rw [hK']; kernel_rfl) (by rw [hK']; kernel_rfl) (by rw [hK']; kernel_rfl)) (by walk_at "put") hw ?_)
    refine Exs.seq (Ex.assignComp (cl := [("places", L + 1)]) (ls := ["k"]) (frees := [("places", .list (T.map fun t => .list (t.map nI)))]) (items := (List.range T.length).map fun i : Nat => D.int i) (f := takenF T) ?_ (EvI.range1 (by walk_at "mem") (Ev.cast (Ev.len_list (by walk_at "mem") (Ev.name (by walk_at "mem"))) (by simp)) (by lia)) ?_ ?_ (by rw [hL]; rfl) (by walk_at "put") (by rw [hL]; rfl) (OkAll.own (by walk_at "okall")) ?_)
    · refine ⟨by rw [hL]; rfl, by decide, rfl, by decide, by decide, ?_, ?_, by show (["k", "places"] : List Str).Nodup; decide⟩
      · intro p hp
        rcases List.mem_singleton.mp hp with rfl
        exact ⟨by show (("places" : Str) == "__debug__") = false; decide, by rw [hL]; rfl, by walk_at "mem", by rw [hL]; rfl, _, rfl⟩
      · intro x c h
        rw [hL]
        exact h
    · simp; lia
    · intro C' hG' hr' hl' d hd
      obtain ⟨j, hj, rfl⟩ := List.mem_map.mp hd
      have hj' : j < T.length := by simpa using hj
      have hfl : flat 1 (.list ((T.getD j []).map nI)) = true := by
        rw [flat, flats_all, List.all_eq_true]; intro d hd; obtain ⟨n, _, rfl⟩ := List.mem_map.mp hd; rfl
      have heq : (!PyData.eqv (toP (.list ((T.getD j []).map nI))) (toP (.list []))) = decide (T.getD j [] ≠ []) := by
        have := eqv_ints (T.getD j []) []
        simp only [toP, PyData.eqv]
        rw [List.map_nil] at this
        rw [this, Bool.eq_iff_iff]; simp
      show As C' ([("k", .unset), ("places", .val (.list (T.map fun t => .list (t.map nI))))] : Rho) _ _ _
      refine As.name (by walk_at "put") (.inr (hl' _ (by simp))) ⟨decide (T.getD j [] ≠ []), Tr.cast (Tr.compare (Ev.item_list (Ev.name (by walk_at "mem")) (Ev.name (by walk_at "mem")) j (.nat (by simpa using hj')) (hgT j hj')) (EvO.list .nil (by rw [hs]; decide)).ev (Op2.neD (n := 1) (m := 1) hfl rfl) rfl) heq, fun hb => ?_, fun hb => ⟨.int j, ?_, Ev.name (by walk_at "mem")⟩⟩
      · simp only [takenF, Int.toNat_natCast]; rw [if_neg (of_decide_eq_false hb)]
      · simp only [takenF, Int.toNat_natCast]; rw [if_pos (of_decide_eq_true hb)]
    rw [takenF_map]
    refine Exs.cons (R' := fun o q => o = .next)
      (Ex.for_ (EvI.list (Ev.name (by walk_at "mem"))) (ForL.of (I := fun _ q => ∃ (e1 e2 e3 e4 e5 : Ent), (e1.isGlob = false ∧ e2.isGlob = false ∧ e3.isGlob = false ∧ e4.isGlob = false ∧ e5.isGlob = false) ∧ q = ([("paths", .val (.list (P.map .str))), ("places", .val (.list (T.map fun t => .list (t.map nI)))), ("manager", .val (mgrD C.G.w)), ("taken", .val (.list ((takenK T).map nI))), ("j", e1), ("test", e2), ("i", e3), ("told", e4), ("due", e5), ("HTTPPasswordMgr", .glob (.ref 67)), ("range", .glob (.type "range")), ("len", .glob (.builtin "len")), ("zip", .glob (.type "zip"))] : Rho)) ?_ (fun _ _ => rfl) ?_)) (fun ρ' _ => Exs.last (Ex.ret .bool rfl)) (fun _ h => by cases h) (fun _ h => by cases h) (fun _ _ h => by cases h)
    · rintro m d ρ hd ⟨e1, e2, e3, e4, e5, ⟨g1, g2, g3, g4, g5⟩, rfl⟩
      obtain ⟨j, hjt, rfl⟩ := List.mem_map.mp (List.mem_of_getElem? hd)
      have hj := takenK_lt j hjt
      have hjs := hsz j hj
      refine As.name (by walk_at "put") (.inl hw) ?_
      refine Exs.seq (Ex.assign (d := uriD hostL (P.getD j [])) (.tuple (.cons (Ev.strC hostL) (.cons (Ev.item_list (Ev.name (by walk_at "mem")) (Ev.name (by walk_at "mem")) j (.nat (by simp; lia)) (hgP j hj)) .nil)) (by rw [hs]; simp)) (by walk_at "put") hw ?_)
      refine Exs.seq (Ex.if_ (Tr.compare (Ev.cast (Ev.meth (f := 64) (Ev.name (by walk_at "mem")) (.cons (.tuple (.cons (Ev.strC hostL) (.cons (Ev.strC []) .nil)) (by rw [hs]; simp)) (.cons (Ev.name (by walk_at "mem")) .nil)) (suburi_ok hCG' hK' hostL [] hostL (P.getD j []) (by simp) hhost (fun c hc => by cases hc) hhost (hch j hj)) (by lia) rfl (by rw [hK']; kernel_rfl) (by rw [hK']; kernel_rfl) (by rw [hK']; kernel_rfl) rfl (by decide) rfl) (by rw [ok.top j hjt])) .bool Op2.isNotBool rfl) (fun hc => absurd hc (by decide)) fun _ => .nil ?_)
      refine Exs.last (Ex.for_ (EvI.list (Ev.name (by walk_at "mem"))) (ForL.of (I := fun _ q => ∃ (e3 e4 e5 : Ent), (e3.isGlob = false ∧ e4.isGlob = false ∧ e5.isGlob = false) ∧ q = ([("paths", .val (.list (P.map .str))), ("places", .val (.list (T.map fun t => .list (t.map nI)))), ("manager", .val (mgrD C.G.w)), ("taken", .val (.list ((takenK T).map nI))), ("j", .val (nI j)), ("test", .val (uriD hostL (P.getD j []))), ("i", e3), ("told", e4), ("due", e5), ("HTTPPasswordMgr", .glob (.ref 67)), ("range", .glob (.type "range")), ("len", .glob (.builtin "len")), ("zip", .glob (.type "zip"))] : Rho)) ?_ ?_ ⟨e3, e4, e5, ⟨g3, g4, g5⟩, rfl⟩))
      · rintro m' d ρ hd' ⟨e3, e4, e5, ⟨g3, g4, g5⟩, rfl⟩
        obtain ⟨i, hit, rfl⟩ := List.mem_map.mp (List.mem_of_getElem? hd')
        have hi := takenK_lt i hit
        have his := hsz i hi
        have bi : (P.getD i [] ++ [47]).length ≤ sizeLine := by rw [List.length_append, List.length_singleton]; lia
        have bj : (P.getD j [] ++ [47]).length ≤ sizeLine := by rw [List.length_append, List.length_singleton]; lia
        have bjb : ([47, 98] ++ P.getD j []).length ≤ sizeLine := by simp only [List.length_append, List.length_cons, List.length_nil]; lia
        have bi2 : (P.getD i [] ++ [47]).length ≤ 1000000 := by rw [List.length_append, List.length_singleton]; lia
        have ci2 : ∀ c ∈ P.getD i [] ++ [47], c < 0x110000 := fun c hc => (List.mem_append.mp hc).elim (hch i hi c) fun q => by rw [List.mem_singleton] at q; subst q; decide
        have cj2 : ∀ c ∈ P.getD j [] ++ [47], c < 0x110000 := fun c hc => (List.mem_append.mp hc).elim (hch j hj c) fun q => by rw [List.mem_singleton] at q; subst q; decide
        have cjb : ∀ c ∈ [47, 98] ++ P.getD j [], c < 0x110000 := fun c hc => (List.mem_append.mp hc).elim (fun q => by simp at q; rcases q with rfl | rfl <;> decide) (hch j hj c)
        have htwo := ok.two i hit j hjt
        refine As.name (by walk_at "put") (.inl hw) ?_
        refine Exs.seq (Ex.assignO (xs := [D.bool ((T.getD j []).contains i)]) (EvO.list (.cons (Ev.cast (Ev.meth (f := 64) (Ev.name (by walk_at "mem")) (.cons (.tuple (.cons (Ev.strC hostL) (.cons (Ev.item_list (Ev.name (by walk_at "mem")) (Ev.name (by walk_at "mem")) i (.nat (by simp; lia)) (hgP i hi)) .nil)) (by rw [hs]; simp)) (.cons (Ev.name (by walk_at "mem")) .nil)) (suburi_ok hCG' hK' hostL (P.getD i []) hostL (P.getD j []) (by lia) hhost (hch i hi) hhost (hch j hj)) (by lia) rfl (by rw [hK']; kernel_rfl) (by rw [hK']; kernel_rfl) (by rw [hK']; kernel_rfl) rfl (by decide) rfl) (by rw [htwo])) .nil) (by rw [hs]; simp)) (by walk_at "put") hw ?_)
        refine Exs.seq (Ex.assign (d := .list [D.bool ((T.getD j []).contains i)]) (EvO.list (.cons (Ev.cast (Ev.compare (Ev.name (by walk_at "mem")) (Ev.cast (Ev.item_list (Ev.name (by walk_at "mem")) (Ev.name (by walk_at "mem")) j (.nat (by simp; lia)) (hgT j hj)) (by rw [nI_map])) Op2.inInts rfl) (by rw [nat_contains])) .nil) (by rw [hs]; simp)).ev (by walk_at "put") hw ?_)
        refine Exs.cons (R' := fun o q => o = .next ∧ ∃ bs : List Bool, bs.length ≤ 5 ∧ q = ([("paths", .val (.list (P.map .str))), ("places", .val (.list (T.map fun t => .list (t.map nI)))), ("manager", .val (mgrD C.G.w)), ("taken", .val (.list ((takenK T).map nI))), ("j", .val (nI j)), ("test", .val (uriD hostL (P.getD j []))), ("i", .val (nI i)), ("told", .own (bs.map .bool)), ("due", .val (.list (bs.map .bool))), ("HTTPPasswordMgr", .glob (.ref 67)), ("range", .glob (.type "range")), ("len", .glob (.builtin "len")), ("zip", .glob (.type "zip"))] : Rho))
          (Ex.if_ (Tr.cast (Tr.compare (Ev.name (by walk_at "mem")) (Ev.cast (Ev.item_list (Ev.name (by walk_at "mem")) (Ev.name (by walk_at "mem")) j (.nat (by simp; lia)) (hgT j hj)) (by rw [nI_map])) Op2.inInts rfl) (by rw [nat_contains])) (fun hc => ?_) fun hc => .nil ⟨rfl, [(T.getD j []).contains i], by simp, rfl⟩) (fun ρ' h => ?_) (fun _ h => by cases h.1) (fun _ h => by cases h.1) (fun _ _ h => by cases h.1)
        · have e1 := ok.s1 i hit j hjt hc
          have e2 := ok.s2 i hit j hjt hc
          have e3 := ok.s3 i hit j hjt hc
          have e4 := ok.s4 i hit j hjt hc
          have hne : (((i : Nat) : Int) != ((j : Nat) : Int)) = decide (i ≠ j) := by rw [Bool.eq_iff_iff]; simp; lia
          refine Exs.seq (Ex.append (by walk_at "mem") (Ev.cast (Ev.meth (f := 64) (Ev.name (by walk_at "mem")) (.cons (.tuple (.cons (Ev.strC hostL) (.cons (.binop (Ev.item_list (Ev.name (by walk_at "mem")) (Ev.name (by walk_at "mem")) i (.nat (by simp; lia)) (hgP i hi)) (Ev.strC [47]) (Op2.addStr bi)) .nil)) (by rw [hs]; simp)) (.cons (Ev.name (by walk_at "mem")) .nil)) (suburi_ok hCG' hK' hostL (P.getD i [] ++ [47]) hostL (P.getD j []) bi2 hhost ci2 hhost (hch j hj)) (by lia) rfl (by rw [hK']; kernel_rfl) (by rw [hK']; kernel_rfl) (by rw [hK']; kernel_rfl) rfl (by decide) rfl) (by rw [e1])) (by walk_at "put") (by rw [hs]; simp) ?_ (by rw [hL]; rfl) rfl)
          refine Exs.seq (Ex.append (by walk_at "mem") (Ev.cast (Ev.meth (f := 64) (Ev.name (by walk_at "mem")) (.cons (.tuple (.cons (Ev.strC hostL) (.cons (.binop (Ev.item_list (Ev.name (by walk_at "mem")) (Ev.name (by walk_at "mem")) i (.nat (by simp; lia)) (hgP i hi)) (Ev.strC [47]) (Op2.addStr bi)) .nil)) (by rw [hs]; simp)) (.cons (.tuple (.cons (Ev.strC hostL) (.cons (.binop (Ev.item_list (Ev.name (by walk_at "mem")) (Ev.name (by walk_at "mem")) j (.nat (by simp; lia)) (hgP j hj)) (Ev.strC [47]) (Op2.addStr bj)) .nil)) (by rw [hs]; simp)) .nil)) (suburi_ok hCG' hK' hostL (P.getD i [] ++ [47]) hostL (P.getD j [] ++ [47]) bi2 hhost ci2 hhost cj2) (by lia) rfl (by rw [hK']; kernel_rfl) (by rw [hK']; kernel_rfl) (by rw [hK']; kernel_rfl) rfl (by decide) rfl) (by rw [e2])) (by walk_at "put") (by rw [hs]; simp) ?_ (by rw [hL]; rfl) rfl)
          refine Exs.seq (Ex.append (by walk_at "mem") (Ev.cast (Ev.meth (f := 64) (Ev.name (by walk_at "mem")) (.cons (.tuple (.cons (Ev.strC hosL) (.cons (Ev.item_list (Ev.name (by walk_at "mem")) (Ev.name (by walk_at "mem")) i (.nat (by simp; lia)) (hgP i hi)) .nil)) (by rw [hs]; simp)) (.cons (Ev.name (by walk_at "mem")) .nil)) (suburi_ok hCG' hK' hosL (P.getD i []) hostL (P.getD j []) (by lia) hhos (hch i hi) hhost (hch j hj)) (by lia) rfl (by rw [hK']; kernel_rfl) (by rw [hK']; kernel_rfl) (by rw [hK']; kernel_rfl) rfl (by decide) rfl) (by rw [e3])) (by walk_at "put") (by rw [hs]; simp) ?_ (by rw [hL]; rfl) rfl)
          refine Exs.seq (Ex.append (by walk_at "mem") (Ev.cast (Ev.meth (f := 64) (Ev.name (by walk_at "mem")) (.cons (.tuple (.cons (Ev.strC hostL) (.cons (Ev.item_list (Ev.name (by walk_at "mem")) (Ev.name (by walk_at "mem")) i (.nat (by simp; lia)) (hgP i hi)) .nil)) (by rw [hs]; simp)) (.cons (.tuple (.cons (Ev.strC hostL) (.cons (.binop (Ev.strC [47, 98]) (Ev.item_list (Ev.name (by walk_at "mem")) (Ev.name (by walk_at "mem")) j (.nat (by simp; lia)) (hgP j hj)) (Op2.addStr bjb)) .nil)) (by rw [hs]; simp)) .nil)) (suburi_ok hCG' hK' hostL (P.getD i []) hostL ([47, 98] ++ P.getD j []) (by lia) hhost (hch i hi) hhost cjb) (by lia) rfl (by rw [hK']; kernel_rfl) (by rw [hK']; kernel_rfl) (by rw [hK']; kernel_rfl) rfl (by decide) rfl) (by rw [e4])) (by walk_at "put") (by rw [hs]; simp) ?_ (by rw [hL]; rfl) rfl)
          refine Exs.last (Ex.assign (d := .list ([(T.getD j []).contains i, decide (i ≠ j), true, false, false].map .bool)) (.binop (Ev.name (by walk_at "mem")) (EvO.list (.cons (Ev.cast (Ev.compare (Ev.name (by walk_at "mem")) (Ev.name (by walk_at "mem")) Op2.neInt rfl) (by rw [hne])) (.cons .bool (.cons .bool (.cons .bool .nil)))) (by rw [hs]; simp)).ev (Op2.addList ?_)) (by walk_at "put") hw ⟨rfl, [(T.getD j []).contains i, decide (i ≠ j), true, false, false], by simp, rfl⟩)
          rw [hs]; simp only [List.length_cons, List.length_nil]; decide
        · obtain ⟨_, bs, hbs, rfl⟩ := h
          have hfin : (!PyData.eqv (toP (.list (bs.map fun _ => D.bool true))) (toP (.list (bs.map fun _ => D.bool true)))) = false := by
            rw [SeqAt.eqv_refl _ (lay_of (flat_bools bs)).1]; rfl
          refine ExT.freeze (x := "told") (by walk_at "mem") (by walk_at "put") (Exs.last (Ex.if_ (Tr.cast (Tr.compare (Ev.cast (EvO.comp (cl := []) (ls := ["one", "other"]) (frees := []) (items := zipD (bs.map .bool) (bs.map .bool)) (f := isF) ?_ (EvI.zip (by walk_at "mem") (Ev.name (by walk_at "mem")) (Ev.name (by walk_at "mem"))) ?_ ?_).ev (by rw [zip_self])) (Ev.cast (EvO.comp (cl := []) (ls := ["one"]) (frees := []) (items := bs.map .bool) (f := fun _ => some (D.bool true)) ?_ (EvI.list (Ev.name (by walk_at "mem"))) ?_ ?_).ev (by rw [const_map])) (Op2.neD (n := 1) (m := 1) (flat_bools bs) (flat_bools bs)) rfl) hfin) (fun hc => absurd hc (by decide)) fun _ => .nil ⟨.val _, .val _, .val _, ⟨rfl, rfl, rfl⟩, rfl⟩))
          · exact ⟨by rw [hL]; rfl, by decide, rfl, by decide, by decide, (fun p hp => by cases hp), (fun x c h => by cases h), by decide⟩
          · simp [zipD]; lia
          · intro C' hG' hr' hl' d hd
            obtain ⟨⟨x, y⟩, hxy, rfl⟩ := List.mem_map.mp hd
            obtain ⟨hx, hy⟩ := List.of_mem_zip hxy
            obtain ⟨a, _, rfl⟩ := List.mem_map.mp hx
            obtain ⟨b, _, rfl⟩ := List.mem_map.mp hy
            show As C' ([("one", .unset), ("other", .unset)] : Rho) _ _ _
            exact As.tup (As.name (by walk_at "put") (.inr (hl' _ (by simp))) (As.name (by walk_at "put") (.inr (hl' _ (by simp))) ⟨_, rfl, .compare (Ev.name (by walk_at "mem")) (Ev.name (by walk_at "mem")) Op2.isBool rfl⟩)) rfl rfl
          · exact ⟨by rw [hL]; rfl, by decide, rfl, by decide, by decide, (fun p hp => by cases hp), (fun x c h => by cases h), by decide⟩
          · simp; lia
          · intro C' hG' hr' hl' d hd
            show As C' ([("one", .unset)] : Rho) _ _ _
            exact As.name (by walk_at "put") (.inr (hl' _ (by simp))) ⟨_, rfl, .bool⟩
      · rintro ρ ⟨e3, e4, e5, ⟨g3, g4, g5⟩, rfl⟩
        exact ⟨.val _, .val _, e3, e4, e5, ⟨rfl, rfl, g3, g4, g5⟩, rfl⟩
    · exact ⟨.unset, .unset, .unset, .unset, .unset, ⟨rfl, rfl, rfl, rfl, rfl⟩, rfl⟩
end Mine
namespace Mine
noncomputable def strOf : D → Option (List Nat)
  | .str l => some l
  | _ => none
noncomputable def pathF : D → Option D
  | .tup [.list ns, _, _] => some (.str ([47] ++ joinL [47] (ns.filterMap strOf)))
  | _ => none
noncomputable def tookF : D → Option D
  | .tup [_, _, .list ts] => some (.list ts)
  | _ => none
theorem strOf_words (ks : List Nat) : (ks.map fun k => D.str (word k)).filterMap strOf = ks.map word := by
  rw [List.filterMap_map]; exact filterMap_is fun _ _ => rfl
theorem pathF_rows (rows : List Row) : (rows.map rowD).filterMap pathF = (rows.map fun r => [47] ++ joinL [47] (r.1.map word)).map .str := by
  rw [List.filterMap_map, List.map_map]
  refine filterMap_is fun r _ => ?_
  simp only [Function.comp_apply, rowD, pathF, strOf_words]
theorem tookF_rows (rows : List Row) : (rows.map rowD).filterMap tookF = (rows.map (·.2.2)).map fun t => .list (t.map nI) := by
  rw [List.filterMap_map, List.map_map]
  exact filterMap_is fun r _ => rfl

structure LawFacts (rows : List Row) : Prop where
  ok : RowsOk rows
  ws : ∀ r ∈ rows, WsL r.2.1
  nodup : (rows.map (fun r => r.1.getLastD 0)).Nodup
  chain : Chain [] rows
  deep : ∀ r ∈ rows, 0 < r.1.length
  names : ∀ r ∈ rows, r.1.length ≤ 10 ∧ ∀ k ∈ r.1, k ≤ 100
  lines : (splitC 10 (textF 10 rows)).length ≤ 1000
  small : ∀ l ∈ (splitC 10 (textF 10 rows)).drop 1, l.length ≤ 16000000 ∧ Small (wsOf l)
  places : placesL ((splitC 10 (textF 10 rows)).drop 1) = rows.map (·.2.2)
  cov : CovOk (rows.map fun r => pathT r.1) (rows.map (·.2.2))

theorem joinL_path : ∀ (ks : List Nat), ks ≠ [] → [47] ++ joinL [47] (ks.map word) = pathT ks
  | [], h => absurd rfl h
  | [k], _ => by simp [joinL, pathT]
  | k :: k' :: r, _ => by
    have ih := joinL_path (k' :: r) (by simp)
    show [47] ++ (word k ++ [47] ++ joinL [47] ((k' :: r).map word)) = _
    rw [show [47] ++ (word k ++ [47] ++ joinL [47] ((k' :: r).map word)) = (47 :: word k) ++ ([47] ++ joinL [47] ((k' :: r).map word)) by simp, ih]
    simp [pathT]
theorem flat_strs {ls : List (List Nat)} (h : ∀ l ∈ ls, ∀ c ∈ l, c < 0x110000) : flat 1 (.list (ls.map .str)) = true := by
  rw [flat, flats_all, List.all_eq_true]
  intro d hd
  obtain ⟨l, hl, rfl⟩ := List.mem_map.mp hd
  exact List.all_eq_true.mpr fun c hc => decide_eq_true (h l hl c hc)
theorem flat_intss (ls : List (List Nat)) : flat 2 (.list (ls.map fun t => .list (t.map nI))) = true := by
  rw [flat, flats_all, List.all_eq_true]
  intro d hd
  obtain ⟨l, hl, rfl⟩ := List.mem_map.mp hd
  rw [flat, flats_all, List.all_eq_true]
  intro d hd
  obtain ⟨l, hl, rfl⟩ := List.mem_map.mp hd
  rfl
theorem refl_ne {n : Nat} {d : D} (h : flat n d = true) : (!PyData.eqv (toP d) (toP d)) = false := by rw [SeqAt.eqv_refl _ (lay_of h).1]; rfl

theorem law_ok {G : Glo} (hG : GloOk G) (hK : G.K = heapK G.w.params) (script : List Int) (h0 : script.length ≤ 1000) (F : LawFacts (planL script).2) :
    FnOk G 13 200 [.list (script.map .int)] (.bool true) := by
  refine FnOk.def ["script"] ["rows", "text", "paths", "places"] [("_law_plan", .ref 173), ("_law_text", .ref 178), ("_law_paths", .ref 185), ("_law_places", .ref 190), ("_law_covers", .ref 195)]
    (ρ₀ := [("script", .val (.list (script.map .int))), ("rows", .unset), ("text", .unset), ("paths", .unset), ("places", .unset), ("_law_plan", .glob (.ref 173)), ("_law_text", .glob (.ref 178)), ("_law_paths", .glob (.ref 185)), ("_law_places", .glob (.ref 190)), ("_law_covers", .glob (.ref 195))]) hG (by rw [hK]; rfl) rfl (by rw [hK]; kernel_rfl) rfl rfl rfl rfl rfl rfl ?_ ?_ rfl rfl rfl rfl (by decide +kernel) (by decide +kernel) (by decide +kernel) ?_
  · rw [hK]; exact ⟨.inl (by kernel_rfl), .inl (by kernel_rfl), .inl (by kernel_rfl), .inl (by kernel_rfl), .inl (by kernel_rfl), trivial⟩
  · intro vs hv
    match vs, hv with
    | [a], _ => rfl
  · intro C hCG hr hw henv
    have hs := sizeLine_is
    obtain ⟨L, hL⟩ := henv
    have hCG' : GloOk C.G := hCG ▸ hG
    have hK' : C.G.K = heapK C.G.w.params := by rw [hCG]; exact hK
    have hplan := plan_ok hCG' hK' script h0
    generalize (planL script).2 = rows at *
    have htext := text_ok hCG' hK' 10 rows F.ok.1 F.ok
    have hpaths := paths_ok hCG' hK' 10 rows [] [] F.ok.1 F.ok F.ws F.nodup F.chain F.deep (by have := F.ok.1; simp; lia)
    have hexp : expP [] [] rows = rows.map fun r => pathT r.1 := by
      unfold expP; apply List.map_congr_left; intro r _; simp
    rw [hexp] at hpaths
    have hplaces := places_ok hCG' hK' ((splitC 10 (textF 10 rows)).drop 1) (by have := F.lines; simp; lia) (fun l hl => (F.small l hl).1) (fun l hl => (F.small l hl).2)
    rw [F.places] at hplaces
    have hcov := covers_ok hCG' hK' _ _ F.cov
    have htl := textF_len 10 rows
    have htp := F.ok.pow
    have hl10 := F.ok.1
    refine Exs.seq (Ex.assign (Ev.fn (by walk_at "mem") (.cons (Ev.name (by walk_at "mem")) .nil) hplan (by lia)) (by walk_at "put") hw ?_)
    refine Exs.seq (Ex.assign (Ev.fn (by walk_at "mem") (.cons (Ev.name (by walk_at "mem")) .nil) htext (by lia)) (by walk_at "put") hw ?_)
    refine Exs.seq (Ex.assign (Ev.fn (by walk_at "mem") (.cons (Ev.name (by walk_at "mem")) (.cons (Ev.strC []) .nil)) hpaths (by lia)) (by walk_at "put") hw ?_)
    have hfl1 : flat 1 (.list ((rows.map fun r => pathT r.1).map .str)) = true := flat_strs F.cov.chars
    refine Exs.seq (Ex.if_ (Tr.cast (Tr.compare (Ev.name (by walk_at "mem")) (Ev.cast (EvO.comp (cl := []) (ls := ["names", "lead", "taken"]) (frees := []) (items := rows.map rowD) (f := pathF) ?_ (EvI.list (Ev.name (by walk_at "mem"))) ?_ ?_).ev ?_) (Op2.neD (n := 1) (m := 1) hfl1 hfl1) rfl) (refl_ne hfl1)) (fun hc => absurd hc (by decide)) fun _ => .nil ?_)
    · exact ⟨by rw [hL]; rfl, by decide, rfl, by decide, by decide, (fun p hp => by cases hp), (fun x c h => by cases h), by decide⟩
    · simp; lia
    · intro C' hG' hr' hl' d hd
      obtain ⟨r, hr, rfl⟩ := List.mem_map.mp hd
      obtain ⟨n1, n2⟩ := F.names r hr
      have hsum : ((r.1.map word).map (·.length)).sum ≤ (r.1.map word).length * 101 := by
        have := sum_le ((r.1.map word).map (·.length)) 101 (fun x hx => by
          obtain ⟨w, hw, rfl⟩ := List.mem_map.mp hx
          obtain ⟨k, hk, rfl⟩ := List.mem_map.mp hw
          have := n2 k hk
          simp [word]; lia)
        simpa using this
      have hjl := joinL_len [47] (r.1.map word)
      simp only [List.length_map, List.length_singleton, Nat.mul_one] at hsum hjl
      show As C' ([("names", .unset), ("lead", .unset), ("taken", .unset)] : Rho) _ (.tup [.list (r.1.map fun k => .str (word k)), .str r.2.1, .list (r.2.2.map nI)]) _
      refine As.tup (As.name (by walk_at "put") (.inr (hl' _ (by simp))) (As.name (by walk_at "put") (.inr (hl' _ (by simp))) (As.name (by walk_at "put") (.inr (hl' _ (by simp))) ⟨.str ([47] ++ joinL [47] (r.1.map word)), by simp only [rowD, pathF, strOf_words], .binop (Ev.strC [47]) (Ev.join (Ev.strC [47]) (Ev.cast (Ev.name (by walk_at "mem")) (by rw [List.map_map]; rfl)) ?_ rfl rfl) (Op2.addStr ?_)⟩))) rfl rfl
      · simp only [List.length_map, List.length_singleton, Nat.mul_one]; lia
      · simp only [List.length_append, List.length_singleton]; lia
    · rw [pathF_rows]
      congr 2
      apply List.map_congr_left
      intro r hr
      exact joinL_path r.1 (List.length_pos_iff.mp (F.deep r hr))
    refine Exs.seq (Ex.assign (Ev.fn (by walk_at "mem") (.cons (Ev.cast (EvO.slice (Ev.split (Ev.name (by walk_at "mem")) (Ev.strC [10]) (by simp) (split_one (textF 10 rows) 10 (by decide)) (by lia) rfl rfl) (.some .int) .none).ev ?_) .nil) hplaces (by lia)) (by walk_at "put") hw ?_)
    · rw [show (1 : Int) = ((1 : Nat) : Int) by rfl, cutL_from, List.map_drop]
    have hfl2 := flat_intss (rows.map (·.2.2))
    refine Exs.seq (Ex.if_ (Tr.cast (Tr.compare (Ev.name (by walk_at "mem")) (Ev.cast (EvO.comp (cl := []) (ls := ["names", "lead", "taken"]) (frees := []) (items := rows.map rowD) (f := tookF) ?_ (EvI.list (Ev.name (by walk_at "mem"))) ?_ ?_).ev (by rw [tookF_rows])) (Op2.neD (n := 2) (m := 2) hfl2 hfl2) rfl) (refl_ne hfl2)) (fun hc => absurd hc (by decide)) fun _ => .nil ?_)
    · exact ⟨by rw [hL]; rfl, by decide, rfl, by decide, by decide, (fun p hp => by cases hp), (fun x c h => by cases h), by decide⟩
    · simp; lia
    · intro C' hG' hr' hl' d hd
      obtain ⟨r, hr, rfl⟩ := List.mem_map.mp hd
      show As C' ([("names", .unset), ("lead", .unset), ("taken", .unset)] : Rho) _ (.tup [.list (r.1.map fun k => .str (word k)), .str r.2.1, .list (r.2.2.map nI)]) _
      exact As.tup (As.name (by walk_at "put") (.inr (hl' _ (by simp))) (As.name (by walk_at "put") (.inr (hl' _ (by simp))) (As.name (by walk_at "put") (.inr (hl' _ (by simp))) ⟨_, rfl, Ev.name (by walk_at "mem")⟩))) rfl rfl
    exact Exs.last (Ex.ret (Ev.fn (by walk_at "mem") (.cons (Ev.name (by walk_at "mem")) (.cons (Ev.name (by walk_at "mem")) .nil)) hcov (by lia)) rfl)
end Mine
namespace Mine
inductive Laid : List Row → List Nat → Prop
  | nil : Laid [] []
  | cons {r : Row} {rows : List Row} {x t : List Nat} : 10 ∉ x → Laid rows t → Laid (r :: rows) ((10 :: (r.2.1 ++ word (r.1.getLastD 0) ++ x)) ++ t)
theorem Laid.append {a b : List Row} {s t : List Nat} (h : Laid a s) (h' : Laid b t) : Laid (a ++ b) (s ++ t) := by
  induction h with
  | nil => exact h'
  | cons hx _ ih => rw [List.append_assoc]; exact .cons hx ih
theorem Laid.more {a : List Row} {t y : List Nat} (h : Laid a t) (ha : a ≠ []) (hy : 10 ∉ y) : Laid a (t ++ y) := by
  induction h with
  | nil => exact absurd rfl ha
  | @cons r rows x t hx h ih =>
    cases rows with
    | nil =>
      cases h
      have := Laid.cons (r := r) (x := x ++ y) (by rw [List.mem_append]; exact fun q => q.elim hx hy) .nil
      simpa using this
    | cons r' rows =>
      have := Laid.cons (r := r) hx (ih (by simp))
      simpa using this
theorem esc_append (a b : List Nat) : esc (a ++ b) = esc a ++ esc b := by simp [esc]
theorem esc_plain : ∀ {l : List Nat}, (∀ c ∈ l, c ≠ 92 ∧ c ≠ 34) → esc l = l
  | [], _ => rfl
  | c :: r, h => by
    have h1 := h c (.head _)
    have ih := esc_plain (l := r) fun x hx => h x (.tail _ hx)
    have : esc (c :: r) = (if c = 92 ∨ c = 34 then [92, c] else [c]) ++ esc r := by simp [esc]
    rw [this, if_neg (fun q => q.elim h1.1 h1.2), ih]; rfl
theorem esc_no10 {l : List Nat} (h : 10 ∉ l) : 10 ∉ esc l := by
  induction l with
  | nil => simp [esc]
  | cons c r ih =>
    have : esc (c :: r) = (if c = 92 ∨ c = 34 then [92, c] else [c]) ++ esc r := by simp [esc]
    rw [this, List.mem_append]
    rintro (q | q)
    · split at q
      · simp at q; exact h (by simp [q])
      · simp at q; exact h (by simp [q])
    · exact ih (fun q => h (.tail _ q)) q
theorem word_noq (k : Nat) : ∀ c ∈ word k, c ≠ 92 ∧ c ≠ 34 := fun c hc => by have := (List.mem_replicate.mp hc).2; subst this; decide
theorem ws_noq {l : List Nat} (h : WsL l) : ∀ c ∈ l, c ≠ 92 ∧ c ≠ 34 := fun c hc => by rcases h c hc with rfl | rfl <;> decide
theorem ws_no10 {l : List Nat} (h : WsL l) : 10 ∉ l := fun q => by rcases h 10 q with h | h <;> cases h
theorem word_no10 (k : Nat) : 10 ∉ word k := fun q => by have := (List.mem_replicate.mp q).2; cases this
theorem Laid.esc {a : List Row} {t : List Nat} (h : Laid a t) (hw : ∀ r ∈ a, WsL r.2.1) : Laid a (Mine.esc t) := by
  induction h with
  | nil => exact .nil
  | @cons r rows x t hx _ ih =>
    have e : Mine.esc ((10 :: (r.2.1 ++ word (r.1.getLastD 0) ++ x)) ++ t) = (10 :: (r.2.1 ++ word (r.1.getLastD 0) ++ Mine.esc x)) ++ Mine.esc t := by
      rw [show ((10 :: (r.2.1 ++ word (r.1.getLastD 0) ++ x)) ++ t) = [10] ++ r.2.1 ++ word (r.1.getLastD 0) ++ x ++ t by simp, esc_append, esc_append, esc_append, esc_append, esc_plain (ws_noq (hw r (.head _))), esc_plain (word_noq _), esc_plain (l := [10]) (by decide)]
      simp
    rw [e]
    exact .cons (esc_no10 hx) (ih fun r hr => hw r (.tail _ hr))

theorem Laid.item {r : Row} {inner : List Row} {t : List Nat} (h : Laid inner t) (hr : WsL r.2.1) (hw : ∀ r ∈ inner, WsL r.2.1) : Laid (r :: inner) (itemT r t) := by
  have h1 := Laid.cons (r := r) (x := [61, 34]) (by decide) (h.esc hw)
  have h2 := h1.more (y := [34] ++ r.2.1) (by simp) (by rw [List.mem_append]; rintro (q | q); simp at q; exact ws_no10 hr q)
  have e : itemT r t = (10 :: (r.2.1 ++ word (r.1.getLastD 0) ++ [61, 34])) ++ Mine.esc t ++ ([34] ++ r.2.1) := by simp [itemT]
  rw [e]; exact h2

theorem laid_items {f : List Row → List Nat} {base : List Nat} : ∀ (k : Nat) (rows : List Row), rows.length ≤ k → Chain base rows → (∀ r ∈ rows, base.length < r.1.length) → (∀ r ∈ rows, WsL r.2.1) →
    (∀ (b : List Nat) (x : List Row), x.length < rows.length → Chain b x → (∀ r ∈ x, b.length < r.1.length) → (∀ r ∈ x, WsL r.2.1) → Laid x (f x)) → Laid rows (joinL [44] (itemsOf f (base.length + 1) rows))
  | 0, rows, h, _, _, _, _ => by
    have : rows = [] := List.length_eq_zero_iff.mp (by lia)
    subst this; exact .nil
  | k + 1, [], _, _, _, _, _ => .nil
  | k + 1, r :: rest, h, hc, hl, hw, hf => by
    obtain ⟨e1, e2⟩ := first_is hc.1 hc.2.1 (hl r (.head _))
    rw [itemsOf_cons e2]
    have hsplit := List.takeWhile_append_dropWhile (p := deeper (base.length + 1)) (l := rest)
    generalize hin : rest.takeWhile (deeper (base.length + 1)) = inner at *
    generalize hsu : rest.dropWhile (deeper (base.length + 1)) = suf at *
    have hcr : Chain r.1 (inner ++ suf) := hsplit ▸ hc.2.2
    have hdeep : ∀ x ∈ inner, base.length + 1 < x.1.length := by rw [← hin]; exact takeWhile_deeper
    have hbr : base <+: r.1 := by rw [e1]; exact List.prefix_append _ _
    have hlr : ∀ x ∈ inner ++ suf, base.length < x.1.length := fun x hx => hl x (.tail _ (hsplit ▸ hx))
    have hwr : ∀ x ∈ inner ++ suf, WsL x.2.1 := fun x hx => hw x (.tail _ (hsplit ▸ hx))
    have hlens := congrArg List.length hsplit
    simp at hlens h
    have hsuf : Chain base suf := by
      cases suf with
      | nil => trivial
      | cons s0 b =>
        have hs0 : ¬ base.length + 1 < s0.1.length := by
          have := List.head?_dropWhile_not (deeper (base.length + 1)) rest
          rw [hsu] at this
          simpa [deeper] using this
        have := hlr s0 (by simp)
        exact Chain.suffix (a := inner) hcr hbr hlr (by lia)
    have hinner := hf r.1 inner (by simp; lia) hcr.left (fun x hx => by have := hdeep x hx; lia) (fun x hx => hwr x (List.mem_append_left _ hx))
    have hitem := Laid.item (r := r) hinner (hw r (.head _)) (fun x hx => hwr x (List.mem_append_left _ hx))
    have ih := laid_items (f := f) (base := base) k suf (by lia) hsuf (fun x hx => hlr x (List.mem_append_right _ hx)) (fun x hx => hwr x (List.mem_append_right _ hx)) (fun b x hx => hf b x (by simp; lia))
    rw [← hsplit]
    cases hq : itemsOf f (base.length + 1) suf with
    | nil =>
      rw [hq] at ih
      have : joinL [44] [itemT r (f inner)] = itemT r (f inner) ++ joinL [44] [] := by simp [joinL]
      rw [this]
      have := hitem.append ih
      simpa using this
    | cons y ys =>
      rw [hq] at ih
      have e : joinL [44] (itemT r (f inner) :: y :: ys) = (itemT r (f inner) ++ [44]) ++ joinL [44] (y :: ys) := rfl
      rw [e]
      have := (hitem.more (y := [44]) (by simp) (by decide)).append ih
      simpa using this

theorem laid_text : ∀ (n : Nat) (rows : List Row) (base : List Nat), rows.length ≤ n → Chain base rows → (∀ r ∈ rows, base.length < r.1.length) → (∀ r ∈ rows, WsL r.2.1) → Laid rows (textF n rows)
  | 0, rows, base, h, _, _, _ => by
    have : rows = [] := List.length_eq_zero_iff.mp (by lia)
    subst this; exact .nil
  | n + 1, rows, base, h, hc, hl, hw => by
    have htext : textF (n + 1) rows = joinL [44] (itemsOf (textF n) (base.length + 1) rows) := by
      rw [textF]
      cases rows with
      | nil => rfl
      | cons r rest =>
        have : headLen (r :: rest) = base.length + 1 := (first_is hc.1 hc.2.1 (hl r (.head _))).2
        rw [this]
    rw [htext]
    exact laid_items rows.length rows (Nat.le_refl _) hc hl hw fun b x hx hcx hlx hwx => laid_text n x b (by lia) hcx hlx hwx

/-! the lines -/
inductive LineUp : List Row → List (List Nat) → Prop
  | nil : LineUp [] []
  | cons {r : Row} {rows : List Row} {x : List Nat} {ls : List (List Nat)} : 10 ∉ x → LineUp rows ls → LineUp (r :: rows) ((r.2.1 ++ word (r.1.getLastD 0) ++ x) :: ls)
theorem splitC_none {c : Nat} : ∀ {a : List Nat}, c ∉ a → splitC c a = [a]
  | [], _ => rfl
  | x :: r, h => by
    rw [splitC, if_neg (fun q => h (by simp [q])), splitC_none fun q => h (.tail _ q)]
theorem splitC_cut {c : Nat} {b : List Nat} : ∀ {a : List Nat}, c ∉ a → splitC c (a ++ c :: b) = a :: splitC c b
  | [], _ => by rw [List.nil_append, splitC, if_pos rfl]
  | x :: r, h => by
    rw [List.cons_append, splitC, if_neg (fun q => h (by simp [q])), splitC_cut fun q => h (.tail _ q)]
theorem Laid.split {rows : List Row} {t : List Nat} (h : Laid rows t) (hw : ∀ r ∈ rows, WsL r.2.1) : ∀ a : List Nat, 10 ∉ a → ∃ ls, splitC 10 (a ++ t) = a :: ls ∧ LineUp rows ls := by
  induction h with
  | nil => intro a ha; exact ⟨[], by rw [List.append_nil, splitC_none ha], .nil⟩
  | @cons r rows x t hx _ ih =>
    intro a ha
    obtain ⟨ls, e, hl⟩ := ih (fun r hr => hw r (.tail _ hr)) (r.2.1 ++ word (r.1.getLastD 0) ++ x) (by
      rw [List.mem_append, List.mem_append]
      rintro ((q | q) | q)
      · exact ws_no10 (hw r (.head _)) q
      · exact word_no10 _ q
      · exact hx q)
    refine ⟨_, ?_, .cons hx hl⟩
    rw [List.cons_append, splitC_cut ha, e]
theorem lines_of {rows : List Row} (hn : rows.length ≤ 10) (hc : Chain [] rows) (hl : ∀ r ∈ rows, 0 < r.1.length) (hw : ∀ r ∈ rows, WsL r.2.1) : ∃ ls, splitC 10 (textF 10 rows) = [] :: ls ∧ LineUp rows ls := by
  have := (laid_text 10 rows [] hn hc hl hw).split hw [] (by simp)
  simpa using this
theorem LineUp.length {rows : List Row} {ls : List (List Nat)} (h : LineUp rows ls) : ls.length = rows.length := by
  induction h with
  | nil => rfl
  | cons _ _ ih => simp [ih]
theorem splitC_len (c : Nat) : ∀ (l : List Nat), ∀ x ∈ splitC c l, x.length ≤ l.length
  | [], x, hx => by simp [splitC] at hx; subst hx; simp
  | y :: r, x, hx => by
    rw [splitC] at hx
    split at hx
    · rcases List.mem_cons.mp hx with rfl | hx
      · simp
      · have := splitC_len c r x hx; simp; lia
    · split at hx
      · rename_i h t q
        rcases List.mem_cons.mp hx with rfl | hx
        · have := splitC_len c r h (by rw [q]; exact .head _)
          simp; lia
        · have := splitC_len c r x (by rw [q]; exact .tail _ hx); simp; lia
      · simp at hx; subst hx; simp

/-! the scan -/
theorem scan_lead : ∀ (l : List Nat) (x : W4) (y : List Nat), WsL l → scan x (l ++ 97 :: y) = scan x l
  | [], x, y, _ => by rw [List.nil_append, scan, scan, if_neg (by decide), if_neg (by decide)]
  | c :: r, x, y, h => by
    have hr : WsL r := fun z hz => h z (.tail _ hz)
    rcases h c (.head _) with rfl | rfl
    · rw [List.cons_append, scan, scan, if_pos rfl, if_pos rfl]; exact scan_lead r _ y hr
    · rw [List.cons_append, scan, scan, if_neg (by decide), if_pos rfl, if_neg (by decide), if_pos rfl]; exact scan_lead r _ y hr
theorem wsOf_line {r : Row} {x : List Nat} (h : WsL r.2.1) : wsOf (r.2.1 ++ word (r.1.getLastD 0) ++ x) = wsOf r.2.1 := by
  unfold wsOf
  have : r.2.1 ++ word (r.1.getLastD 0) ++ x = r.2.1 ++ 97 :: (List.replicate (r.1.getLastD 0) 97 ++ x) := by simp [word, List.replicate_succ]
  rw [this]; exact scan_lead _ _ _ h
end Mine
namespace Mine
noncomputable def hist (l : List Nat) : List Nat := l.foldl bump []
theorem bump_get (c : List Nat) (b i : Nat) : (bump c b).getD i 0 = c.getD i 0 + if i = b then 1 else 0 := by
  have hg : ∀ i, (grown c b).getD i 0 = c.getD i 0 := fun i => by
    unfold grown
    split
    · rw [List.getD_eq_getElem?_getD, List.getD_eq_getElem?_getD, List.getElem?_append]
      split
      · rfl
      · rename_i h
        rw [List.getElem?_eq_none (l := c) (by lia), List.getElem?_replicate]
        split <;> rfl
    · rfl
  have hl := grown_len c b
  unfold bump
  rw [List.getD_eq_getElem?_getD, List.getElem?_set]
  by_cases h : b = i
  · subst h
    rw [if_pos rfl, if_pos (by lia), if_pos rfl, hg]; rfl
  · rw [if_neg h, if_neg (fun q => h q.symm), ← hg i, List.getD_eq_getElem?_getD]; rfl
theorem foldl_bump_get : ∀ (l : List Nat) (c : List Nat) (i : Nat), (l.foldl bump c).getD i 0 = c.getD i 0 + l.count i
  | [], c, i => by simp
  | b :: r, c, i => by
    rw [List.foldl_cons, foldl_bump_get r (bump c b) i, bump_get, List.count_cons]
    by_cases h : i = b
    · subst h; simp; lia
    · have : (b == i) = false := by simpa using fun q => h q.symm
      rw [if_neg h, this]; simp
theorem foldl_bump_len : ∀ (l : List Nat) (c : List Nat), (∀ r ∈ l, r < (l.foldl bump c).length) ∧ c.length ≤ (l.foldl bump c).length ∧ ((l.foldl bump c).length = c.length ∨ ∃ r ∈ l, r + 1 = (l.foldl bump c).length)
  | [], c => ⟨fun r hr => (List.not_mem_nil hr).elim, Nat.le_refl _, Or.inl rfl⟩
  | b :: r, c => by
    obtain ⟨h1, h2, h3⟩ := foldl_bump_len r (bump c b)
    have hb := bump_len c b
    rw [List.foldl_cons]
    refine ⟨fun x hx => ?_, by lia, ?_⟩
    · rcases List.mem_cons.mp hx with rfl | hx
      · lia
      · exact h1 x hx
    · rcases h3 with h3 | ⟨x, hx, h3⟩
      · by_cases q : c.length ≤ b
        · exact .inr ⟨b, .head _, by lia⟩
        · exact .inl (by lia)
      · exact .inr ⟨x, .tail _ hx, h3⟩
theorem hist_get (l : List Nat) (i : Nat) : (hist l).getD i 0 = l.count i := by rw [hist, foldl_bump_get]; simp
theorem hist_lt {l : List Nat} {r : Nat} (h : r ∈ l) : r < (hist l).length := (foldl_bump_len l []).1 r h
theorem hist_top (l : List Nat) : (hist l).length = 0 ∨ ∃ r ∈ l, r + 1 = (hist l).length := (foldl_bump_len l []).2.2
theorem hist_perm {l l' : List Nat} (h : l.Perm l') : hist l = hist l' := by
  have hlen : ∀ {a b : List Nat}, a.Perm b → (hist a).length ≤ (hist b).length := fun {a b} p => by
    rcases hist_top a with q | ⟨r, hr, q⟩
    · lia
    · have := hist_lt (p.subset hr); lia
  have e : (hist l).length = (hist l').length := Nat.le_antisymm (hlen h) (hlen h.symm)
  apply List.ext_getElem e
  intro i h1 h2
  have a := hist_get l i
  have b := hist_get l' i
  rw [List.getD_eq_getElem?_getD, List.getElem?_eq_getElem h1] at a
  rw [List.getD_eq_getElem?_getD, List.getElem?_eq_getElem h2] at b
  simp only [Option.getD_some] at a b
  rw [a, b, h.count_eq]
theorem perm_of_hist {l l' : List Nat} (h : hist l = hist l') : l.Perm l' := List.perm_iff_count.mpr fun i => by rw [← hist_get, ← hist_get, h]

/-! the scan of a lead -/
theorem scan_spaces : ∀ (r : Nat) (x : W4) (rest : List Nat), scan x (List.replicate r 32 ++ rest) = scan ⟨x.cnt, x.b + r, x.n + r, x.nt⟩ rest
  | 0, x, rest => rfl
  | r + 1, x, rest => by
    rw [List.replicate_succ, List.cons_append, scan, if_pos rfl, scan_spaces r]
    congr 2 <;> simp only <;> lia
theorem scan_join : ∀ (cl : List Nat) (e : Nat) (x : W4), x.b = 0 → scan x (joinL [9] ((cl ++ [e]).map fun r => List.replicate r 32)) = ⟨cl.foldl bump x.cnt, e, x.n + (cl.sum + cl.length + e), x.nt + cl.length⟩
  | [], e, x, h => by
    show scan x (List.replicate e 32) = _
    have := scan_spaces e x []
    rw [List.append_nil] at this
    rw [this, scan, h]
    simp
  | c :: cl, e, x, h => by
    have hne : ∃ y ys, ((cl ++ [e]).map fun r => List.replicate r 32) = y :: ys := by cases cl <;> exact ⟨_, _, rfl⟩
    have ej : joinL [9] (((c :: cl) ++ [e]).map fun r => List.replicate r 32) = List.replicate c 32 ++ (9 :: joinL [9] ((cl ++ [e]).map fun r => List.replicate r 32)) := by
      rw [List.cons_append, List.map_cons]
      obtain ⟨y, ys, q⟩ := hne
      rw [q]
      simp [joinL]
    rw [ej, scan_spaces, scan, if_neg (by decide), if_pos rfl, scan_join cl e _ rfl, h]
    simp only [List.foldl_cons, List.sum_cons, List.length_cons, Nat.zero_add]
    congr 1 <;> lia
noncomputable def prof (runs : List Nat) : W4 := ⟨hist runs.dropLast, runs.getLastD 0, runs.sum + (runs.length - 1), runs.length - 1⟩
theorem split_last {runs : List Nat} (h : runs ≠ []) : runs = runs.dropLast ++ [runs.getLastD 0] ∧ runs.drop (runs.length - 1) = [runs.getLastD 0] := by
  have e : runs = runs.dropLast ++ [runs.getLastD 0] := by
    rw [List.getLastD_eq_getLast?, List.getLast?_eq_some_getLast h]
    exact (List.dropLast_concat_getLast h).symm
  refine ⟨e, ?_⟩
  have hl : runs.length - 1 = runs.dropLast.length := by simp
  rw [hl]
  conv => lhs; arg 2; rw [e]
  rw [List.drop_left]
theorem ws_lead (runs : List Nat) (place : Nat) (h : runs ≠ []) : wsOf (leadL runs place) = prof runs := by
  obtain ⟨e1, e2⟩ := split_last h
  unfold leadL wsOf
  rw [e2, scan_join _ _ _ rfl]
  have hsum : runs.sum = runs.dropLast.sum + runs.getLastD 0 := by
    conv => lhs; rw [e1]
    simp
  have hperm : (if place % 2 = 1 then runs.dropLast.reverse else runs.dropLast).Perm runs.dropLast := by
    split
    · exact List.reverse_perm _
    · exact .refl _
  have hh := hist_perm hperm
  have hl := hperm.length_eq
  have hs := hperm.sum_nat
  unfold prof
  rw [hl, hs]
  simp only [Nat.zero_add]
  rw [← hh]
  have : runs.dropLast.length = runs.length - 1 := by simp
  unfold hist
  congr 1 <;> lia
theorem lead_ws (runs : List Nat) (place : Nat) : WsL (leadL runs place) := by
  have key : ∀ ls : List (List Nat), (∀ l ∈ ls, WsL l) → WsL (joinL [9] ls) := by
    intro ls
    induction ls with
    | nil => intro _ c hc; cases hc
    | cons a r ih =>
      intro h
      cases r with
      | nil => exact h a (.head _)
      | cons b r =>
        intro c hc
        rw [joinL] at hc
        · rcases List.mem_append.mp hc with hc | hc
          · rcases List.mem_append.mp hc with hc | hc
            · exact h a (.head _) c hc
            · rw [List.mem_singleton] at hc; exact .inr hc
          · exact ih (fun l hl => h l (.tail _ hl)) c hc
        · intro q; cases q
  unfold leadL
  refine key _ fun l hl => ?_
  obtain ⟨r, _, rfl⟩ := List.mem_map.mp hl
  intro c hc
  exact .inl (List.mem_replicate.mp hc).2

/-! indents -/
noncomputable def sumR (f : Nat → Nat) : Nat → Nat
  | 0 => 0
  | n + 1 => sumR f n + f n
theorem sumR_add (f g : Nat → Nat) : ∀ n, sumR (fun i => f i + g i) n = sumR f n + sumR g n
  | 0 => rfl
  | n + 1 => by simp only [sumR, sumR_add f g n]; lia
theorem sumR_congr {f g : Nat → Nat} : ∀ n, (∀ i < n, f i = g i) → sumR f n = sumR g n
  | 0, _ => rfl
  | n + 1, h => by simp only [sumR]; rw [sumR_congr n fun i hi => h i (by lia), h n (by lia)]
theorem sumR_zero {f : Nat → Nat} : ∀ n, (∀ i < n, f i = 0) → sumR f n = 0
  | 0, _ => rfl
  | n + 1, h => by simp only [sumR]; rw [sumR_zero n fun i hi => h i (by lia), h n (by lia)]
theorem sumR_split (f : Nat → Nat) (m : Nat) : ∀ n, sumR f (m + n) = sumR f m + sumR (fun i => f (m + i)) n
  | 0 => rfl
  | n + 1 => by rw [← Nat.add_assoc]; simp only [sumR]; rw [sumR_split f m n]; lia
theorem sumR_one (g : Nat → Nat) (b : Nat) : ∀ n, sumR (fun i => if i = b then g i else 0) n = if b < n then g b else 0
  | 0 => rfl
  | n + 1 => by
    simp only [sumR]
    rw [sumR_one g b n]
    by_cases h : n = b
    · subst h; rw [if_neg (by lia), if_pos rfl, if_pos (by lia)]; lia
    · rw [if_neg h]
      by_cases h2 : b < n
      · rw [if_pos h2, if_pos (by lia)]; rfl
      · rw [if_neg h2, if_neg (by lia)]
theorem sumR_hist (g : Nat → Nat) : ∀ (l : List Nat) (n : Nat), (∀ r ∈ l, r < n) → sumR (fun i => g i * l.count i) n = (l.map g).sum
  | [], n, _ => by simp only [List.count_nil, Nat.mul_zero]; exact sumR_zero n fun _ _ => rfl
  | b :: r, n, h => by
    have ih := sumR_hist g r n fun x hx => h x (.tail _ hx)
    have e : sumR (fun i => g i * (b :: r).count i) n = sumR (fun i => g i * r.count i + if i = b then g i else 0) n := by
      refine sumR_congr n fun i _ => ?_
      rw [List.count_cons]
      by_cases q : i = b
      · subst q; simp [Nat.mul_add]
      · have : (b == i) = false := by simpa using fun q' => q q'.symm
        rw [this, if_neg q]; simp
    rw [e, sumR_add, ih, sumR_one, if_pos (h b (.head _))]
    simp; lia
theorem ilF_sumR (ts : Nat) (cnt : List Nat) : ∀ j, ilF ts cnt j = sumR (fun i => (ts + i) / ts * cnt.getD (ts + i) 0) j
  | 0 => rfl
  | j + 1 => by rw [ilF_succ, ilF_sumR ts cnt j]; rfl
theorem il_hist (ts : Nat) (l : List Nat) (hts : 1 ≤ ts) : ilF ts (hist l) ((hist l).length - ts) = (l.map (· / ts)).sum := by
  rw [ilF_sumR]
  rw [← sumR_hist (· / ts) l (ts + ((hist l).length - ts)) (fun r hr => by have := hist_lt hr; lia), sumR_split]
  have : sumR (fun i => i / ts * l.count i) ts = 0 := sumR_zero ts fun i hi => by rw [Nat.div_eq_of_lt hi, Nat.zero_mul]
  rw [this, Nat.zero_add]
  exact sumR_congr _ fun i _ => by rw [hist_get]
noncomputable def indR (ts : Nat) (cl : List Nat) (e : Nat) : Nat := e + ts * ((cl.map (· / ts)).sum + cl.length)
theorem prof_snoc (cl : List Nat) (e : Nat) : prof (cl ++ [e]) = ⟨hist cl, e, cl.sum + e + cl.length, cl.length⟩ := by
  unfold prof
  simp [List.getLastD_eq_getLast?]
theorem indent_snoc (ts : Nat) (cl : List Nat) (e : Nat) (h : 1 ≤ ts) : indentL ts (prof (cl ++ [e])) = indR ts cl e := by
  rw [prof_snoc]; unfold indentL indR; simp only; rw [il_hist ts cl h]
end Mine
namespace Mine
noncomputable def nOf (runs : List Nat) : Nat := runs.sum + (runs.length - 1)
theorem prof_n (runs : List Nat) : (prof runs).n = nOf runs := rfl
theorem nOf_snoc (cl : List Nat) (e : Nat) : nOf (cl ++ [e]) = cl.sum + e + cl.length := by simp [nOf]
theorem snoc_of {runs : List Nat} (h : runs ≠ []) : ∃ cl e, runs = cl ++ [e] := ⟨_, _, (split_last h).1⟩

theorem eq_prof {a b : List Nat} (h : eqL (prof a) (prof b) = true) (ha : a ≠ []) (hb : b ≠ []) : nOf a = nOf b ∧ a.length = b.length ∧ a.getLastD 0 = b.getLastD 0 := by
  obtain ⟨cl, e, rfl⟩ := snoc_of ha
  obtain ⟨cl', e', rfl⟩ := snoc_of hb
  rw [prof_snoc, prof_snoc] at h
  obtain ⟨h1, h2⟩ := of_decide_eq_true h
  simp only at h1 h2
  subst h2
  have p := perm_of_hist h1
  have p1 := p.sum_nat
  have p2 := p.length_eq
  refine ⟨by rw [nOf_snoc, nOf_snoc, p1, p2], by simp [p2], by simp [List.getLastD_eq_getLast?]⟩
theorem eq_self (a : List Nat) : eqL (prof a) (prof a) = true := decide_eq_true ⟨rfl, rfl⟩
theorem less_n {x y : W4} (h : y.n ≤ x.n) : lessL x y = false := by unfold lessL; rw [if_pos h]

theorem less_of {cl cl' : List Nat} {e e' : Nat} (h1 : cl.sum + e + cl.length < cl'.sum + e' + cl'.length) (h2 : cl.length ≤ cl'.length) (h3 : ∀ ts, 2 ≤ ts → indR ts cl e < indR ts cl' e') : lessL (prof (cl ++ [e])) (prof (cl' ++ [e'])) = true := by
  unfold lessL
  rw [if_neg (by rw [prof_snoc, prof_snoc]; simp only; lia)]
  split
  · rw [prof_snoc, prof_snoc]; exact decide_eq_true h2
  · rw [List.all_eq_true]
    intro j _
    rw [indent_snoc _ _ _ (by lia), indent_snoc _ _ _ (by lia)]
    exact decide_eq_true (h3 _ (by lia))
theorem less_beneath {a : List Nat} {d : Nat} (ha : a ≠ []) (hd : d < 5) : lessL (prof a) (prof (beneathL a d)) = true := by
  obtain ⟨cl, e, rfl⟩ := snoc_of ha
  have e1 : (cl ++ [e]).dropLast = cl := by simp
  have e2 : (cl ++ [e]).getLastD 0 = e := by simp [List.getLastD_eq_getLast?]
  have one : ∀ k, 1 ≤ k → lessL (prof (cl ++ [e])) (prof (cl ++ [e + k])) = true := fun k hk =>
    less_of (by lia) (Nat.le_refl _) fun ts hts => by unfold indR; lia
  have two : ∀ u v, lessL (prof (cl ++ [e])) (prof ((cl ++ [e + u]) ++ [v])) = true := fun u v => by
    refine less_of (by simp; lia) (by simp) fun ts hts => ?_
    unfold indR
    rw [List.map_append, List.sum_append, List.length_append]
    simp only [List.map_cons, List.map_nil, List.sum_cons, List.sum_nil, List.length_cons, List.length_nil]
    have hlt : e < ts * ((e + u) / ts + 1) := by
      have h1 := Nat.lt_mul_div_succ (e + u) (show 0 < ts by lia)
      lia
    have : ts * ((cl.map (· / ts)).sum + ((e + u) / ts + 0) + (cl.length + (0 + 1))) = ts * ((cl.map (· / ts)).sum + cl.length) + ts * ((e + u) / ts + 1) := by
      rw [← Nat.mul_add]; congr 1; lia
    rw [this]; lia
  unfold beneathL
  rw [e1, e2]
  match d, hd with
  | 0, _ => simpa [pieces] using one 1 (by decide)
  | 1, _ => simpa [pieces] using two 0 0
  | 2, _ => simpa [pieces] using two 1 0
  | 3, _ => simpa [pieces] using two 0 1
  | 4, _ => simpa [pieces] using one 2 (by decide)
theorem n_beneath {a : List Nat} {d : Nat} (ha : a ≠ []) (hd : d < 5) : nOf a < nOf (beneathL a d) := by
  obtain ⟨cl, e, rfl⟩ := snoc_of ha
  have e1 : (cl ++ [e]).dropLast = cl := by simp
  have e2 : (cl ++ [e]).getLastD 0 = e := by simp [List.getLastD_eq_getLast?]
  unfold beneathL
  rw [e1, e2]
  match d, hd with
  | 0, _ => simp [pieces, nOf] <;> lia
  | 1, _ => simp [pieces, nOf]
  | 2, _ => simp [pieces, nOf] <;> lia
  | 3, _ => simp [pieces, nOf] <;> lia
  | 4, _ => simp [pieces, nOf] <;> lia

theorem zero_divs {cl : List Nat} {ts : Nat} (h : ∀ r ∈ cl, r < ts) : (cl.map (· / ts)).sum = 0 := by
  induction cl with
  | nil => rfl
  | cons a r ih => rw [List.map_cons, List.sum_cons, ih fun x hx => h x (.tail _ hx), Nat.div_eq_of_lt (h a (.head _))]
theorem not_less_big {cl cl' : List Nat} {e e' M : Nat} (hM : M = max (longestL (prof (cl ++ [e]))) (longestL (prof (cl' ++ [e'])))) (h1 : 1 ≤ M) (hs : ¬ ((hist cl).length ≤ 1 ∧ (hist cl').length ≤ 1)) (h2 : e' + (M + 1) * cl'.length ≤ e + (M + 1) * cl.length) :
    lessL (prof (cl ++ [e])) (prof (cl' ++ [e'])) = false := by
  have b : ∀ (c : List Nat) (x : Nat), longestL (prof (c ++ [x])) ≤ M → ∀ r ∈ c, r < M + 1 := fun c x hx r hr => by
    have := hist_lt hr
    rw [prof_snoc] at hx
    unfold longestL at hx
    simp only at hx
    lia
  unfold lessL
  split
  · rfl
  · rw [if_neg (by rw [prof_snoc, prof_snoc]; exact hs), List.all_eq_false]
    refine ⟨M - 1, List.mem_range.mpr (by lia), ?_⟩
    rw [indent_snoc _ _ _ (by lia), indent_snoc _ _ _ (by lia), show 2 + (M - 1) = M + 1 by lia]
    unfold indR
    rw [zero_divs (b cl e (by lia)), zero_divs (b cl' e' (by lia))]
    simp only [Nat.zero_add]
    rw [decide_eq_false (by lia)]; decide

/-- what a spoilt lead is -/
theorem spoilt_cases {top : List Nat} (d : Nat) (hl : 2 ≤ top.length) :
    (∃ c1 f c2 e, top = (c1 ++ [f] ++ c2) ++ [e] ∧ spoiltL top d = (c1 ++ [f + 1] ++ c2) ++ [e]) ∨
    (∃ c0 f e, 0 < e ∧ top = (c0 ++ [f]) ++ [e] ∧ spoiltL top d = (c0 ++ [f + e]) ++ [0]) ∨
    (∃ c0 f, 0 < f ∧ top = (c0 ++ [f]) ++ [0] ∧ spoiltL top d = (c0 ++ [f - 1]) ++ [1]) ∨
    (∃ s, nOf top ≤ s ∧ s ≤ nOf top + 2 ∧ spoiltL top d = [] ++ [s]) := by
  have hne : top ≠ [] := by intro q; rw [q] at hl; simp at hl
  obtain ⟨cl, e, rfl⟩ := snoc_of hne
  have hcl : 1 ≤ cl.length := by simp at hl; lia
  have hcne : cl ≠ [] := by intro q; rw [q] at hcl; simp at hcl
  obtain ⟨c0, f, rfl⟩ := snoc_of hcne
  have g1 : ((c0 ++ [f]) ++ [e]).getD (((c0 ++ [f]) ++ [e]).length - 1) 0 = e := by simp [List.getD_eq_getElem?_getD]
  have g2 : ((c0 ++ [f]) ++ [e]).getD (((c0 ++ [f]) ++ [e]).length - 2) 0 = f := by simp [List.getD_eq_getElem?_getD]
  have g3 : ((c0 ++ [f]) ++ [e]).take (((c0 ++ [f]) ++ [e]).length - 2) = c0 := by simp
  unfold spoiltL
  by_cases h1 : d % 3 = 0
  · rw [if_pos h1]
    have hk : d % (((c0 ++ [f]) ++ [e]).length - 1) < (c0 ++ [f]).length := by
      have := Nat.mod_lt d (show ((c0 ++ [f]) ++ [e]).length - 1 > 0 by simp)
      simp at this ⊢; lia
    generalize d % (((c0 ++ [f]) ++ [e]).length - 1) = k at *
    generalize c0 ++ [f] = cl at *
    left
    refine ⟨cl.take k, cl[k], cl.drop (k + 1), e, ?_, ?_⟩
    · have : cl = cl.take k ++ [cl[k]] ++ cl.drop (k + 1) := by
        rw [List.append_assoc]
        conv => lhs; rw [← List.take_append_drop k cl]
        rw [List.drop_eq_getElem_cons hk]; rfl
      rw [← this]
    · rw [List.take_append_of_le_length (by lia), List.drop_append_of_le_length (by lia), List.getD_eq_getElem?_getD, List.getElem?_append_left hk, List.getElem?_eq_getElem hk]
      simp
  · rw [if_neg h1, g1, g2, g3]
    right
    by_cases h2 : d = 2 ∧ 0 < e
    · rw [if_pos h2]
      left
      exact ⟨c0, f, e, h2.2, rfl, by simp⟩
    · rw [if_neg h2]
      right
      by_cases h3 : d = 2 ∧ 0 < f
      · rw [if_pos h3]
        left
        have he : e = 0 := by
          by_cases q : e = 0
          · exact q
          · exact absurd ⟨h3.1, by lia⟩ h2
        subst he
        exact ⟨c0, f, h3.2, rfl, by simp⟩
      · rw [if_neg h3]
        right
        have : d % 3 < 3 := Nat.mod_lt _ (by decide)
        refine ⟨_, ?_, ?_, rfl⟩
        · unfold nOf; lia
        · simp only [nOf, List.length_append, List.length_singleton]; lia
theorem spoilt_len {top : List Nat} (d : Nat) (hl : 2 ≤ top.length) : spoiltL top d ≠ [] := by
  rcases spoilt_cases d hl with ⟨c1, f, c2, e, _, h⟩ | ⟨c0, f, e, _, _, h⟩ | ⟨c0, f, _, _, h⟩ | ⟨s, _, _, h⟩ <;> (rw [h]; simp)

theorem spoilt_not_less {top : List Nat} (d : Nat) (hl : 2 ≤ top.length) : lessL (prof top) (prof (spoiltL top d)) = false := by
  rcases spoilt_cases d hl with ⟨c1, f, c2, e, h0, h⟩ | ⟨c0, f, e, he, h0, h⟩ | ⟨c0, f, hf, h0, h⟩ | ⟨s, hs, _, h⟩
  · rw [h, h0]
    have hm : f + 1 < (hist (c1 ++ [f + 1] ++ c2)).length := hist_lt (by simp)
    refine not_less_big rfl ?_ (by lia) ?_
    · have : 1 ≤ longestL (prof ((c1 ++ [f + 1] ++ c2) ++ [e])) := by
        rw [prof_snoc]; unfold longestL; simp only; lia
      lia
    · simp
  · refine less_n ?_
    rw [prof_n, prof_n, h, nOf_snoc, h0, nOf_snoc]; simp; lia
  · refine less_n ?_
    rw [prof_n, prof_n, h, nOf_snoc, h0, nOf_snoc]; simp; lia
  · have hne : top ≠ [] := by intro q; rw [q] at hl; simp at hl
    obtain ⟨cl, e, rfl⟩ := snoc_of hne
    have hcl : 1 ≤ cl.length := by simp at hl; lia
    rw [h]
    have hM : s ≤ max (longestL (prof (cl ++ [e]))) (longestL (prof ([] ++ [s]))) := by
      have : s ≤ longestL (prof ([] ++ [s])) := by rw [prof_snoc]; unfold longestL; simp only; lia
      lia
    have hs1 : 1 ≤ s := by rw [nOf_snoc] at hs; lia
    by_cases hsm : (hist cl).length ≤ 1 ∧ (hist ([] : List Nat)).length ≤ 1
    · unfold lessL
      split
      · rfl
      · rw [if_pos (by rw [prof_snoc, prof_snoc]; exact hsm), prof_snoc, prof_snoc]
        exact decide_eq_false (by show ¬ cl.length ≤ 0; lia)
    · refine not_less_big rfl (by lia) hsm ?_
      have : (max (longestL (prof (cl ++ [e]))) (longestL (prof ([] ++ [s]))) + 1) * 1 ≤ (max (longestL (prof (cl ++ [e]))) (longestL (prof ([] ++ [s]))) + 1) * cl.length := Nat.mul_le_mul_left _ hcl
      simp only [List.length_nil, Nat.mul_zero, Nat.add_zero]
      lia
theorem spoilt_ne {top b : List Nat} (d : Nat) (hl : 2 ≤ top.length) (hb : 2 ≤ b.length) (hbt : nOf b < nOf top ∨ b = top) : eqL (prof b) (prof (spoiltL top d)) = false := by
  have hbne : b ≠ [] := by intro q; rw [q] at hb; simp at hb
  cases q : eqL (prof b) (prof (spoiltL top d)) with
  | false => rfl
  | true =>
    exfalso
    obtain ⟨e1, e2, e3⟩ := eq_prof q hbne (spoilt_len d hl)
    have hle : nOf b ≤ nOf top := by rcases hbt with h | h; lia; rw [h]; exact Nat.le_refl _
    rcases spoilt_cases d hl with ⟨c1, f, c2, e, h0, h⟩ | ⟨c0, f, e, he, h0, h⟩ | ⟨c0, f, hf, h0, h⟩ | ⟨s, hs, _, h⟩
    · rw [h, nOf_snoc] at e1
      rw [h0, nOf_snoc] at hle
      simp at e1 hle; lia
    · rcases hbt with hbt | hbt
      · rw [h, nOf_snoc] at e1
        rw [h0, nOf_snoc] at hbt
        simp at e1 hbt; lia
      · rw [hbt, h, h0] at e3
        simp [List.getLastD_eq_getLast?] at e3; lia
    · rcases hbt with hbt | hbt
      · rw [h, nOf_snoc] at e1
        rw [h0, nOf_snoc] at hbt
        simp at e1 hbt; lia
      · rw [hbt, h, h0] at e3
        simp [List.getLastD_eq_getLast?] at e3
    · rw [h] at e2
      simp at e2; lia
theorem spoilt_n {top : List Nat} (d : Nat) (hl : 2 ≤ top.length) : nOf (spoiltL top d) ≤ nOf top + 2 := by
  rcases spoilt_cases d hl with ⟨c1, f, c2, e, h0, h⟩ | ⟨c0, f, e, he, h0, h⟩ | ⟨c0, f, hf, h0, h⟩ | ⟨s, _, hs, h⟩
  · rw [h, nOf_snoc, h0, nOf_snoc]; simp; lia
  · rw [h, nOf_snoc, h0, nOf_snoc]; simp; lia
  · rw [h, nOf_snoc, h0, nOf_snoc]; simp; lia
  · rw [h, nOf_snoc]; simp; lia
end Mine
namespace Mine
noncomputable abbrev SW := List (W4 × Nat)
noncomputable def likeW (st : SW) (x : W4) : List Nat := (List.range st.length).filter fun k => (st[k]?.map fun p => eqL p.1 x).getD false
noncomputable def plNextW (st : SW) (place : Nat) (x : W4) : Option SW :=
  match st.getLast? with
  | none => some [(x, place)]
  | some p => if lessL p.1 x = true then some (st ++ [(x, place)]) else match likeW st x with
    | k :: _ => some (st.take k ++ [(x, place)])
    | [] => none
noncomputable def plStepW (y : SW × List (List Nat)) (x : W4) : SW × List (List Nat) :=
  match plNextW y.1 y.2.length x with
  | some st' => (st', y.2 ++ [st'.map (·.2)])
  | none => (y.1, y.2 ++ [[]])
noncomputable def toW (p : List Nat × Nat) : W4 × Nat := (wsOf p.1, p.2)
theorem like_W (st : Lines) (line : List Nat) : likeW (st.map toW) (wsOf line) = likeL st line := by
  unfold likeW likeL
  rw [List.length_map]
  apply List.filter_congr
  intro k hk
  have hk' : k < st.length := by simpa using hk
  rw [List.getElem?_map, List.getElem?_eq_getElem hk', List.getD_eq_getElem?_getD, List.getElem?_eq_getElem hk']
  rfl
theorem plNext_W (st : Lines) (place : Nat) (line : List Nat) : plNextW (st.map toW) place (wsOf line) = (plNext st place line).map (·.map toW) := by
  unfold plNextW plNext
  cases q : st.getLast? with
  | none =>
    have : st = [] := List.getLast?_eq_none_iff.mp q
    subst this
    rfl
  | some p =>
    have hne : st ≠ [] := by intro e; rw [e] at q; cases q
    have e1 : (st.map toW).getLast? = some (toW p) := by rw [List.getLast?_map, q]; rfl
    have e2 : st.getLastD ([], 0) = p := by rw [List.getLastD_eq_getLast?, q]; rfl
    rw [e1, e2]
    dsimp only
    by_cases h : lessL (wsOf p.1) (wsOf line) = true
    · rw [if_pos (show lessL (toW p).1 (wsOf line) = true from h), if_pos (.inr h)]; simp [toW]
    · rw [if_neg (show ¬ lessL (toW p).1 (wsOf line) = true from h), if_neg (fun q => q.elim hne h), like_W]
      cases likeL st line with
      | nil => rfl
      | cons k r => simp [toW, List.map_take]
theorem plStep_W (y : Lines × List (List Nat)) (line : List Nat) : plStepW (y.1.map toW, y.2) (wsOf line) = ((plStep y line).1.map toW, (plStep y line).2) := by
  unfold plStepW plStep
  dsimp only
  rw [plNext_W]
  cases plNext y.1 y.2.length line with
  | none => rfl
  | some st' => simp [toW, Function.comp_def]
theorem pl_fold : ∀ (ls : List (List Nat)) (y : Lines × List (List Nat)), (ls.map wsOf).foldl plStepW (y.1.map toW, y.2) = ((ls.foldl plStep y).1.map toW, (ls.foldl plStep y).2)
  | [], y => rfl
  | l :: ls, y => by rw [List.map_cons, List.foldl_cons, List.foldl_cons, plStep_W, pl_fold ls]
theorem placesL_W (ls : List (List Nat)) : placesL ls = ((ls.map wsOf).foldl plStepW ([], [])).2 := by
  have := pl_fold ls ([], [])
  unfold placesL
  rw [show (([] : SW), ([] : List (List Nat))) = ((([] : Lines), ([] : List (List Nat))).1.map toW, ([] : List (List Nat))) from rfl, this]

theorem LineUp.ws {rows : List Row} {ls : List (List Nat)} (h : LineUp rows ls) (hw : ∀ r ∈ rows, WsL r.2.1) : ls.map wsOf = rows.map fun r => wsOf r.2.1 := by
  induction h with
  | nil => rfl
  | @cons r rows x ls _ _ ih => rw [List.map_cons, List.map_cons, ih fun r hr => hw r (.tail _ hr), wsOf_line (hw r (.head _))]

theorem range_filter (t : Nat) : ∀ n, (List.range n).filter (fun k => decide (k = t)) = if t < n then [t] else []
  | 0 => rfl
  | n + 1 => by
    rw [List.range_succ, List.filter_append, range_filter t n]
    by_cases h : n = t
    · subst h; rw [if_neg (by lia), if_pos (by lia)]; simp
    · by_cases h2 : t < n
      · rw [if_pos h2, if_pos (by lia)]; simp [h]
      · rw [if_neg h2, if_neg (by lia)]; simp [h]

noncomputable def pW (p : List Nat × Nat) : W4 × Nat := (prof p.1, p.2)
theorem inc_lt {st : Stand} (h : st.Pairwise (fun p q => nOf p.1 < nOf q.1)) {i j : Nat} {p q : List Nat × Nat} (hi : st[i]? = some p) (hj : st[j]? = some q) (hij : i < j) : nOf p.1 < nOf q.1 := by
  obtain ⟨h1, e1⟩ := List.getElem?_eq_some_iff.mp hi
  obtain ⟨h2, e2⟩ := List.getElem?_eq_some_iff.mp hj
  have := List.pairwise_iff_getElem.mp h i j h1 h2 hij
  rw [e1, e2] at this; exact this
theorem like_one {st : Stand} (h : st.Pairwise (fun p q => nOf p.1 < nOf q.1)) (hl : ∀ p ∈ st, 2 ≤ p.1.length) {t : Nat} {p : List Nat × Nat} (ht : st[t]? = some p) : likeW (st.map pW) (prof p.1) = [t] := by
  have htl := (List.getElem?_eq_some_iff.mp ht).1
  unfold likeW
  rw [List.length_map]
  have : ((List.range st.length).filter fun k => ((st.map pW)[k]?.map fun p' => eqL p'.1 (prof p.1)).getD false) = (List.range st.length).filter fun k => decide (k = t) := by
    apply List.filter_congr
    intro k hk
    have hk' : k < st.length := by simpa using hk
    have hks : st[k]? = some st[k] := List.getElem?_eq_getElem hk'
    rw [List.getElem?_map, hks]
    show eqL (prof st[k].1) (prof p.1) = _
    by_cases q : k = t
    · subst q
      rw [ht] at hks
      rw [← Option.some.inj hks, eq_self]; simp
    · rw [decide_eq_false q]
      cases e : eqL (prof st[k].1) (prof p.1) with
      | false => rfl
      | true =>
        exfalso
        have ne : ∀ x : List Nat × Nat, x ∈ st → x.1 ≠ [] := fun x hx e => by have := hl x hx; rw [e] at this; simp at this
        have := (eq_prof e (ne _ (List.getElem_mem hk')) (ne _ (List.mem_of_getElem? ht))).1
        rcases Nat.lt_or_gt_of_ne q with q | q
        · have := inc_lt h hks ht q; lia
        · have := inc_lt h ht hks q; lia
  rw [this, range_filter, if_pos htl]

theorem Chain.snoc {prev : List Nat} : ∀ {rows : List Row} {r n : Row}, Chain prev rows → rows.getLast? = some r → n.1 ≠ [] → n.1.dropLast <+: r.1 → Chain prev (rows ++ [n])
  | [], r, n, _, h, _, _ => by cases h
  | [x], r, n, hc, h, hn, hd => by
    cases h
    exact ⟨hc.1, hc.2.1, hn, hd, trivial⟩
  | x :: y :: rest, r, n, hc, h, hn, hd => by
    refine ⟨hc.1, hc.2.1, ?_⟩
    exact Chain.snoc (rows := y :: rest) hc.2.2 (by rw [List.getLast?_cons_cons] at h; exact h) hn hd

theorem good_n {b : Nat} {r : List Nat} (h : GoodR b r) (hb : b ≤ 9) : nOf r ≤ 210 := by
  have h1 := sum_le r (2 * b) h.2.2
  have h2 : r.length * (2 * b) ≤ 11 * 18 := Nat.mul_le_mul (by have := h.2.1; lia) (by lia)
  have := h.2.1
  unfold nOf; lia
end Mine
namespace Mine
structure RowOk (rows : List Row) (i : Nat) (r : Row) : Prop where
  ne : r.1 ≠ []
  last : r.1.getLastD 0 = i
  len : r.1.length ≤ 4
  le : ∀ k ∈ r.1, k ≤ i
  took : r.2.2 = [] ∨ (r.2.2 = r.1 ∧ ∀ q k, r.1[q]? = some k → ∃ r', rows[k]? = some r' ∧ r'.1 = r.1.take (q + 1))
  lead : ∃ runs, runs ≠ [] ∧ nOf runs ≤ 250 ∧ r.2.1 = leadL runs i
structure Inv (b : Nat) (x : Stand × List Row) : Prop where
  p : PlanInv b x
  inc : x.1.Pairwise (fun p q => nOf p.1 < nOf q.1)
  lt : ∀ p ∈ x.1, p.2 < x.2.length
  own : ∀ q p, x.1[q]? = some p → ∃ r, x.2[p.2]? = some r ∧ r.1 = (x.1.take (q + 1)).map (·.2)
  row : ∀ i r, x.2[i]? = some r → RowOk x.2 i r
  chain : Chain [] x.2
  last : ∃ r, x.2.getLast? = some r ∧ (x.1.map (·.2)).take 3 <+: r.1
  pl : (x.2.map (fun r => wsOf r.2.1)).foldl plStepW ([], []) = (x.1.map pW, x.2.map (·.2.2))

theorem RowOk.mono {rows : List Row} {n : Row} {i : Nat} {r : Row} (h : RowOk rows i r) : RowOk (rows ++ [n]) i r :=
  ⟨h.ne, h.last, h.len, h.le, h.took.imp id fun ⟨a, c⟩ => ⟨a, fun q k hk => by
    obtain ⟨r', h1, h2⟩ := c q k hk
    exact ⟨r', by rw [List.getElem?_append_left (List.getElem?_eq_some_iff.mp h1).1]; exact h1, h2⟩⟩, h.lead⟩

theorem Inv.init : Inv 0 init0 := by
  refine ⟨PlanInv.init, by simp [init0], ?_, ?_, ?_, ⟨by decide, by decide, trivial⟩, ⟨_, rfl, by decide⟩, ?_⟩
  · intro p hp; rcases List.mem_singleton.mp hp with rfl; decide
  · intro q p hq
    cases q with
    | zero => cases hq; exact ⟨_, rfl, rfl⟩
    | succ q => simp [init0] at hq
  · intro i r hr
    cases i with
    | zero =>
      cases hr
      refine ⟨by decide, rfl, by decide, by decide, .inr ⟨rfl, fun q k hk => ?_⟩, [0, 0], by decide, by decide, by decide⟩
      cases q with
      | zero => cases hk; exact ⟨_, rfl, rfl⟩
      | succ q => simp at hk
    | succ i => simp [init0] at hr
  · have e : wsOf [9] = prof [0, 0] := rfl
    show plStepW ([], []) (wsOf [9]) = _
    rw [e]; rfl

theorem Inv.two {b : Nat} {x : Stand × List Row} (h : Inv b x) : ∀ p ∈ x.1, 2 ≤ p.1.length := fun p hp => (h.p.good p hp).1.1

theorem Inv.spoilt {b : Nat} {x : Stand × List Row} (h : Inv b x) (hb : b ≤ 8) (c : Nat) (hp : PlanInv (b + 1) (x.1, x.2 ++ [((x.1.take 3).map (·.2) ++ [x.2.length], leadL (spoiltL (x.1.getLastD ([], 0)).1 c) x.2.length, [])])) :
    Inv (b + 1) (x.1, x.2 ++ [((x.1.take 3).map (·.2) ++ [x.2.length], leadL (spoiltL (x.1.getLastD ([], 0)).1 c) x.2.length, [])]) := by
  have hlast : x.1.getLast? = some (x.1.getLastD ([], 0)) := by rw [List.getLastD_eq_getLast?, List.getLast?_eq_some_getLast h.p.ne]; rfl
  have hlm : x.1.getLastD ([], 0) ∈ x.1 := List.mem_of_getLast? hlast
  have htop := h.two _ hlm
  have hgood := good_n ((h.p.good _ hlm).1) (by lia)
  generalize hL : (x.1.getLastD ([], 0)) = L at *
  have hs := spoilt_n c htop
  obtain ⟨lr, hlr, hpre⟩ := h.last
  refine ⟨hp, h.inc, ?_, ?_, ?_, ?_, ?_, ?_⟩
  · intro p hp; have := h.lt p hp; simp; lia
  · intro q p hq
    obtain ⟨r, h1, h2⟩ := h.own q p hq
    exact ⟨r, by rw [List.getElem?_append_left (List.getElem?_eq_some_iff.mp h1).1]; exact h1, h2⟩
  · intro i r hr
    by_cases hi : i < x.2.length
    · rw [List.getElem?_append_left hi] at hr
      exact (h.row i r hr).mono
    · have hlt := (List.getElem?_eq_some_iff.mp hr).1
      have hie : i = x.2.length := by simp at hlt; lia
      subst hie
      rw [List.getElem?_append_right (Nat.le_refl _)] at hr
      simp only [Nat.sub_self, List.getElem?_cons_zero] at hr
      cases hr
      refine ⟨by simp, by simp [List.getLastD_eq_getLast?], by simp; lia, fun k hk => ?_, .inl rfl, _, spoilt_len c htop, by lia, rfl⟩
      rcases List.mem_append.mp hk with hk | hk
      · obtain ⟨p, hp, rfl⟩ := List.mem_map.mp hk
        have := h.lt p (List.mem_of_mem_take hp); lia
      · rw [List.mem_singleton] at hk; lia
  · refine h.chain.snoc hlr (by simp) ?_
    simp only [List.dropLast_concat]
    rw [List.map_take]; exact hpre
  · refine ⟨_, by rw [List.getLast?_concat], ?_⟩
    rw [← List.map_take]; exact List.prefix_append _ _
  · rw [List.map_append, List.foldl_append, h.pl]
    show plStepW _ (wsOf (leadL (spoiltL L.1 c) x.2.length)) = _
    rw [ws_lead _ _ (spoilt_len c htop)]
    have hnone : plNextW (x.1.map pW) (x.2.map (·.2.2)).length (prof (spoiltL L.1 c)) = none := by
      unfold plNextW
      rw [List.getLast?_map, hlast]
      dsimp only [Option.map_some]
      rw [if_neg (by show ¬ lessL (prof L.1) _ = true; rw [spoilt_not_less c htop]; decide)]
      have : likeW (x.1.map pW) (prof (spoiltL L.1 c)) = [] := by
        unfold likeW
        rw [List.filter_eq_nil_iff]
        intro k hk
        have hk' : k < x.1.length := by simpa using hk
        rw [List.getElem?_map, List.getElem?_eq_getElem hk']
        show ¬ eqL (prof x.1[k].1) _ = true
        rw [spoilt_ne c htop (h.two _ (List.getElem_mem hk'))]
        · decide
        · by_cases q : k = x.1.length - 1
          · right
            have : x.1[k] = L := by
              rw [List.getLast?_eq_getElem?, ← q, List.getElem?_eq_getElem hk'] at hlast
              exact Option.some.inj hlast
            rw [this]
          · left
            rw [List.getLast?_eq_getElem?] at hlast
            exact inc_lt h.inc (List.getElem?_eq_getElem hk') hlast (by lia)
      rw [this]
    unfold plStepW
    dsimp only
    rw [hnone]
    simp

theorem Inv.normal {b : Nat} {x : Stand × List Row} (h : Inv b x) (t : Nat) (ht : t ≤ x.1.length) (ht3 : t ≤ 3) (g : List Nat) (hg : g ≠ []) (hgn : nOf g ≤ 250) (hinc : ∀ p ∈ x.1.take t, nOf p.1 < nOf g)
    (hpl : plNextW (x.1.map pW) x.2.length (prof g) = some ((x.1.take t).map pW ++ [(prof g, x.2.length)]))
    (hp : PlanInv (b + 1) (x.1.take t ++ [(g, x.2.length)], x.2 ++ [((x.1.take t ++ [(g, x.2.length)]).map (·.2), leadL g x.2.length, (x.1.take t ++ [(g, x.2.length)]).map (·.2))])) :
    Inv (b + 1) (x.1.take t ++ [(g, x.2.length)], x.2 ++ [((x.1.take t ++ [(g, x.2.length)]).map (·.2), leadL g x.2.length, (x.1.take t ++ [(g, x.2.length)]).map (·.2))]) := by
  obtain ⟨lr, hlr, hpre⟩ := h.last
  have hown : ∀ q p, (x.1.take t ++ [(g, x.2.length)])[q]? = some p → ∃ r, (x.2 ++ [((x.1.take t ++ [(g, x.2.length)]).map (·.2), leadL g x.2.length, (x.1.take t ++ [(g, x.2.length)]).map (·.2))])[p.2]? = some r ∧ r.1 = ((x.1.take t ++ [(g, x.2.length)]).take (q + 1)).map (·.2) := by
    intro q p hq
    have htl : (x.1.take t).length = t := by simp; lia
    by_cases hqt : q < t
    · rw [List.getElem?_append_left (by lia), List.getElem?_take_of_lt hqt] at hq
      obtain ⟨r, h1, h2⟩ := h.own q p hq
      refine ⟨r, by rw [List.getElem?_append_left (List.getElem?_eq_some_iff.mp h1).1]; exact h1, ?_⟩
      rw [h2, List.take_append_of_le_length (by lia), List.take_take, Nat.min_eq_left (by lia)]
    · have hlt := (List.getElem?_eq_some_iff.mp hq).1
      have hqe : q = t := by rw [List.length_append, htl] at hlt; simp at hlt; lia
      subst hqe
      rw [List.getElem?_append_right (by lia), htl] at hq
      simp only [Nat.sub_self, List.getElem?_cons_zero] at hq
      cases hq
      refine ⟨_, by rw [List.getElem?_append_right (Nat.le_refl _), Nat.sub_self]; rfl, ?_⟩
      rw [List.take_of_length_le (l := x.1.take q ++ [(g, x.2.length)]) (by rw [List.length_append, htl]; simp)]
  refine ⟨hp, ?_, ?_, hown, ?_, ?_, ?_, ?_⟩
  · rw [List.pairwise_append]
    refine ⟨h.inc.sublist (List.take_sublist _ _), List.pairwise_singleton _ _, fun p hp q hq => ?_⟩
    rw [List.mem_singleton] at hq; subst hq
    exact hinc p hp
  · intro p hp
    rcases List.mem_append.mp hp with hp | hp
    · have := h.lt p (List.mem_of_mem_take hp); simp; lia
    · rw [List.mem_singleton] at hp; subst hp; simp
  · intro i r hr
    by_cases hi : i < x.2.length
    · rw [List.getElem?_append_left hi] at hr
      exact (h.row i r hr).mono
    · have hlt := (List.getElem?_eq_some_iff.mp hr).1
      have hie : i = x.2.length := by simp at hlt; lia
      subst hie
      rw [List.getElem?_append_right (Nat.le_refl _)] at hr
      simp only [Nat.sub_self, List.getElem?_cons_zero] at hr
      cases hr
      refine ⟨by simp, by simp [List.getLastD_eq_getLast?], by simp; lia, fun k hk => ?_, .inr ⟨rfl, fun q k hk => ?_⟩, g, hg, hgn, rfl⟩
      · obtain ⟨p, hp, rfl⟩ := List.mem_map.mp hk
        rcases List.mem_append.mp hp with hp | hp
        · have := h.lt p (List.mem_of_mem_take hp); lia
        · rw [List.mem_singleton] at hp; subst hp; exact Nat.le_refl _
      · dsimp only at hk
        rw [List.getElem?_map] at hk
        cases e : (x.1.take t ++ [(g, x.2.length)])[q]? with
        | none => rw [e] at hk; cases hk
        | some p =>
          rw [e] at hk
          cases hk
          obtain ⟨r', h1, h2⟩ := hown q p e
          exact ⟨r', h1, by rw [h2, List.map_take]⟩
  · refine h.chain.snoc hlr (by simp) ?_
    dsimp only
    rw [List.map_append, List.map_singleton, List.dropLast_concat]
    refine List.IsPrefix.trans ?_ hpre
    rw [List.map_take]
    exact List.take_prefix_take_left ht3
  · exact ⟨_, by rw [List.getLast?_concat], List.take_prefix _ _⟩
  · rw [List.map_append, List.foldl_append, h.pl]
    show plStepW _ (wsOf (leadL g x.2.length)) = _
    rw [ws_lead _ _ hg]
    unfold plStepW
    dsimp only
    rw [List.length_map, hpl]
    simp [pW, Function.comp_def]

theorem Inv.step {b : Nat} {x : Stand × List Row} (h : Inv b x) (hb : b ≤ 8) (c : Nat) (hc : c < 20) : Inv (b + 1) (planStep x c) := by
  have hp := h.p.step c
  have hlast : x.1.getLast? = some (x.1.getLastD ([], 0)) := by rw [List.getLastD_eq_getLast?, List.getLast?_eq_some_getLast h.p.ne]; rfl
  have hlm : x.1.getLastD ([], 0) ∈ x.1 := List.mem_of_getLast? hlast
  have htop := h.two _ hlm
  have hgl := (h.p.good _ hlm).1
  have hpos : 0 < x.1.length := List.length_pos_iff.mpr h.p.ne
  have h4 := h.p.st4
  have ne : ∀ p ∈ x.1, p.1 ≠ [] := fun p hp e => by have := h.two p hp; rw [e] at this; simp at this
  unfold planStep at hp ⊢
  by_cases h3 : c % 4 = 3
  · rw [if_pos h3] at hp ⊢
    exact h.spoilt hb (c / 4) hp
  · rw [if_neg h3] at hp ⊢
    unfold nextSt at hp ⊢
    by_cases h1 : c % 4 = 1 ∧ x.1.length < 4
    · rw [if_pos h1] at hp ⊢
      have e : x.1.take x.1.length = x.1 := List.take_length
      have hd : c / 4 < 5 := by lia
      have hgb := good_n (hgl.beneath (d := c / 4)) (by lia)
      have := h.normal x.1.length (Nat.le_refl _) (by lia) (beneathL (x.1.getLastD ([], 0)).1 (c / 4)) (by intro q; have := n_beneath (ne _ hlm) hd; rw [q] at this; simp [nOf] at this) (by lia) ?_ ?_ ?_
      · rw [e] at this
        simpa [List.getLastD_eq_getLast?] using this
      · rw [e]
        intro p hp
        have hn := n_beneath (ne _ hlm) hd
        obtain ⟨k, hk, rfl⟩ := List.getElem_of_mem hp
        rw [List.getLast?_eq_getElem?] at hlast
        by_cases q : k = x.1.length - 1
        · have : x.1[k] = x.1.getLastD ([], 0) := by
            rw [← q, List.getElem?_eq_getElem hk] at hlast
            exact Option.some.inj hlast
          rw [this]; exact hn
        · have := inc_lt h.inc (List.getElem?_eq_getElem hk) hlast (by lia)
          lia
      · unfold plNextW
        rw [List.getLast?_map, hlast]
        dsimp only [Option.map_some]
        rw [if_pos (show lessL (pW (x.1.getLastD ([], 0))).1 _ = true from less_beneath (ne _ hlm) hd), e]
      · rw [e]
        simpa [List.getLastD_eq_getLast?] using hp
    · rw [if_neg h1] at hp ⊢
      have like : ∀ (t : Nat) (p : List Nat × Nat), x.1[t]? = some p → nOf p.1 ≤ nOf (x.1.getLastD ([], 0)).1 → plNextW (x.1.map pW) x.2.length (prof p.1) = some ((x.1.take t).map pW ++ [(prof p.1, x.2.length)]) := fun t p ht hn => by
        unfold plNextW
        rw [List.getLast?_map, hlast]
        dsimp only [Option.map_some]
        rw [if_neg (by show ¬ lessL (prof _) _ = true; rw [less_n (by rw [prof_n, prof_n]; exact hn)]; decide), like_one h.inc h.two ht, List.map_take]
      have hincs : ∀ (t : Nat) (p : List Nat × Nat), x.1[t]? = some p → ∀ y ∈ x.1.take t, nOf y.1 < nOf p.1 := fun t p ht y hy => by
        obtain ⟨k, hk, rfl⟩ := List.getElem_of_mem hy
        have hkt : k < t := by simp at hk; lia
        rw [List.getElem_take]
        exact inc_lt h.inc (List.getElem?_eq_getElem (by simp at hk; lia)) ht hkt
      have hns : ∀ p ∈ x.1, nOf p.1 ≤ 250 := fun p hp => by have := good_n (h.p.good p hp).1 (by lia); lia
      by_cases h2 : c % 4 = 2 ∧ 1 < x.1.length
      · rw [if_pos h2] at hp ⊢
        have ht : x.1[x.1.length - 2]? = some (x.1.getD (x.1.length - 2) ([], 0)) := by
          rw [List.getD_eq_getElem?_getD, List.getElem?_eq_getElem (by lia)]; rfl
        have htm := List.mem_of_getElem? ht
        have hlast' := hlast
        rw [List.getLast?_eq_getElem?] at hlast'
        have := h.normal (x.1.length - 2) (by lia) (by lia) (x.1.getD (x.1.length - 2) ([], 0)).1 (ne _ htm) (hns _ htm) (hincs _ _ ht) (like _ _ ht (Nat.le_of_lt (inc_lt h.inc ht hlast' (by lia)))) ?_
        · simpa [List.getLastD_eq_getLast?] using this
        · simpa [List.getLastD_eq_getLast?] using hp
      · rw [if_neg h2] at hp ⊢
        have ht : x.1[x.1.length - 1]? = some (x.1.getLastD ([], 0)) := by rw [← List.getLast?_eq_getElem?]; exact hlast
        have e : x.1.dropLast = x.1.take (x.1.length - 1) := List.dropLast_eq_take
        rw [e] at hp ⊢
        have := h.normal (x.1.length - 1) (by lia) (by lia) (x.1.getLastD ([], 0)).1 (ne _ hlm) (hns _ hlm) (hincs _ _ ht) (like _ _ ht (Nat.le_refl _)) ?_
        · simpa [List.getLastD_eq_getLast?] using this
        · simpa [List.getLastD_eq_getLast?] using hp
theorem Inv.at (script : List Int) : ∀ i, i ≤ (cellsOf script).length → Inv i (((cellsOf script).take i).foldl planStep init0)
  | 0, _ => Inv.init
  | i + 1, h => by
    have hi : i < (cellsOf script).length := h
    have := cellsOf_len script
    rw [List.take_add_one, List.getElem?_eq_getElem hi, Option.toList_some, List.foldl_append]
    exact (Inv.at script i (by lia)).step (by lia) _ (cellsOf_lt script _ (List.getElem_mem hi))
theorem Inv.plan (script : List Int) : ∃ b, b ≤ 9 ∧ Inv b (planL script) := by
  have := Inv.at script (cellsOf script).length (Nat.le_refl _)
  rw [List.take_length] at this
  exact ⟨_, cellsOf_len script, this⟩
end Mine
namespace Mine
theorem path_cons (a : Nat) (A : List Nat) : pathT (a :: A) = 47 :: (word a ++ pathT A) := by simp [pathT]
theorem path_append (A B : List Nat) : pathT (A ++ B) = pathT A ++ pathT B := by simp [pathT]
theorem word_cut {a b : Nat} {X Y : List Nat} (hX : ∀ c, X.head? = some c → c ≠ 97) (hY : ∀ c, Y.head? = some c → c ≠ 97) (h : word a ++ X = word b ++ Y) : a = b ∧ X = Y := by
  have tw : ∀ (k : Nat) (Z : List Nat), (∀ c, Z.head? = some c → c ≠ 97) → (word k ++ Z).takeWhile (· == 97) = word k := by
    intro k Z hZ
    unfold word
    generalize k + 1 = m
    induction m with
    | zero =>
      cases Z with
      | nil => rfl
      | cons z r => rw [List.replicate_zero, List.nil_append, List.takeWhile_cons, if_neg (by simpa using hZ z rfl)]; 
    | succ m ih => rw [List.replicate_succ, List.cons_append, List.takeWhile_cons, if_pos (by decide), ih]
  have e := tw a X hX
  rw [h, tw b Y hY] at e
  have hab := (word_inj e).symm
  subst hab
  exact ⟨rfl, List.append_cancel_left h⟩
theorem path_head (A : List Nat) : ∀ c, (pathT A).head? = some c → c ≠ 97 := by
  intro c hc
  cases A with
  | nil => cases hc
  | cons a r => rw [path_cons] at hc; cases hc; decide
theorem path_inj : ∀ {A B : List Nat}, pathT A = pathT B → A = B
  | [], [], _ => rfl
  | [], b :: B, h => by rw [path_cons] at h; cases h
  | a :: A, [], h => by rw [path_cons] at h; cases h
  | a :: A, b :: B, h => by
    rw [path_cons, path_cons] at h
    obtain ⟨e1, e2⟩ := word_cut (path_head A) (path_head B) (List.cons.inj h).2
    rw [e1, path_inj e2]
theorem path_pre : ∀ {A B : List Nat} {t : List Nat}, pathT A ++ 47 :: t = pathT B → ∃ c C, B = A ++ c :: C
  | [], [], _, h => by cases h
  | [], b :: B, _, _ => ⟨b, B, rfl⟩
  | a :: A, [], _, h => by rw [path_cons] at h; cases h
  | a :: A, b :: B, t, h => by
    rw [path_cons, path_cons, List.cons_append, List.append_assoc] at h
    have hX : ∀ c, (pathT A ++ 47 :: t).head? = some c → c ≠ 97 := by
      intro c hc
      cases A with
      | nil => cases hc; decide
      | cons x r => rw [path_cons] at hc; cases hc; decide
    obtain ⟨e1, e2⟩ := word_cut hX (path_head B) (List.cons.inj h).2
    obtain ⟨c, C, e3⟩ := path_pre e2
    exact ⟨c, C, by rw [e1, e3]; rfl⟩
theorem path_last {A : List Nat} (h : A ≠ []) : ∃ p, pathT A = p ++ [97] := by
  have e := List.dropLast_concat_getLast h
  rw [← e, path_append]
  refine ⟨pathT A.dropLast ++ 47 :: List.replicate (A.getLast h) 97, ?_⟩
  have : pathT [A.getLast h] = 47 :: (List.replicate (A.getLast h) 97 ++ [97]) := by
    rw [path_cons]
    simp [pathT, word, List.replicate_succ']
  rw [this]; simp
theorem drop_snoc (p : List Nat) (c : Nat) : (p ++ [c]).drop ((p ++ [c]).length - 1) = [c] := by simp
theorem slashed_path {A : List Nat} (h : A ≠ []) : slashed (pathT A) = pathT A ++ [47] := by
  obtain ⟨p, e⟩ := path_last h
  unfold slashed
  rw [e, drop_snoc, if_neg (by decide)]
theorem slashed_slash (p : List Nat) : slashed (p ++ [47]) = p ++ [47] := by
  unfold slashed; rw [drop_snoc, if_pos rfl]
theorem path_shape {A : List Nat} (h : A ≠ []) : ∃ t, pathT A = 47 :: 97 :: t := by
  cases A with
  | nil => exact absurd rfl h
  | cons a r => rw [path_cons]; exact ⟨List.replicate a 97 ++ pathT r, by simp [word, List.replicate_succ]⟩
theorem pre_iff {A B : List Nat} : (pathT A ++ [47]).isPrefixOf (pathT B) = true ↔ ∃ c C, B = A ++ c :: C := by
  rw [List.isPrefixOf_iff_prefix]
  constructor
  · rintro ⟨t, h⟩
    exact path_pre (t := t) (by rw [← h]; simp)
  · rintro ⟨c, C, rfl⟩
    rw [path_append, path_cons]
    exact ⟨word c ++ pathT C, by simp⟩
theorem sub_host {p1 p2 : List Nat} : subL hostL p1 hostL p2 = (decide (p1 = p2) || (slashed p1).isPrefixOf p2) := by
  unfold subL
  by_cases h : p1 = p2
  · rw [if_pos ⟨rfl, h⟩]; simp [h]
  · rw [if_neg (fun q => h q.2), if_neg (fun q => q rfl)]; simp [h]

theorem le_sum {r : Nat} : ∀ {l : List Nat}, r ∈ l → r ≤ l.sum
  | a :: l, h => by
    rw [List.sum_cons]
    rcases List.mem_cons.mp h with rfl | h
    · lia
    · have := le_sum h; lia
theorem Inv.facts {b : Nat} {x : Stand × List Row} (h : Inv b x) (hb : b ≤ 9) : LawFacts x.2 := by
  have hlen : x.2.length ≤ 10 := by have := h.p.rows; lia
  have hrow : ∀ r ∈ x.2, ∃ i, i < 10 ∧ x.2[i]? = some r ∧ RowOk x.2 i r := fun r hr => by
    obtain ⟨i, hi, e⟩ := List.getElem_of_mem hr
    have e' : x.2[i]? = some r := by rw [List.getElem?_eq_getElem hi, e]
    exact ⟨i, by lia, e', h.row i r e'⟩
  have hws : ∀ r ∈ x.2, WsL r.2.1 := fun r hr => by
    obtain ⟨i, _, _, o⟩ := hrow r hr
    obtain ⟨runs, _, _, e⟩ := o.lead
    rw [e]; exact lead_ws _ _
  have scan_n : ∀ (l : List Nat) (y : W4), WsL l → (scan y l).n = y.n + l.length := by
    intro l
    induction l with
    | nil => intro y _; rfl
    | cons c r ih =>
      intro y hy
      have hr : WsL r := fun z hz => hy z (.tail _ hz)
      rcases hy c (.head _) with rfl | rfl
      · rw [scan, if_pos rfl, ih _ hr]; simp; lia
      · rw [scan, if_neg (by decide), if_pos rfl, ih _ hr]; simp; lia
  have hlead : ∀ r ∈ x.2, ∃ runs, runs ≠ [] ∧ nOf runs ≤ 250 ∧ wsOf r.2.1 = prof runs ∧ r.2.1.length ≤ 250 := fun r hr => by
    obtain ⟨i, _, _, o⟩ := hrow r hr
    obtain ⟨runs, h1, h2, e⟩ := o.lead
    have e2 : wsOf r.2.1 = prof runs := by rw [e, ws_lead _ _ h1]
    refine ⟨runs, h1, h2, e2, ?_⟩
    have := scan_n r.2.1 ⟨[], 0, 0, 0⟩ (hws r hr)
    have e3 : (wsOf r.2.1).n = r.2.1.length := by rw [wsOf, this]; simp
    rw [e2, prof_n] at e3
    lia
  have hok : RowsOk x.2 := ⟨hlen, fun r hr => by
    obtain ⟨i, hi, _, o⟩ := hrow r hr
    obtain ⟨_, _, _, _, hl⟩ := hlead r hr
    refine ⟨o.ne, ?_⟩
    unfold rsz; rw [o.last]; lia⟩
  have hdeep : ∀ r ∈ x.2, 0 < r.1.length := fun r hr => by
    obtain ⟨i, _, _, o⟩ := hrow r hr
    exact List.length_pos_iff.mpr o.ne
  obtain ⟨ls, hls, hup⟩ := lines_of hlen h.chain hdeep hws
  have hsmall : ∀ runs : List Nat, runs ≠ [] → nOf runs ≤ 250 → Small (prof runs) := fun runs hne hn => by
    obtain ⟨cl, e, rfl⟩ := snoc_of hne
    rw [nOf_snoc] at hn
    have hel : ∀ r ∈ cl, r ≤ cl.sum := fun r hr => le_sum hr
    rw [prof_snoc]
    refine ⟨?_, fun c hc => ?_, by show e ≤ 1000; lia, by show cl.length ≤ 1000; lia, by show cl.sum + e + cl.length ≤ 1000; lia⟩
    · show (hist cl).length ≤ 1000
      rcases hist_top cl with q | ⟨r, hr, q⟩
      · lia
      · have := hel r hr; lia
    · obtain ⟨i, hi, e1⟩ := List.getElem_of_mem hc
      have := hist_get cl i
      have hi' : i < (hist cl).length := hi
      rw [List.getD_eq_getElem?_getD, List.getElem?_eq_getElem hi', Option.getD_some] at this
      have e2 : (hist cl)[i] = c := e1
      rw [e2] at this
      have := List.count_le_length (a := i) (l := cl)
      lia
  have hrec : ∀ {rows : List Row} {ls : List (List Nat)}, LineUp rows ls → ∀ l ∈ ls, ∃ r ∈ rows, ∃ y, l = r.2.1 ++ word (r.1.getLastD 0) ++ y := by
    intro rows ls hup
    induction hup with
    | nil => intro l hl; cases hl
    | @cons r rows y ls _ _ ih =>
      intro l hl
      rcases List.mem_cons.mp hl with rfl | hl
      · exact ⟨r, .head _, y, rfl⟩
      · obtain ⟨r', a, c⟩ := ih l hl; exact ⟨r', .tail _ a, c⟩
  /- rows with a place -/
  have hT : ∀ i, i ∈ takenK (x.2.map (·.2.2)) → ∃ r, x.2[i]? = some r ∧ r.2.2 = r.1 ∧ r.1 ≠ [] ∧ r.1.getLastD 0 = i ∧ (x.2.map fun r => pathT r.1).getD i [] = pathT r.1 ∧ (x.2.map (·.2.2)).getD i [] = r.1 ∧ ∀ q k, r.1[q]? = some k → ∃ r', x.2[k]? = some r' ∧ r'.1 = r.1.take (q + 1) := fun i hi => by
    have hlt := takenK_lt i hi
    rw [List.length_map] at hlt
    have hne := of_decide_eq_true (List.mem_filter.mp hi).2
    have e : x.2[i]? = some x.2[i] := List.getElem?_eq_getElem hlt
    have o := h.row i _ e
    have e1 : (x.2.map (·.2.2)).getD i [] = x.2[i].2.2 := by rw [List.getD_eq_getElem?_getD, List.getElem?_map, e]; rfl
    have e2 : (x.2.map fun r => pathT r.1).getD i [] = pathT x.2[i].1 := by rw [List.getD_eq_getElem?_getD, List.getElem?_map, e]; rfl
    rw [e1] at hne
    rcases o.took with q | ⟨q1, q2⟩
    · exact absurd q hne
    · exact ⟨_, e, q1, o.ne, o.last, e2, by rw [e1, q1], q2⟩
  have key : ∀ i ∈ takenK (x.2.map (·.2.2)), ∀ j ∈ takenK (x.2.map (·.2.2)), ∃ A B, A ≠ [] ∧ B ≠ [] ∧ (x.2.map fun r => pathT r.1).getD i [] = pathT A ∧ (x.2.map fun r => pathT r.1).getD j [] = pathT B ∧ (x.2.map (·.2.2)).getD j [] = B ∧ (A = B ↔ i = j) ∧ (B.contains i = true ↔ A <+: B) := fun i hi j hj => by
    obtain ⟨r, a1, a2, a3, a4, a5, a6, a7⟩ := hT i hi
    obtain ⟨r', b1, b2, b3, b4, b5, b6, b7⟩ := hT j hj
    refine ⟨r.1, r'.1, a3, b3, a5, b5, b6, ⟨fun q => by rw [← a4, q, b4], fun q => by subst q; rw [a1] at b1; cases b1; rfl⟩, ⟨fun q => ?_, fun q => ?_⟩⟩
    · have hm : i ∈ r'.1 := by simpa using q
      obtain ⟨k, hk, e⟩ := List.getElem_of_mem hm
      obtain ⟨r'', c1, c2⟩ := b7 k i (by rw [List.getElem?_eq_getElem hk, e])
      rw [a1] at c1; cases c1
      rw [c2]; exact List.take_prefix _ _
    · have hm : i ∈ r.1 := by
        rw [List.getLastD_eq_getLast?, List.getLast?_eq_some_getLast a3] at a4
        rw [← a4]; exact List.getLast_mem a3
      simpa using q.subset hm
  have strict : ∀ {A B : List Nat}, (∃ c C, B = A ++ c :: C) ↔ (A <+: B ∧ A ≠ B) := fun {A B} => by
    constructor
    · rintro ⟨c, C, rfl⟩
      exact ⟨List.prefix_append _ _, fun q => by have := congrArg List.length q; simp at this⟩
    · rintro ⟨⟨t, rfl⟩, h2⟩
      cases t with
      | nil => exact absurd (by simp) h2
      | cons c C => exact ⟨c, C, rfl⟩
  refine ⟨hok, hws, ?_, h.chain, hdeep, ?_, ?_, ?_, ?_, ?_⟩
  · have : x.2.map (fun r => r.1.getLastD 0) = List.range x.2.length := by
      apply List.ext_getElem (by simp)
      intro i h1 h2
      have hi : i < x.2.length := by simpa using h1
      rw [List.getElem_map, List.getElem_range]
      exact (h.row i _ (List.getElem?_eq_getElem hi)).last
    rw [this]; exact List.nodup_range
  · intro r hr
    obtain ⟨i, hi, _, o⟩ := hrow r hr
    exact ⟨by have := o.len; lia, fun k hk => by have := o.le k hk; lia⟩
  · rw [hls, List.length_cons, hup.length]; lia
  · rw [hls, List.drop_succ_cons, List.drop_zero]
    intro l hl
    obtain ⟨r, hr, y, e⟩ := hrec hup l hl
    obtain ⟨runs, h1, h2, h3, _⟩ := hlead r hr
    refine ⟨?_, ?_⟩
    · have := splitC_len 10 (textF 10 x.2) l (by rw [hls]; exact .tail _ hl)
      have := textF_len 10 x.2
      have := hok.pow
      lia
    · rw [e, wsOf_line (hws r hr), h3]; exact hsmall runs h1 h2
  · rw [hls, List.drop_succ_cons, List.drop_zero, placesL_W, hup.ws hws, h.pl]
  · refine ⟨by simp, by simp; lia, ?_, ?_, ?_, ?_, ?_, ?_, ?_, ?_⟩
    · intro p hp
      obtain ⟨r, hr, rfl⟩ := List.mem_map.mp hp
      obtain ⟨i, hi, _, o⟩ := hrow r hr
      have : ((r.1.map fun k => 47 :: word k).map List.length).sum ≤ ((r.1.map fun k => 47 :: word k).map List.length).length * 100 := sum_le _ _ fun y hy => by
        obtain ⟨w, hw, rfl⟩ := List.mem_map.mp hy
        obtain ⟨k, hk, rfl⟩ := List.mem_map.mp hw
        have := o.le k hk
        simp [word]; lia
      have h4 := o.len
      unfold pathT
      rw [List.length_flatten]
      simp only [List.length_map] at this
      lia
    · intro p hp c hc
      obtain ⟨r, hr, rfl⟩ := List.mem_map.mp hp
      obtain ⟨w, hw, hcw⟩ := List.mem_flatten.mp hc
      obtain ⟨k, hk, rfl⟩ := List.mem_map.mp hw
      rcases List.mem_cons.mp hcw with rfl | hcw
      · decide
      · have := (List.mem_replicate.mp hcw).2; subst this; decide
    · intro j hj
      obtain ⟨A, B, hA, hB, e1, e2, e3, e4, e5⟩ := key j hj j hj
      obtain ⟨t, ht⟩ := path_shape hB
      rw [e2, sub_host, ht]
      rfl
    · intro i hi j hj
      obtain ⟨A, B, hA, hB, e1, e2, e3, e4, e5⟩ := key i hi j hj
      rw [e1, e2, e3, sub_host, slashed_path hA, Bool.eq_iff_iff, e5, Bool.or_eq_true, decide_eq_true_eq, pre_iff, strict]
      constructor
      · rintro (q | q)
        · rw [path_inj q]; exact List.prefix_refl _
        · exact q.1
      · intro q
        by_cases hq : A = B
        · exact .inl (by rw [hq])
        · exact .inr ⟨q, hq⟩
    · intro i hi j hj hc
      obtain ⟨A, B, hA, hB, e1, e2, e3, e4, e5⟩ := key i hi j hj
      rw [e3] at hc
      have hpre := e5.mp hc
      have hne : ¬ pathT A ++ [47] = pathT B := fun q => by
        obtain ⟨p, e⟩ := path_last hB
        rw [e] at q
        have := congrArg List.getLast? q
        simp at this
      rw [e1, e2, sub_host, slashed_slash, Bool.eq_iff_iff, Bool.or_eq_true, decide_eq_true_eq, decide_eq_true_eq, pre_iff, strict]
      constructor
      · rintro (q | q)
        · exact absurd q hne
        · exact fun r => q.2 (e4.mpr r)
      · intro q
        exact .inr ⟨hpre, fun r => q (e4.mp r)⟩
    · intro i hi j hj hc
      obtain ⟨A, B, hA, hB, e1, e2, e3, e4, e5⟩ := key i hi j hj
      rw [e3] at hc
      have hpre := e5.mp hc
      rw [e1, e2, sub_host, slashed_slash, Bool.or_eq_true, decide_eq_true_eq]
      by_cases hq : A = B
      · exact .inl (by rw [hq])
      · right
        have := pre_iff.mpr (strict.mpr ⟨hpre, hq⟩)
        rw [List.isPrefixOf_iff_prefix] at this ⊢
        exact this.trans (List.prefix_append _ _)
    · intro i hi j hj hc
      unfold subL
      rw [if_neg (fun q => by have := q.1; revert this; decide), if_pos (by decide)]
    · intro i hi j hj hc
      obtain ⟨A, B, hA, hB, e1, e2, e3, e4, e5⟩ := key i hi j hj
      obtain ⟨t, ht⟩ := path_shape hA
      rw [e1, e2, sub_host, slashed_path hA, ht]
      rfl
theorem facts (script : List Int) (h : script.length ≤ 63) : LawFacts (planL script).2 := by
  obtain ⟨b, hb, hi⟩ := Inv.plan script
  exact hi.facts hb
end Mine
namespace Mine
theorem well_list {P : Params} {h : Heap} {a : Addr} {d : WData} {xs : List WData} (W : Well P h (.ref a) d) (e : d = .list xs) : ∃ vs : List Value, h.get? a = some (listObj vs 0) := by
  cases W with
  | list h1 _ => exact ⟨_, h1⟩
  | _ => cases e
theorem ints_reps {Z : Zone} : ∀ {ns : List Int} {vs : List Value}, IntsAre vs ns → Reps Z (ns.map .int) vs := by
  intro ns vs h
  induction h with
  | nil => exact .nil
  | cons n t _ ih => exact .cons (rep_int.mpr ⟨t, rfl⟩) ih

theorem top_join (F : ∀ script : List Int, script.length ≤ 63 → LawFacts (planL script).2) : PySem.Challenge.rw_mr0285_01.Holds := by
  refine head1 rfl rfl rfl ?_
  intro w s₀ s₁ mg mb G Y fa o pm cd doc dV kV ho hd hcd hD hmg hg args vals as hpre hlay hrd hwl hlo
  have KX : (heapK w.params).In s₁.heap := Y
  refine Ground.open G ?_
  intro T B D TE TW
  wrow_args hpre hlay hrd hwl hlo
  rename_i script hs1 hlay0 hL1 hr1 hl2 as1 as2 a vs as3 hL ra w1 r0 hI hr hc1 hc2
  have hlen : script.length ≤ 63 := by lia
  have gok : GloOk { prog := Challenge.rw_mr0285_01.row.prog, w := w, K := heapK w.params, H := s₁.heap, mg := mg, mb := mb } := ⟨KX, T.g, T.b, T.nolimit, T.builtins⟩
  have hfa : fa = 200 := by
    have h1 : mg "law" = some (.ref 200) := mg_of KX T.g (by kernel_rfl)
    have h2 : mg "law" = some (.ref fa) := hmg
    rw [h1] at h2
    exact (Value.ref.inj (Option.some.inj h2)).symm
  subst hfa
  obtain ⟨us, hus⟩ := well_list w1 rfl
  have huv : us = vs := by
    obtain ⟨o', e1, e2, n, e3⟩ := hL
    rw [hus] at e1
    cases e1
    have := (Data.seq.inj e3).1
    simpa using this
  subst huv
  have hvl : us.length = script.length := hI.length
  have law := law_ok gok rfl script (by lia) (F script hlen)
  refine law.run callerA s₁ s₁.heap.get? [.ref a] _ _ rfl (by decide) (by decide) ⟨fun _ _ e => e, fun _ _ e => e⟩ (.cons (rep_list.mpr ⟨a, us, 0, rfl, hus, by rw [sizeLine_is]; lia, ints_reps hI⟩) .nil) fun v s' Z' g r => ?_
  rw [rep_bool.mp r]
  refine GoodW.toG ⟨.inl ⟨.bool true, .bool true, [], rfl, fun _ => rfl, .bool true, ?_, fun _ => ⟨.nil, fun _ h => by cases h⟩⟩, g.keep, g.rest.os, g.rest.gens.trans hg⟩
  first | kernel_rfl | (with_unfolding_all rfl) | (trace_state; fail)
end Mine
theorem PySem.Challenge.cw_mr0285_01_holds : PySem.Challenge.rw_mr0285_01.Holds := by
  exact Mine.top_join Mine.facts
