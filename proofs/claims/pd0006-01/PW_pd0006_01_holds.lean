import PyProof.Rows.All
import Wide.All
import OpenK.AllK
import KE.BytesMake
import Wide.FinOn
import PySem.Challenge.RW_pd0006_01
set_option Elab.async false
set_option maxRecDepth 100000
section
open PySem PySem.Calls
namespace Mine.Internal
theorem held {P : Prop} (h : P) : P := h
structure All6 (A B C D E F : Prop) : Prop where
  a : A
  b : B
  c : C
  d : D
  e : E
  f : F
structure All7 (A B C D E F G : Prop) : Prop where
  a : A
  b : B
  c : C
  d : D
  e : E
  f : F
  g : G
theorem turn_lt {i n : Nat} (h : i < n) : n + 1 - (i + 1) < n + 1 - i := Nat.sub_lt_sub_left (Nat.lt_succ_of_lt h) (Nat.lt_succ_self i)
theorem at_end {i n : Nat} (hi : i ≤ n) (h : ¬ i < n) : i = n := Nat.le_antisymm hi (Nat.le_of_not_lt h)

abbrev Keep (h h' : Heap) : Prop := ∀ b o, h.get? b = some o → h'.get? b = some o
noncomputable def Ext (X : List Addr) (h h' : Heap) : Prop := ∀ b o, b ∉ X → h.get? b = some o → h'.get? b = some o
theorem Ext.of_keep {X : List Addr} {h h' : Heap} (k : Keep h h') : Ext X h h' := fun b o _ e => k b o e
theorem Ext.of_same {X : List Addr} {h h' : Heap} {a : Addr} (k : Heap.SameBut a h h') (ha : a ∈ X) : Ext X h h' :=
  fun b o hb e => k.extBut b o (fun q => hb (q ▸ ha)) e

structure Rep (α : Type) where
  rd : List Addr → Heap → Value → α → Prop
  mono : ∀ {X : List Addr} {h h' : Heap} {v : Value} {x : α}, rd X h v x → Ext X h h' → rd X h' v x
  add : ∀ {X : List Addr} {h : Heap} {v : Value} {x : α} {a : Addr}, rd X h v x → h.get? a = none → rd (a :: X) h v x
  weak : ∀ {X X' : List Addr} {h : Heap} {v : Value} {x : α}, rd X h v x → (∀ a ∈ X', a ∈ X) → rd X' h v x
  dict : ∀ {X : List Addr} {h : Heap} {v : Value} {x : α} {C : Addr} {m : Str → Option Value}, rd X h v x → h.Ns C m → rd (C :: X) h v x

-- a value that no heap object bears
noncomputable def flat {α : Type} (f : Value → α → Prop) : Rep α where
  rd := fun _ _ v x => f v x
  mono := fun p _ => p
  add := fun p _ => p
  weak := fun p _ => p
  dict := fun p _ => p

noncomputable def rInt : Rep Int := flat fun v i => ∃ t, v = .int i t
noncomputable def rBool : Rep Bool := flat fun v b => v = .bool b
noncomputable def rStr : Rep Str := flat fun v x => ∃ t, v = .str x t
noncomputable def rBytes : Rep (Array UInt8) := flat fun v x => ∃ t, v = .bytes x t
noncomputable def rOpt {α : Type} (f : Value → α → Prop) : Rep (Option α) := flat fun v x => match x with | none => v = .none | some y => f v y
noncomputable def rIs (v₀ : Value) : Rep Unit := flat fun v _ => v = v₀

theorem Paired.imp {α β : Type} {F G : α → β → Prop} {l : List α} {m : List β} (p : Paired F l m) (h : ∀ a b, F a b → G a b) : Paired G l m := by
  induction p with
  | nil => exact .nil
  | cons x _ ih => exact .cons (h _ _ x) ih

noncomputable def rSeq {α : Type} (cls : String) (r : Rep α) : Rep (List α) where
  rd := fun X h v xs => ∃ a vs, v = .ref a ∧ a ∉ X ∧ (∃ o, h.get? a = some o ∧ o.cls = .type cls ∧ ∃ n, o.data = .seq (vs : List Value).toArray n) ∧ Paired (r.rd X h) vs xs
  mono := fun zh k => by
    refine Classical.byContradiction fun zG => ?_
    obtain ⟨a, vs, e, ha, ⟨o, ho, p⟩, q⟩ := zh
    exact zG ⟨a, vs, e, ha, ⟨o, k _ _ ha ho, p⟩, Paired.imp q fun _ _ z => r.mono z k⟩
  add := fun zh hn => by
    refine Classical.byContradiction fun zG => ?_
    obtain ⟨a, vs, e, ha, ⟨o, ho, p⟩, q⟩ := zh
    exact zG ⟨a, vs, e, by
        intro hm
        rcases List.mem_cons.mp hm with rfl | hm
        · rw [hn] at ho; cases ho
        · exact ha hm, ⟨o, ho, p⟩, Paired.imp q fun _ _ z => r.add z hn⟩
  weak := fun zh hs => by
    refine Classical.byContradiction fun zG => ?_
    obtain ⟨a, vs, e, ha, p, q⟩ := zh
    exact zG ⟨a, vs, e, fun hm => ha (hs _ hm), p, Paired.imp q fun _ _ z => r.weak z hs⟩
  dict := fun zh hn => by
    refine Classical.byContradiction fun zG => ?_
    obtain ⟨a, vs, e, ha, ⟨o, ho, p, n, hd⟩, q⟩ := zh
    exact zG ⟨a, vs, e, by
        intro hm
        rcases List.mem_cons.mp hm with rfl | hm
        · obtain ⟨o', es, ep, ho', hd', _⟩ := hn
          rw [ho] at ho'; cases ho'
          rw [hd] at hd'; cases hd'
        · exact ha hm, ⟨o, ho, p, n, hd⟩, Paired.imp q fun _ _ z => r.dict z hn⟩

noncomputable abbrev rList {α : Type} (r : Rep α) : Rep (List α) := rSeq "list" r
noncomputable abbrev rTup {α : Type} (r : Rep α) : Rep (List α) := rSeq "tuple" r

theorem Keeps.refl (s : Shared) : Keeps s s := ⟨s.heap, s.toks, rfl, fun _ _ e => e⟩
theorem Keeps.trans {s s' s'' : Shared} (a : Keeps s s') (b : Keeps s' s'') : Keeps s s'' := by
  refine Classical.byContradiction fun zG => ?_
  obtain ⟨h1, t1, rfl, k1⟩ := a
  refine zG ?_
  clear zG
  refine Classical.byContradiction fun zG => ?_
  obtain ⟨h2, t2, rfl, k2⟩ := b
  refine zG ?_
  clear zG
  exact ⟨h2, t2, rfl, fun b o e => k2 b o (k1 b o e)⟩
theorem Keeps.keep {s s' : Shared} (a : Keeps s s') : Keep s.heap s'.heap := by
  obtain ⟨h1, t1, rfl, k1⟩ := a; exact k1
theorem Keeps.tok (s : Shared) (t : Nat) : Keeps s { s with toks := t } := ⟨s.heap, t, rfl, fun _ _ e => e⟩
theorem Keeps.of {s : Shared} {h' : Heap} {t : Nat} (k : Keep s.heap h') : Keeps s { s with heap := h', toks := t } := ⟨h', t, rfl, k⟩
theorem keep_push (h : Heap) (o : Obj) : Keep h (h.push o) := fun _ _ e => Heap.get?_push_of_some _ e

-- what a variable holds
structure V where
  {α : Type}
  r : Rep α
  x : α

abbrev Vs := List (Str × V)

noncomputable def NameIs (h : Heap) (env : Env) (x : Str) (v : Value) : Prop :=
  (env.kindOf x = some .local ∧ ∃ m, h.Ns env.locals m ∧ m x = some v) ∨
  ((env.kindOf x = some .cell ∨ env.kindOf x = some .free) ∧ ∃ c, env.cells.lookup x = some c ∧ h.IsCell c (some v))
theorem NameIs.keeps {h h' : Heap} {env : Env} {x : Str} {v : Value} (p : NameIs h env x v) (k : Keep h h') : NameIs h' env x v := by
  rcases p with ⟨a, m, b, c⟩ | ⟨a, c, b, d⟩
  · exact .inl ⟨a, m, b.keeps k, c⟩
  · exact .inr ⟨a, c, b, d.keeps k⟩

-- the defs of the text
noncomputable def defAt (k : Nat) : DefRec := match (PySem.Challenge.pw_pd0006_01.main.body)[k]? with
  | some (.FunctionDef name args body _ _ _ scope _ _ pos) => ⟨name, args, body, scope, pos⟩
  | _ => ⟨Str.empty, ⟨[], [], none, [], [], none, []⟩, [], ⟨.function, [], false, false, []⟩, ⟨0, 0, 0, 0⟩⟩

-- the parts of a piece of the text
noncomputable def noP : Pos := ⟨0, 0, 0, 0⟩
noncomputable def noE : Expr := .Constant .none 0 noP
noncomputable def noH : ExceptHandler := .ExceptHandler none none [] noP
noncomputable def sV : Stmt → List Expr × List Stmt × ExceptHandler × Pos
  | .Assign ts e p => (e :: ts, [], noH, p)
  | .Return e p => (e.toList, [], noH, p)
  | .Raise x c p => (x.toList ++ c.toList, [], noH, p)
  | .If t b _ p => ([t], b, noH, p)
  | .For _ _ b _ p => ([], b, noH, p)
  | .Try b h _ _ p => ([], b, h.headD noH, p)
  | _ => ([], [], noH, noP)
noncomputable def sX (s : Stmt) : List Expr := (sV s).1
noncomputable def sB (s : Stmt) : List Stmt := (sV s).2.1
noncomputable def sH (s : Stmt) : ExceptHandler := (sV s).2.2.1
noncomputable def sP (s : Stmt) : Pos := (sV s).2.2.2
noncomputable def hT : ExceptHandler → Expr | .ExceptHandler t _ _ _ => t.getD noE
noncomputable def hB : ExceptHandler → List Stmt | .ExceptHandler _ _ b _ => b
noncomputable def hP : ExceptHandler → Pos | .ExceptHandler _ _ _ p => p
noncomputable def xV : Expr → Nat × List Expr × List (Option Expr) × Const × Pos
  | .Constant c _ p => (1, [], [], c, p)
  | .List es p => (2, es, [], .none, p)
  | .Tuple es _ p => (3, es, [], .none, p)
  | .Starred _ p => (4, [], [], .none, p)
  | .Call f as _ p => (0, f :: as, [], .none, p)
  | .BinOp l _ r p => (0, [l, r], [], .none, p)
  | .Subscript e s p => (0, [e, s], [], .none, p)
  | .Dict k v p => (0, v, k, .none, p)
  | .ListComp _ gs _ p => (0, gs.map fun g => g.iter, [], .none, p)
  | .Name _ p => (0, [], [], .none, p)
  | _ => (0, [], [], .none, noP)
noncomputable def xT (e : Expr) : Nat := (xV e).1
noncomputable def xX (e : Expr) : List Expr := (xV e).2.1
noncomputable def xK (e : Expr) : List (Option Expr) := (xV e).2.2.1
noncomputable def xC (e : Expr) : Const := (xV e).2.2.2.1
noncomputable def xP (e : Expr) : Pos := (xV e).2.2.2.2
noncomputable def cInt : Const → Option Int
  | .int k => some k
  | _ => none
noncomputable def cStr : Const → Option Str
  | .str x => some x
  | _ => none
noncomputable def xS (e : Expr) : Str := (cStr (xC e)).getD Str.empty
noncomputable def st (b : List Stmt) (k : Nat) : Stmt := b.getD k (.Pass noP)
noncomputable def ex (l : List Expr) (k : Nat) : Expr := l.getD k noE

end Mine.Internal
end
section
open PySem PySem.Calls
namespace Mine.Internal

noncomputable def fnIdx : List Nat := [9, 13, 15, 16, 17, 19, 20, 21, 22, 23, 24, 25]
noncomputable def bNames : List Str := ["isinstance", "issubclass", "type", "str", "bytes", "len", "range", "min", "max", "int", "tuple", "map", "enumerate", "chr", "ValueError", "TypeError", "AttributeError"]

noncomputable def FnAt (mg : Str → Option Value) (h : Heap) (d : DefRec) : Prop :=
  ∃ a o pm code doc, mg d.name = some (.ref a) ∧ h.get? a = some o ∧ o.data = .func (docDef d.name d.params d.body d.scope pm code doc) ∧ h.CodeRec code d.name

structure Gl (mg mb : Str → Option Value) (h : Heap) : Prop where
  g : h.Ns mainGlobals mg
  b : h.Ns builtinsNs mb
  lim : h.NoLimit
  fn : ∀ k ∈ fnIdx, FnAt mg h (defAt k)
  free : ∀ x ∈ bNames, mg x = none
  blt : ∀ x ∈ bNames, mb x = bootBuiltins x

theorem FnAt.keeps {mg : Str → Option Value} {h h' : Heap} {d : DefRec} (p : FnAt mg h d) (k : Keep h h') : FnAt mg h' d := by
  refine Classical.byContradiction fun zG => ?_
  obtain ⟨a, o, pm, code, doc, h1, h2, h3, h4⟩ := p
  refine zG ?_
  clear zG
  exact ⟨a, o, pm, code, doc, h1, k _ _ h2, h3, h4.keeps k⟩
theorem Gl.keeps {mg mb : Str → Option Value} {h h' : Heap} (p : Gl mg mb h) (k : Keep h h') : Gl mg mb h' :=
  ⟨p.g.keeps k, p.b.keeps k, p.lim.keeps k, fun i hi => (p.fn i hi).keeps k, p.free, p.blt⟩

noncomputable def GEnv (env : Env) : Prop := env.globals = mainGlobals ∧ env.builtins = builtinsNs ∧ env.scope.kind = .function

structure In (mg mb : Str → Option Value) (X : List Addr) (env : Env) (ρ : Vs) (s : Shared) : Prop where
  gl : Gl mg mb s.heap
  en : GEnv env
  vars : ∀ x U, ρ.lookup x = some U → ∃ v, NameIs s.heap env x v ∧ U.r.rd X s.heap v U.x
  here : ∀ a ∈ X, ∃ o, s.heap.get? a = some o

theorem In.keeps {mg mb : Str → Option Value} {X : List Addr} {env : Env} {ρ : Vs} {s s' : Shared} (p : In mg mb X env ρ s) (k : Keeps s s') : In mg mb X env ρ s' :=
  ⟨p.gl.keeps (Keeps.keep k), p.en, fun x U h => let ⟨v, a, b⟩ := p.vars x U h; ⟨v, a.keeps (Keeps.keep k), U.r.mono b (.of_keep (Keeps.keep k))⟩,
    fun a ha => let ⟨o, h⟩ := p.here a ha; ⟨o, Keeps.keep k _ _ h⟩⟩

section
variable (prog : Program) (w : World) (mg mb : Str → Option Value)

-- the tree gives a value that stands for x; nothing that stood is changed
noncomputable def Sv {α : Type} (A : Around) (t : Sem Value) (X : List Addr) (s : Shared) (r : Rep α) (x : α) : Prop :=
  ∀ E, wpAny (model prog w) A t (fun v s' => Keeps s s' ∧ r.rd X s'.heap v x) E s

noncomputable def Tr {α : Type} (A : Around) (env : Env) (ρ : Vs) (t : Sem Value) (r : Rep α) (x : α) : Prop :=
  ∀ X s, In mg mb X env ρ s → Sv prog w A t X s r x

abbrev Ev {α : Type} (A : Around) (env : Env) (ρ : Vs) (e : Expr) (r : Rep α) (x : α) : Prop := Tr prog w mg mb A env ρ (eval e env) r x

noncomputable def Tst (A : Around) (env : Env) (ρ : Vs) (e : Expr) (b : Bool) : Prop :=
  ∀ X s E, In mg mb X env ρ s → wpAny (model prog w) A (isTrue e env (eval e env)) (fun c s' => Keeps s s' ∧ c = b) E s

-- a step on values at hand
noncomputable def Op (A : Around) (X : List Addr) (s : Shared) : Prop := Gl mg mb s.heap ∧ (∀ a ∈ X, ∃ o, s.heap.get? a = some o)
end

noncomputable def Rm (n : Nat) (A : Around) : Prop := A.depth + n ≤ 400 ∧ A.units + 20 * n ≤ 4000 ∧ A.handled = none
theorem Rm.deeper {n : Nat} {A : Around} (h : Rm (n + 1) A) (env : Env) : Rm n (A.deeper env) := by
  refine Classical.byContradiction fun zG => ?_
  obtain ⟨a, b, c⟩ := h
  refine zG ?_
  clear zG
  refine ⟨?_, ?_, c⟩
  · show A.depth + 1 + n ≤ 400; lia -abstractProof
  · show A.units + 3 + 20 * n ≤ 4000; lia -abstractProof
theorem Rm.in1 {n : Nat} {A : Around} (h : Rm (n + 1) A) : Rm n A.in1 := by
  refine Classical.byContradiction fun zG => ?_
  obtain ⟨a, b, c⟩ := h
  refine zG ?_
  clear zG
  refine ⟨?_, ?_, c⟩
  · show A.depth + n ≤ 400; lia -abstractProof
  · show A.units + 1 + 20 * n ≤ 4000; lia -abstractProof
theorem Rm.le {n m : Nat} {A : Around} (h : Rm n A) (hm : m ≤ n := by lia -abstractProof) : Rm m A := by
  refine Classical.byContradiction fun zG => ?_
  obtain ⟨a, b, c⟩ := h
  refine zG ?_
  clear zG
  exact ⟨by lia -abstractProof, by lia -abstractProof, c⟩
theorem Rm.units {n : Nat} {A : Around} (h : Rm n A) : A.units < cLine := by
  refine Classical.byContradiction fun zG => ?_
  obtain ⟨a, b, c⟩ := h
  refine zG ?_
  clear zG
  show A.units < 9900; lia -abstractProof
theorem Rm.depth {n : Nat} {A : Around} (h : Rm n A) : A.depth < recursionLimit := by
  refine Classical.byContradiction fun zG => ?_
  obtain ⟨a, b, c⟩ := h
  refine zG ?_
  clear zG
  show A.depth < 1000; lia -abstractProof
theorem Rm.none {n : Nat} {A : Around} (h : Rm n A) : A.handled = none := h.2.2

-- the frame of a def's body
structure Fm (mg mb : Str → Option Value) (s₀ : Shared) (env : Env) (X : List Addr) (ρ : Vs) (s : Shared) : Prop where
  gl0 : Gl mg mb s₀.heap
  inn : In mg mb X env ρ s
  fr : ∃ m cm, InCallC s₀ env.locals m env.cells cm s
  lX : env.locals ∈ X
  cX : ∀ n c, env.cells.lookup n = some c → c ∈ X

theorem InCallC.keeps {s₀ s s' : Shared} {L : Addr} {m cm : Str → Option Value} {cs : List (Str × Addr)} (p : InCallC s₀ L m cs cm s) (k : Keeps s s') : InCallC s₀ L m cs cm s' := by
  refine Classical.byContradiction fun zG => ?_
  obtain ⟨⟨⟨h, tk, rfl⟩, ns, keep, fresh⟩, cell, apart, above⟩ := p
  refine zG ?_
  clear zG
  refine Classical.byContradiction fun zG => ?_
  obtain ⟨h1, t1, rfl, k1⟩ := k
  refine zG ?_
  clear zG
  exact ⟨⟨⟨h1, t1, rfl⟩, ns.keeps k1, fun b o e => k1 b o (keep b o e), fresh⟩, fun n c hc => (cell n c hc).keeps k1, apart, above⟩

theorem Fm.keeps {mg mb : Str → Option Value} {s₀ s s' : Shared} {env : Env} {X : List Addr} {ρ : Vs} (p : Fm mg mb s₀ env X ρ s) (k : Keeps s s') : Fm mg mb s₀ env X ρ s' :=
  ⟨p.gl0, p.inn.keeps k, let ⟨m, cm, h⟩ := p.fr; ⟨m, cm, InCallC.keeps h k⟩, p.lX, p.cX⟩
theorem Fm.done {mg mb : Str → Option Value} {s₀ s : Shared} {env : Env} {X : List Addr} {ρ : Vs} (p : Fm mg mb s₀ env X ρ s) : Keeps s₀ s := by
  refine Classical.byContradiction fun zG => ?_
  obtain ⟨m, cm, h⟩ := p.fr
  refine zG ?_
  clear zG
  refine Classical.byContradiction fun zG => ?_
  obtain ⟨h', tk, rfl, k⟩ := h.done
  refine zG ?_
  clear zG
  exact ⟨h', tk, rfl, k⟩

theorem lookup_cons_ne {α : Type _} {n m : Str} {v : α} {l : List (Str × α)} (h : n ≠ m) : ((m, v) :: l).lookup n = l.lookup n := by
  rw [List.lookup_cons]
  have : (n == m) = false := by simpa using h
  rw [this]
theorem lookup_cons_self {α : Type _} {n : Str} {v : α} {l : List (Str × α)} : ((n, v) :: l).lookup n = some v := by
  rw [List.lookup_cons]; simp

section
variable {prog : Program} {w : World} {mg mb : Str → Option Value} {A : Around} {E : Value → Shared → Prop}

-- a store into a name of the frame
theorem store2 {s₀ s : Shared} {env : Env} {X : List Addr} {ρ : Vs} {x : Str} {U : V} {v : Value} {Q : Unit → Shared → Prop} (F : Fm mg mb s₀ env X ρ s)
    (hx : env.kindOf x = some .local ∨ (env.kindOf x = some .cell ∧ ∃ c, env.cells.lookup x = some c)) (hv : U.r.rd X s.heap v U.x)
    (h : ∀ s', Fm mg mb s₀ env X ((x, U) :: ρ) s' → (∃ a, (a = env.locals ∨ ∃ n, env.cells.lookup n = some a) ∧ Heap.SameBut a s.heap s'.heap) → Q () s') : wpAny (model prog w) A (storeName env x v) Q E s := by
  refine Classical.byContradiction fun zG => ?_
  obtain ⟨m, cm, fr⟩ := F.fr
  refine zG ?_
  clear zG
  rcases hx with hl | ⟨hl, c, hc⟩
  · refine wpAny_storeName_local hl fr.toInCall.ns (fun h' hn' hs' => h _ ?_ ⟨_, .inl rfl, hs'⟩) (by rw [F.inn.en.2.2]; rfl)
    have fr' : InCallC s₀ env.locals (fun y => if y = x then some v else m y) env.cells cm { s with heap := h', toks := s.toks + 1 } := by
      refine ⟨⟨?_, hn', fun b o e => ?_, fr.toInCall.fresh⟩, fun k c hc => ?_, fr.apart, fr.above⟩
      · obtain ⟨h₁, tk, e⟩ := fr.toInCall.same
        rw [e]; exact ⟨h', _, rfl⟩
      · exact hs'.extBut b o (Nat.ne_of_lt (Nat.lt_of_lt_of_le (Heap.lt_size e) fr.toInCall.fresh)) (fr.toInCall.keep b o e)
      · exact (fr.cell k c hc).sameBut hs' (Nat.ne_of_gt (fr.above k c (mem_of_lookup hc)))
    refine ⟨F.gl0, ⟨F.gl0.keeps fr'.toInCall.keep, F.inn.en, ?_, ?_⟩, ⟨_, _, fr'⟩, F.lX, F.cX⟩
    · intro y W hy
      by_cases e : y = x
      · subst e
        rw [lookup_cons_self] at hy; cases hy
        exact ⟨v, .inl ⟨hl, _, hn', by simp⟩, U.r.mono hv (.of_same hs' F.lX)⟩
      · rw [lookup_cons_ne e] at hy
        refine Classical.byContradiction fun zG => ?_
        obtain ⟨u, hu, hr⟩ := F.inn.vars y W hy
        refine zG ?_
        clear zG
        refine ⟨u, ?_, W.r.mono hr (.of_same hs' F.lX)⟩
        rcases hu with ⟨a, m', b, d⟩ | ⟨a, c, b, d⟩
        · refine .inl ⟨a, _, hn', ?_⟩
          rw [if_neg e, fr.toInCall.ns.eq_nsMap, ← b.eq_nsMap]; exact d
        · exact .inr ⟨a, c, b, d.sameBut hs' (Nat.ne_of_gt (fr.above y c (mem_of_lookup b)))⟩
    · intro a ha
      obtain ⟨o, ho⟩ := F.inn.here a ha
      by_cases e : a = env.locals
      · subst e
        refine Classical.byContradiction fun zG => ?_
        obtain ⟨o', _, _, ho', _⟩ := hn'
        refine zG ?_
        clear zG
        exact ⟨o', ho'⟩
      · exact ⟨o, hs'.extBut a o e ho⟩
  · have hLc := fr.above x c (mem_of_lookup hc)
    refine wpAny_storeName_cell F.inn.en.2.2 hl hc (fr.cell x c hc) fun h' hc' hs' => h _ ?_ ⟨_, .inr ⟨x, hc⟩, hs'⟩
    have fr' : InCallC s₀ env.locals m env.cells (fun y => if y = x then some v else cm y) { s with heap := h' } := by
      refine ⟨⟨?_, fr.toInCall.ns.sameBut hs' (Nat.ne_of_lt hLc), fun b o e => ?_, fr.toInCall.fresh⟩, fun k c' hk' => ?_, fr.apart, fr.above⟩
      · obtain ⟨h₁, tk, e⟩ := fr.toInCall.same
        rw [e]; exact ⟨h', _, rfl⟩
      · exact hs'.extBut b o (Nat.ne_of_lt (Nat.lt_trans (Nat.lt_of_lt_of_le (Heap.lt_size e) fr.toInCall.fresh) hLc)) (fr.toInCall.keep b o e)
      · by_cases hkn : k = x
        · subst hkn
          rw [hc] at hk'; cases hk'
          simpa using hc'
        · rw [if_neg hkn]
          exact (fr.cell k c' hk').sameBut hs' fun e => hkn (name_of_addr fr.apart (mem_of_lookup hk') (e ▸ mem_of_lookup hc))
    have hcX : c ∈ X := F.cX x c hc
    refine ⟨F.gl0, ⟨F.gl0.keeps fr'.toInCall.keep, F.inn.en, ?_, ?_⟩, ⟨_, _, fr'⟩, F.lX, F.cX⟩
    · intro y W hy
      by_cases e : y = x
      · subst e
        rw [lookup_cons_self] at hy; cases hy
        exact ⟨v, .inr ⟨.inl hl, c, hc, hc'⟩, U.r.mono hv (.of_same hs' hcX)⟩
      · rw [lookup_cons_ne e] at hy
        refine Classical.byContradiction fun zG => ?_
        obtain ⟨u, hu, hr⟩ := F.inn.vars y W hy
        refine zG ?_
        clear zG
        refine ⟨u, ?_, W.r.mono hr (.of_same hs' hcX)⟩
        rcases hu with ⟨a, m', b, d⟩ | ⟨a, c', b, d⟩
        · exact .inl ⟨a, m', b.sameBut hs' (Nat.ne_of_lt hLc), d⟩
        · exact .inr ⟨a, c', b, d.sameBut hs' fun q => e (name_of_addr fr.apart (mem_of_lookup b) (q ▸ mem_of_lookup hc))⟩
    · intro a ha
      obtain ⟨o, ho⟩ := F.inn.here a ha
      by_cases e : a = c
      · subst e
        refine Classical.byContradiction fun zG => ?_
        obtain ⟨o', ho', _⟩ := hc'
        refine zG ?_
        clear zG
        exact ⟨o', ho'⟩
      · exact ⟨o, hs'.extBut a o e ho⟩


-- a store into a name of the frame
theorem store {s₀ s : Shared} {env : Env} {X : List Addr} {ρ : Vs} {x : Str} {U : V} {v : Value} {Q : Unit → Shared → Prop} (F : Fm mg mb s₀ env X ρ s)
    (hx : env.kindOf x = some .local ∨ (env.kindOf x = some .cell ∧ ∃ c, env.cells.lookup x = some c)) (hv : U.r.rd X s.heap v U.x)
    (h : ∀ s', Fm mg mb s₀ env X ((x, U) :: ρ) s' → (∃ a ∈ X, Heap.SameBut a s.heap s'.heap) → Q () s') : wpAny (model prog w) A (storeName env x v) Q E s := by
  exact store2 F hx hv fun s' F' ⟨a, ha, hs⟩ => h s' F' ⟨a, ha.elim (fun e => e ▸ F.lX) (fun ⟨n, hn⟩ => F.cX n a hn), hs⟩
-- the arguments stand for the parameters' values
inductive Args (X : List Addr) (h : Heap) : List (Str × Value) → Vs → Prop
  | nil : Args X h [] []
  | cons {n : Str} {v : Value} {U : V} {bs : List (Str × Value)} {ρ : Vs} : U.r.rd X h v U.x → Args X h bs ρ → Args X h ((n, v) :: bs) ((n, U) :: ρ)

theorem Args.lookup {X : List Addr} {h : Heap} {bs : List (Str × Value)} {ρ : Vs} (p : Args X h bs ρ) {x : Str} {U : V} (hx : ρ.lookup x = some U) : ∃ v, bs.lookup x = some v ∧ U.r.rd X h v U.x := by
  induction p with
  | nil => cases hx
  | @cons n v U' bs ρ hv _ ih =>
    by_cases e : x = n
    · subst e
      rw [lookup_cons_self] at hx; cases hx
      exact ⟨v, lookup_cons_self, hv⟩
    · rw [lookup_cons_ne e] at hx
      refine Classical.byContradiction fun zG => ?_
      obtain ⟨u, hu, hr⟩ := ih hx
      refine zG ?_
      clear zG
      exact ⟨u, by rw [lookup_cons_ne e]; exact hu, hr⟩

theorem bindL_other {kindOf : Str → Option NameKind} {x : Str} : ∀ (bs : List (Str × Value)) (m : Str → Option Value), (∀ p ∈ bs, p.1 ≠ x) → bindL kindOf bs m x = m x
  | [], _, _ => rfl
  | (n, v) :: r, m, h => by
    unfold bindL
    rw [bindL_other r _ fun p hp => h p (List.mem_cons_of_mem _ hp)]
    split
    · exact if_neg fun e => h (n, v) List.mem_cons_self e.symm
    · rfl
theorem bindL_lookup {kindOf : Str → Option NameKind} {x : Str} {v : Value} (hk : kindOf x = some .local) : ∀ (bs : List (Str × Value)) (m : Str → Option Value), (bs.map (·.1)).Nodup → bs.lookup x = some v → bindL kindOf bs m x = some v
  | [], _, _, h => by cases h
  | (n, u) :: r, m, hd, h => by
    unfold bindL
    simp only [List.map_cons, List.nodup_cons] at hd
    by_cases e : x = n
    · subst e
      rw [lookup_cons_self] at h; cases h
      rw [if_pos hk, bindL_other r _ fun p hp q => hd.1 (List.mem_map.mpr ⟨p, hp, q⟩)]
      simp
    · rw [lookup_cons_ne e] at h
      exact bindL_lookup hk r _ hd.2 h
theorem bindC_other {kindOf : Str → Option NameKind} {x : Str} : ∀ (bs : List (Str × Value)) (m : Str → Option Value), (∀ p ∈ bs, p.1 ≠ x) → bindC kindOf bs m x = m x
  | [], _, _ => rfl
  | (n, v) :: r, m, h => by
    unfold bindC
    rw [bindC_other r _ fun p hp => h p (List.mem_cons_of_mem _ hp)]
    split
    · rfl
    · exact if_neg fun e => h (n, v) List.mem_cons_self e.symm
theorem bindC_lookup {kindOf : Str → Option NameKind} {x : Str} {v : Value} (hk : kindOf x ≠ some .local) : ∀ (bs : List (Str × Value)) (m : Str → Option Value), (bs.map (·.1)).Nodup → bs.lookup x = some v → bindC kindOf bs m x = some v
  | [], _, _, h => by cases h
  | (n, u) :: r, m, hd, h => by
    unfold bindC
    simp only [List.map_cons, List.nodup_cons] at hd
    by_cases e : x = n
    · subst e
      rw [lookup_cons_self] at h; cases h
      rw [if_neg hk, bindC_other r _ fun p hp q => hd.1 (List.mem_map.mpr ⟨p, hp, q⟩)]
      simp
    · rw [lookup_cons_ne e] at h
      exact bindC_lookup hk r _ hd.2 h

end
end Mine.Internal
end
section
open PySem PySem.Calls
namespace Mine.Internal

theorem cellsFrom_append : ∀ (names : List (Str × NameKind)) (n : Nat) (acc : List (Str × Addr)), cellsFrom n names acc = cellsFrom n names [] ++ acc
  | [], _, _ => rfl
  | (x, k) :: r, n, acc => by
    unfold cellsFrom
    split
    · rw [cellsFrom_append r (n + 1) ((x, n) :: acc), cellsFrom_append r (n + 1) [(x, n)]]; simp
    · exact cellsFrom_append r n acc

theorem cellsFrom_has {x : Str} : ∀ (names : List (Str × NameKind)) (n : Nat) (acc : List (Str × Addr)), ((x, NameKind.cell) ∈ names ∨ ∃ c, (x, c) ∈ acc) → ∃ c, (x, c) ∈ cellsFrom n names acc
  | [], _, _, h => by
    rcases h with h | h
    · cases h
    · exact h
  | (y, k) :: r, n, acc, h => by
    unfold cellsFrom
    split
    · rename_i hk
      refine cellsFrom_has r (n + 1) _ ?_
      rcases h with h | ⟨c, h⟩
      · rcases List.mem_cons.mp h with e | h
        · cases e; exact .inr ⟨n, List.mem_cons_self⟩
        · exact .inl h
      · exact .inr ⟨c, List.mem_cons_of_mem _ h⟩
    · rename_i hk
      refine cellsFrom_has r n _ ?_
      rcases h with h | h
      · rcases List.mem_cons.mp h with e | h
        · cases e; exact absurd rfl hk
        · exact .inl h
      · exact .inr h
theorem cellsFrom_only {x : Str} {c : Addr} : ∀ (names : List (Str × NameKind)) (n : Nat) (acc : List (Str × Addr)), (x, c) ∈ cellsFrom n names acc → (x, NameKind.cell) ∈ names ∨ (x, c) ∈ acc
  | [], _, _, h => .inr h
  | (y, k) :: r, n, acc, h => by
    unfold cellsFrom at h
    split at h
    · rename_i hk
      have hk' : k = .cell := by simpa using hk
      rcases cellsFrom_only r (n + 1) _ h with h | h
      · exact .inl (List.mem_cons_of_mem _ h)
      · rcases List.mem_cons.mp h with e | h
        · cases e; subst hk'; exact .inl List.mem_cons_self
        · exact .inr h
    · rcases cellsFrom_only r n _ h with h | h
      · exact .inl (List.mem_cons_of_mem _ h)
      · exact .inr h
theorem lookup_some_of_mem {α : Type _} {x : Str} : ∀ {l : List (Str × α)} {c : α}, (x, c) ∈ l → ∃ c', l.lookup x = some c'
  | (y, d) :: r, c, h => by
    by_cases e : x = y
    · subst e; exact ⟨d, lookup_cons_self⟩
    · rw [lookup_cons_ne e]
      rcases List.mem_cons.mp h with q | h
      · cases q; exact absurd rfl e
      · exact lookup_some_of_mem h
theorem lookup_append {α : Type _} {x : Str} : ∀ (l m : List (Str × α)), (l ++ m).lookup x = (l.lookup x).or (m.lookup x)
  | [], m => by simp
  | (y, d) :: r, m => by
    by_cases e : x = y
    · subst e; rw [List.cons_append, lookup_cons_self, lookup_cons_self]; rfl
    · rw [List.cons_append, lookup_cons_ne e, lookup_cons_ne e]; exact lookup_append r m
theorem lookup_none {α : Type _} {x : Str} {l : List (Str × α)} (h : ∀ c, (x, c) ∉ l) : l.lookup x = none := by
  cases e : l.lookup x with
  | none => rfl
  | some c => exact absurd (mem_of_lookup' e) (h c)
where
  mem_of_lookup' {α : Type _} : ∀ {l : List (Str × α)} {n : Str} {c : α}, l.lookup n = some c → (n, c) ∈ l
  | (k, v) :: r, n, c, h => by
    by_cases e : n = k
    · subst e; rw [lookup_cons_self] at h; cases h; exact List.mem_cons_self
    · rw [lookup_cons_ne e] at h; exact List.mem_cons_of_mem _ (mem_of_lookup' h)

theorem closure_loop {env : Env} (g : Str → Addr) (f : Str × NameKind → List (Str × Addr) → Sem (ForInStep (List (Str × Addr))))
    (hf : ∀ n k cs, f (n, k) cs = if k == .free then (do let c ← cellOf env n; pure (.yield ((n, c) :: cs))) else pure (.yield cs)) :
    ∀ (names : List (Str × NameKind)) (acc : List (Str × Addr)), (∀ y ∈ names, y.2 = .free → env.cells.lookup y.1 = some (g y.1)) → (∀ n c, (n, c) ∈ acc → c = g n) →
      ∃ cl, forIn names acc f = pure cl ∧ (∀ n c, (n, c) ∈ cl → c = g n) ∧ (∀ y ∈ names, y.2 = .free → ∃ c, (y.1, c) ∈ cl) ∧ ∀ p ∈ acc, p ∈ cl := by
  intro names
  induction names with
  | nil => intro acc _ ha; exact ⟨acc, by rw [List.forIn_nil], ha, (fun y hy => nomatch hy), fun p hp => hp⟩
  | cons y r ih =>
    obtain ⟨n, k⟩ := y
    intro acc hn ha
    have hr : ∀ y ∈ r, y.2 = .free → env.cells.lookup y.1 = some (g y.1) := fun y hy => hn y (List.mem_cons_of_mem _ hy)
    by_cases hk : k = .free
    · subst hk
      have hc := hn (n, .free) List.mem_cons_self rfl
      obtain ⟨cl, e, p, q, q'⟩ := ih ((n, g n) :: acc) hr (fun n' c hm => by
        rcases List.mem_cons.mp hm with e | hm
        · cases e; rfl
        · exact ha _ _ hm)
      refine ⟨cl, ?_, p, ?_, fun z hz => q' z (List.mem_cons_of_mem _ hz)⟩
      · rw [List.forIn_cons, hf]
        simp only [beq_self_eq_true, if_true, cellOf, hc]
        exact e
      · intro y hy hf
        rcases List.mem_cons.mp hy with e' | hy
        · subst e'; exact ⟨g n, q' _ List.mem_cons_self⟩
        · exact q y hy hf
    · have hb : (k == NameKind.free) = false := by simpa using hk
      refine Classical.byContradiction fun zG => ?_
      obtain ⟨cl, e, p, q, q'⟩ := ih acc hr ha
      refine zG ?_
      clear zG
      refine ⟨cl, ?_, p, ?_, q'⟩
      · rw [List.forIn_cons, hf]
        simp only [hb, Bool.false_eq_true, if_false]
        exact e
      · intro y hy hf
        rcases List.mem_cons.mp hy with e' | hy
        · subst e'; exact absurd hf hk
        · exact q y hy hf
theorem closureFor_eq {env : Env} (g : Str → Addr) {scope : Scope} (h : ∀ y ∈ scope.names, y.2 = .free → env.cells.lookup y.1 = some (g y.1)) :
    ∃ cl, closureFor scope env = pure cl ∧ (∀ n c, (n, c) ∈ cl → c = g n) ∧ ∀ y ∈ scope.names, y.2 = .free → ∃ c, (y.1, c) ∈ cl := by
  have H : ∀ f, (∀ n k cs, f (n, k) cs = if k == .free then (do let c ← cellOf env n; pure (ForInStep.yield ((n, c) :: cs))) else pure (.yield cs)) →
      ∃ cl, (forIn scope.names [] f >>= fun r => pure r : Sem (List (Str × Addr))) = pure cl ∧ (∀ n c, (n, c) ∈ cl → c = g n) ∧ ∀ y ∈ scope.names, y.2 = .free → ∃ c, (y.1, c) ∈ cl := by
    intro f hf
    refine Classical.byContradiction fun zG => ?_
    obtain ⟨cl, e, p, q, _⟩ := closure_loop g f hf scope.names [] h (fun _ _ hm => nomatch hm)
    refine zG ?_
    clear zG
    exact ⟨cl, by rw [e]; rfl, p, q⟩
  unfold closureFor
  exact H _ (fun n k cs => by cases k <;> rfl)

section
variable {M : Model} {A : Around} {E : Value → Shared → Prop} {s : Shared}
-- a comprehension's own frame, cells and all
theorem newCompEnv {scope : Scope} {globals : Addr} {cl : List (Str × Addr)} {qual : Str} {outer : Env} {Q : Env → Shared → Prop}
    (hQ : ∀ h', (∀ m, h' = m → True) → h' = pushCells (s.heap.push { cls := .type "dict", data := .dict #[] }) scope.names →
      Q { scope := scope, locals := s.heap.objs.size, globals := globals, cells := cellsFrom (s.heap.objs.size + 1) scope.names cl, qual := qual, func := none, code := outer.code, frame := outer.frame, builtins := outer.builtins } { s with heap := h' }) :
    wpAny M A (newFunctionEnv scope globals cl [] qual none .none (some outer)) Q E s := by
  simp only [newFunctionEnv, Option.isSome_some, if_true]
  refine wpAny_bind (wpAny_alloc ?_)
  refine wpAny_bind (wpAny_layCells _ (fun name kind cells => by cases hkc : kind == NameKind.cell <;> simp) _ _ _ _ ?_)
  rw [show ({ s with heap := s.heap.push { cls := .type "dict", data := .dict #[] } } : Shared).heap.objs.size = s.heap.objs.size + 1 from Heap.size_push ..]
  rw [List.forIn_nil]
  exact wpAny_bind (wpAny_pure (wpAny_pure (hQ _ (fun _ _ => trivial) rfl)))
end
end Mine.Internal
end
section
open PySem PySem.Calls
namespace Mine.Internal

theorem Rep.adds {α : Type} (r : Rep α) {X : List Addr} {h : Heap} {v : Value} {x : α} (p : r.rd X h v x) : ∀ (Y : List Addr), (∀ a ∈ Y, h.get? a = none) → r.rd (Y ++ X) h v x
  | [], _ => p
  | a :: Y, hy => r.add (r.adds p Y fun b hb => hy b (List.mem_cons_of_mem _ hb)) (hy a List.mem_cons_self)

theorem lookup_relabel_keep {env : Env} {y : Str} {k : NameKind} (hk : k ≠ .free) : ∀ {names : List (Str × NameKind)}, names.lookup y = some k →
    (names.map fun (n, k) => if (k == NameKind.free && env.scope.kind == .function && env.kindOf n == some .cell) then (n, NameKind.cell) else (n, k)).lookup y = some k
  | [], h => by cases h
  | (n, j) :: r, h => by
    by_cases e : y = n
    · subst e
      rw [lookup_cons_self] at h; cases h
      have hb : (k == NameKind.free) = false := by simpa using hk
      simp only [List.map_cons, hb, Bool.false_and, Bool.false_eq_true, if_false]
      exact lookup_cons_self
    · rw [lookup_cons_ne e] at h
      have ih := lookup_relabel_keep (env := env) hk h
      simp only [List.map_cons]
      split
      · rw [lookup_cons_ne e]; exact ih
      · rw [lookup_cons_ne e]; exact ih
theorem lookup_relabel_free {env : Env} {y : Str} : ∀ {names : List (Str × NameKind)}, names.lookup y = some .free →
    (names.map fun (n, k) => if (k == NameKind.free && env.scope.kind == .function && env.kindOf n == some .cell) then (n, NameKind.cell) else (n, k)).lookup y = some .cell ∨
    (names.map fun (n, k) => if (k == NameKind.free && env.scope.kind == .function && env.kindOf n == some .cell) then (n, NameKind.cell) else (n, k)).lookup y = some .free
  | [], h => by cases h
  | (n, j) :: r, h => by
    by_cases e : y = n
    · subst e
      rw [lookup_cons_self] at h; cases h
      simp only [List.map_cons]
      split
      · exact .inl lookup_cons_self
      · exact .inr lookup_cons_self
    · rw [lookup_cons_ne e] at h
      have ih := lookup_relabel_free (env := env) h
      simp only [List.map_cons]
      split
      · rw [lookup_cons_ne e]; exact ih
      · rw [lookup_cons_ne e]; exact ih

-- the environment of a comprehension's turns
structure CEnv (scope : Scope) (env cenv : Env) : Prop where
  sc : cenv.scope = relabel scope env
  gl : GEnv cenv
theorem CEnv.kind {scope : Scope} {env cenv : Env} (c : CEnv scope env cenv) {y : Str} {k : NameKind} (h : scope.names.lookup y = some k) (hk : k ≠ .free := by decide) : cenv.kindOf y = some k := by
  show cenv.scope.names.lookup y = some k
  rw [c.sc]; exact lookup_relabel_keep hk h
theorem CEnv.kindFree {scope : Scope} {env cenv : Env} (c : CEnv scope env cenv) {y : Str} (h : scope.names.lookup y = some .free) : cenv.kindOf y = some .cell ∨ cenv.kindOf y = some .free := by
  show cenv.scope.names.lookup y = some .cell ∨ cenv.scope.names.lookup y = some .free
  rw [c.sc]; exact lookup_relabel_free h

section
variable (prog : Program) (w : World) (mg mb : Str → Option Value)

noncomputable def TstAll (A : Around) (cenv : Env) (ρ : Vs) (ifs : List Expr) (b : Bool) : Prop :=
  ∀ X s E, In mg mb X cenv ρ s → wpAny (model prog w) A (forIn ifs true fun c r => if r = true then do let ok ← isTrue c cenv (eval c cenv); pure (ForInStep.yield ok) else pure (ForInStep.yield r))
    (fun ok s' => Keeps s s' ∧ ok = b) E s

-- a walk over v yields what stands for xs
noncomputable def Src {α : Type} (A : Around) (X : List Addr) (s₁ : Shared) (v : Value) (r : Rep α) (xs : List α) : Prop :=
  ∀ (Q : Value → Shared → Prop) (E : Value → Shared → Prop), (∀ I fp wr n P St s₂, Keeps s₁ s₂ → Walks prog w A I fp wr n P St → St 0 s₂.heap → (∀ b ∈ fp, b < s₂.heap.objs.size) → (∀ b ∈ wr, s₁.heap.get? b = none) →
    (∀ i h, St i h → ∀ b ∈ wr, ∃ o, h.get? b = some o) → n = xs.length → (∀ i u, P i u → ∃ z, xs[i]? = some z ∧ r.rd X s₁.heap u z) → Q (.ref I) s₂) → wpAny (model prog w) A (pyIter v) Q E s₁
end

section
variable {prog : Program} {w : World} {mg mb : Str → Option Value} {A : Around} {env : Env}

theorem TstAll.nil {cenv : Env} {ρ : Vs} : TstAll prog w mg mb A cenv ρ [] true := fun _ _ _ _ => wpAny_pure ⟨Keeps.refl _, rfl⟩
theorem TstAll.one {cenv : Env} {ρ : Vs} {c : Expr} {b : Bool} (h : Tst prog w mg mb A cenv ρ c b) : TstAll prog w mg mb A cenv ρ [c] b :=
  fun X s E i => wpAny_tests_one (h X s E i)

-- what a comprehension's own frame holds between the turns
noncomputable def Tg (C : Addr) (own : List (Str × Addr)) (h : Heap) : Prop := (∃ m, h.Ns C m) ∧ ∀ n c, (n, c) ∈ own → ∃ v, h.IsCell c v

theorem cstore {C : Addr} {own cells : List (Str × Addr)} {cenv : Env} {s : Shared} {x : Str} {v : Value} {Q : Unit → Shared → Prop} {E : Value → Shared → Prop} (hL : cenv.locals = C) (hc : cenv.cells = own ++ cells) (hk : cenv.scope.kind = .function)
    (hCo : ∀ n c, (n, c) ∈ own → c ≠ C) (t : Tg C own s.heap)
    (hx : cenv.kindOf x = some .local ∨ (cenv.kindOf x = some .cell ∧ ∃ c, own.lookup x = some c))
    (h : ∀ h' tk a, Tg C own h' → NameIs h' cenv x v → Heap.SameBut a s.heap h' → a ∈ C :: own.map (·.2) → Q () { s with heap := h', toks := tk }) :
    wpAny (model prog w) A (storeName cenv x v) Q E s := by
  refine Classical.byContradiction fun zG => ?_
  obtain ⟨⟨m, hn⟩, ho⟩ := t
  refine zG ?_
  clear zG
  rcases hx with hl | ⟨hl, c, hcx⟩
  · refine wpAny_storeName_local hl (hL ▸ hn) (fun h' hn' hs' => h h' _ C ⟨⟨_, hL ▸ hn'⟩, fun n c hm => ?_⟩ (.inl ⟨hl, _, hn', by simp⟩) (hL ▸ hs') List.mem_cons_self) (by rw [hk]; rfl)
    obtain ⟨u, hu⟩ := ho n c hm
    exact ⟨u, hu.sameBut hs' (hL ▸ hCo n c hm)⟩
  · have hm := mem_of_lookup hcx
    obtain ⟨u, hu⟩ := ho x c hm
    have hlk : cenv.cells.lookup x = some c := by rw [hc, lookup_append, hcx]; rfl
    refine wpAny_storeName_cell hk hl hlk hu fun h' hc' hs' => h h' s.toks c ⟨⟨m, hn.sameBut hs' (Ne.symm (hCo x c hm))⟩, fun n d hd => ?_⟩ (.inr ⟨.inl hl, c, hlk, hc'⟩) hs' (List.mem_cons_of_mem _ (List.mem_map.mpr ⟨_, hm, rfl⟩))
    by_cases e : d = c
    · subst e; exact ⟨_, hc'⟩
    · obtain ⟨u', hu'⟩ := ho n d hd
      exact ⟨u', hu'.sameBut hs' e⟩

theorem Tr.gos {α : Type} {ρ : Vs} {t : Sem Value} {r : Rep α} {x : α} {X : List Addr} {cenv : Env} {hp : Heap} {g : Array GenState} {d : Drawn} {tk : Nat} {os : OsState} {Q : Value → Shared → Prop} {E : Value → Shared → Prop} (h : Tr prog w mg mb A cenv ρ t r x) (i : In mg mb X cenv ρ ⟨hp, g, d, tk, os⟩)
    (hQ : ∀ v h' t', Keep hp h' → r.rd X h' v x → Q v ⟨h', g, d, t', os⟩) : wpAny (model prog w) A t Q E ⟨hp, g, d, tk, os⟩ :=
  wpAny_mono (h X _ i E) (fun v s' q => by obtain ⟨⟨h', t', rfl, k⟩, hr⟩ := q; exact hQ v h' t' k hr) fun _ _ e => e
theorem TstAll.gos {ρ : Vs} {ifs : List Expr} {c : Bool} {X : List Addr} {cenv : Env} {hp : Heap} {g : Array GenState} {d : Drawn} {tk : Nat} {os : OsState} {Q : Bool → Shared → Prop} {E : Value → Shared → Prop} (h : TstAll prog w mg mb A cenv ρ ifs c) (i : In mg mb X cenv ρ ⟨hp, g, d, tk, os⟩)
    (hQ : ∀ h' t', Keep hp h' → Q c ⟨h', g, d, t', os⟩) : wpAny (model prog w) A (forIn ifs true fun c r => if r = true then do let ok ← isTrue c cenv (eval c cenv); pure (ForInStep.yield ok) else pure (ForInStep.yield r)) Q E ⟨hp, g, d, tk, os⟩ :=
  wpAny_mono (h X _ E i) (fun v s' q => by obtain ⟨⟨h', t', rfl, k⟩, rfl⟩ := q; exact hQ h' t' k) fun _ _ e => e
theorem getElem?_of_lt {α : Type} {l : List α} {i : Nat} (h : i < l.length) : ∃ z, l[i]? = some z := ⟨l[i], by simp [h]⟩

theorem comp_core {α β : Type} {elt iter : Expr} {x : Str} {px : Pos} {ifs : List Expr} {scope : Scope} {pos : Pos} {r : Rep α} {xs : List α} {r' : Rep β} {p : α → Bool} {f : α → β} {ρ ρ' : Vs} {X : List Addr} {s₁ : Shared} {v : Value}
    {cl : List (Str × Addr)} {g : Str → Addr} {RR : Value → Addr → Result → Shared → Prop} {E : Value → Shared → Prop}
    (hsrc : Src prog w A X s₁ v r xs) (hI : In mg mb X env ρ s₁) (hclg : ∀ n c, (n, c) ∈ cl → c = g n) (hclf : ∀ y ∈ scope.names, y.2 = .free → ∃ c, (y.1, c) ∈ cl)
    (hk : scope.kind = .function) (hx : scope.names.lookup x = some .local ∨ scope.names.lookup x = some .cell)
    (hρ : ∀ y U, ρ'.lookup y = some U → scope.names.lookup y = some .free ∧ (∀ k, (y, k) ∈ scope.names → k ≠ .cell) ∧ ∃ u, s₁.heap.IsCell (g y) (some u) ∧ U.r.rd X s₁.heap u U.x)
    (htest : ∀ z ∈ xs, ∀ cenv, CEnv scope env cenv → TstAll prog w mg mb A cenv ((x, ⟨r, z⟩) :: ρ') ifs (p z))
    (helt : ∀ z ∈ xs, p z = true → ∀ cenv, CEnv scope env cenv → Ev prog w mg mb A cenv ((x, ⟨r, z⟩) :: ρ') elt r' (f z))
    (hlen : xs.length ≤ sizeLine)
    (hRR : ∀ D C h' tk m' ys, s₁.heap.get? D = none → s₁.heap.get? C = none → D ≠ C → h'.Ns C m' → h'.PlainList D (ys : List Value).toArray → Paired (r'.rd (C :: X) h') ys ((xs.filter p).map f) → (∃ o, h'.get? D = some o) → Keep s₁.heap h' →
      RR (.ref D) C (.ok .next) { s₁ with heap := h', toks := tk }) :
    wpAny (model prog w) A (pyIter v) (fun it s₂ => wpAny (model prog w) A (newList []) (fun acc s₃ => wpAny (model prog w) A (newFunctionEnv scope env.globals cl [] env.qual none .none (some env)) (fun cenv s₄ =>
      codeAny (model prog w) A (.compStart (.ListComp elt [⟨.Name x px, iter, ifs, 0⟩] scope pos) 0 it acc { cenv with scope := relabel scope env }) (RR acc cenv.locals) s₄) E s₃) E s₂) E s₁ := by
  refine hsrc _ E fun I fp wr n P St s₂ k₂ W hst hfp hwr hwS hn hP => ?_
  refine Classical.byContradiction fun zG => ?_
  obtain ⟨H₂, t₂, rfl, hk₂⟩ := k₂
  refine zG ?_
  clear zG
  refine wpAny_newObj_type (newCompEnv fun h₁ _ eh₁ => ?_)
  dsimp only at eh₁ hst hfp ⊢
  generalize hH2 : H₂.push { cls := .type "list", dict := none, data := .seq ([] : List Value).toArray } = H2 at eh₁ ⊢
  revert H2; refine held ?_; intro H2 hH2 eh₁
  have hCs : H2.objs.size = H₂.objs.size + 1 := by rw [← hH2, Heap.size_push]
  have ok := cellsFrom_ok scope.names (H2.push { cls := .type "dict", data := .dict #[] }) (H2.objs.size + 1) [] ⟨fun _ _ hm => (nomatch hm), List.Pairwise.nil⟩ (by rw [Heap.size_push]; exact Nat.le_refl _)
  rw [Heap.size_push, ← eh₁] at ok
  generalize hown : cellsFrom (H2.objs.size + 1) scope.names [] = own at ok
  revert own; refine held ?_; intro own hown ok
  have hcells : cellsFrom (H2.objs.size + 1) scope.names cl = own ++ cl := by rw [cellsFrom_append, hown]
  rw [hcells]
  generalize hD : H₂.objs.size = D at hCs hfp ⊢
  revert D; refine held ?_; intro D hD hCs hfp
  generalize hC : H2.objs.size = C at hCs ok hown ⊢
  revert C; refine held ?_; intro C hC hCs ok hown
  generalize hcenv : ({ scope := relabel scope env, locals := C, globals := env.globals, cells := own ++ cl, qual := env.qual, func := none, code := env.code, frame := env.frame, builtins := env.builtins } : Env) = cenv
  revert cenv; refine held ?_; intro cenv hcenv
  have ce : CEnv scope env cenv := ⟨by rw [← hcenv], by rw [← hcenv]; exact ⟨hI.en.1, hI.en.2.1, hk⟩⟩
  have hcl' : cenv.cells = own ++ cl := by rw [← hcenv]
  have hloc : cenv.locals = C := by rw [← hcenv]
  have hknd : cenv.scope.kind = .function := by rw [← hcenv]; exact hk
  have oldD : ∀ b o, H₂.get? b = some o → h₁.get? b = some o := fun b o e => by
    rw [eh₁]; exact pushCells_keeps _ _ b o (Heap.get?_push_of_some _ (hH2 ▸ Heap.get?_push_of_some _ e))
  have old : Keep s₁.heap h₁ := fun b o e => oldD b o (hk₂ b o e)
  have fresh : ∀ a, D ≤ a → s₁.heap.get? a = none := fun a ha => by
    cases e : s₁.heap.get? a with
    | none => rfl
    | some o' => exact absurd (Heap.lt_size (hk₂ _ _ e)) (by rw [hD]; exact Nat.not_lt.mpr ha)
  have hownge : ∀ m c, (m, c) ∈ own → C + 1 ≤ c := fun m c hm => (ok.empty m c hm).2
  have hCo : ∀ m c, (m, c) ∈ own → c ≠ C := fun m c hm => Nat.ne_of_gt (hownge m c hm)
  have hacc₁ : h₁.PlainList D #[] := ⟨_, by rw [eh₁]; exact pushCells_keeps _ _ _ _ (Heap.get?_push_of_some _ (by rw [← hH2, ← hD]; exact Heap.get?_push_size _ rfl))⟩
  have htg₁ : Tg C own h₁ := ⟨⟨fun _ => none, by rw [eh₁, ← hC]; exact (Heap.Ns.new _ _).keeps (pushCells_keeps _ _)⟩, fun m c hm => ⟨_, (ok.empty m c hm).1⟩⟩
  have hst₁ : St 0 h₁ := W.frame _ _ _ hst fun b _ o e => oldD b o e
  have hxk : cenv.kindOf x = some .local ∨ (cenv.kindOf x = some .cell ∧ ∃ c, own.lookup x = some c) := by
    rcases hx with hx | hx
    · exact .inl (ce.kind hx)
    · refine .inr ⟨ce.kind hx, ?_⟩
      obtain ⟨c, hc⟩ := cellsFrom_has scope.names (C + 1) [] (.inl (mem_of_lookup hx))
      rw [hown] at hc
      exact lookup_some_of_mem hc
  have hDfp : D ∉ fp := fun h => Nat.lt_irrefl _ (hfp _ h)
  have hYfp : ∀ a ∈ C :: own.map (·.2), a ∉ fp := fun a ha h => by
    have hDC : D < C := Nat.lt_of_lt_of_eq (Nat.lt_succ_self D) hCs.symm
    have h1 := hfp a h
    rcases List.mem_cons.mp ha with rfl | ha
    · exact Nat.lt_asymm h1 hDC
    · obtain ⟨⟨m, c⟩, hm, rfl⟩ := List.mem_map.mp ha
      exact Nat.lt_asymm h1 (Nat.lt_trans hDC (hownge m c hm))
  have hYD : ∀ a ∈ C :: own.map (·.2), a ≠ D := fun a ha => by
    have hDC : D < C := Nat.lt_of_lt_of_eq (Nat.lt_succ_self D) hCs.symm
    rcases List.mem_cons.mp ha with rfl | ha
    · exact Nat.ne_of_gt hDC
    · obtain ⟨⟨m, c⟩, hm, rfl⟩ := List.mem_map.mp ha
      exact Nat.ne_of_gt (Nat.lt_trans hDC (hownge m c hm))
  have hYn : ∀ a ∈ C :: own.map (·.2), s₁.heap.get? a = none := fun a ha => by
    have hDC : D < C := Nat.lt_of_lt_of_eq (Nat.lt_succ_self D) hCs.symm
    refine fresh a ?_
    rcases List.mem_cons.mp ha with rfl | ha
    · exact Nat.le_of_lt hDC
    · obtain ⟨⟨m, c⟩, hm, rfl⟩ := List.mem_map.mp ha
      exact Nat.le_of_lt (Nat.lt_trans hDC (hownge m c hm))
  -- what the turns may write
  generalize hY : D :: C :: (own.map (·.2) ++ wr) = Y
  revert Y; refine held ?_; intro Y hY
  have hYnone : ∀ a ∈ Y, s₁.heap.get? a = none := fun a ha => by
    rw [← hY] at ha
    rcases List.mem_cons.mp ha with rfl | ha
    · exact fresh _ (Nat.le_refl _)
    · rcases List.mem_cons.mp ha with rfl | ha
      · exact hYn _ List.mem_cons_self
      · rcases List.mem_append.mp ha with ha | ha
        · exact hYn _ (List.mem_cons_of_mem _ ha)
        · exact hwr _ ha
  have inY : ∀ a ∈ C :: own.map (·.2), a ∈ Y ++ X := fun a ha => by
    rw [← hY]
    rcases List.mem_cons.mp ha with rfl | ha
    · exact List.mem_append_left _ (List.mem_cons_of_mem _ List.mem_cons_self)
    · exact List.mem_append_left _ (List.mem_cons_of_mem _ (List.mem_cons_of_mem _ (List.mem_append_left _ ha)))
  have DY : D ∈ Y ++ X := by rw [← hY]; exact List.mem_append_left _ List.mem_cons_self
  have wrY : ∀ a ∈ wr, a ∈ Y ++ X := fun a ha => by
    rw [← hY]; exact List.mem_append_left _ (List.mem_cons_of_mem _ (List.mem_cons_of_mem _ (List.mem_append_right _ ha)))
  have mkIn : ∀ (s₃ : Shared) i u z, Keep s₁.heap s₃.heap → Tg C own s₃.heap → St i s₃.heap → (∃ ys, s₃.heap.PlainList D ys) → NameIs s₃.heap cenv x u → r.rd X s₁.heap u z →
      In mg mb (Y ++ X) cenv ((x, ⟨r, z⟩) :: ρ') s₃ := by
    intro s₃ i u z hkp htg hst hpl hnm hrd
    refine ⟨hI.gl.keeps hkp, ce.gl, ?_, ?_⟩
    · intro y U hy
      by_cases e : y = x
      · subst e
        rw [lookup_cons_self] at hy; cases hy
        exact ⟨u, hnm, r.mono (r.adds hrd Y hYnone) (.of_keep hkp)⟩
      · rw [lookup_cons_ne e] at hy
        refine Classical.byContradiction fun zG => ?_
        obtain ⟨h1, h2, u', h3, h4⟩ := hρ y U hy
        refine zG ?_
        clear zG
        refine ⟨u', .inr ⟨ce.kindFree h1, g y, ?_, h3.keeps hkp⟩, U.r.mono (U.r.adds h4 Y hYnone) (.of_keep hkp)⟩
        rw [hcl', lookup_append, lookup_none (l := own) (fun c hc => ?_)]
        · obtain ⟨c, hc⟩ := hclf (y, .free) (mem_of_lookup h1) rfl
          obtain ⟨c', hc'⟩ := lookup_some_of_mem hc
          show cl.lookup y = some (g y)
          rw [hc', hclg y c' (mem_of_lookup hc')]
        · rw [← hown] at hc
          rcases cellsFrom_only _ _ _ hc with hc | hc
          · exact h2 _ hc rfl
          · cases hc
    · intro a ha
      rcases List.mem_append.mp ha with ha | ha
      · rw [← hY] at ha
        rcases List.mem_cons.mp ha with rfl | ha
        · obtain ⟨ys, n, hp⟩ := hpl; exact ⟨_, hp⟩
        · rcases List.mem_cons.mp ha with rfl | ha
          · obtain ⟨⟨m, o, _, _, ho, _⟩, _⟩ := htg; exact ⟨o, ho⟩
          · rcases List.mem_append.mp ha with ha | ha
            · obtain ⟨⟨m, c⟩, hm, rfl⟩ := List.mem_map.mp ha
              refine Classical.byContradiction fun zG => ?_
              obtain ⟨_, o, ho, _⟩ := htg.2 m c hm
              refine zG ?_
              clear zG
              exact ⟨o, ho⟩
            · exact hwS _ _ hst a ha
      · obtain ⟨o, ho⟩ := hI.here a ha
        exact ⟨o, hkp _ _ ho⟩
  have loop : ∀ s₃ : Shared, s₃ = { s₁ with heap := h₁, toks := t₂ } →
      codeAny (model prog w) A (.compLoop (.ListComp elt [⟨.Name x px, iter, ifs, 0⟩] scope pos) 0 (.ref I) (.ref D) cenv) (RR (.ref D) C) s₃ := by
    rintro s₃ rfl
    refine codeAny_compLoop_tests
      (fun k s' => ∃ h' tk ys i, s' = { s₁ with heap := h', toks := tk } ∧ All7 (St i h') (h'.PlainList D (ys : List Value).toArray) (Tg C own h') (Paired (r'.rd (Y ++ X) h') ys (((xs.take i).filter p).map f)) (i ≤ n) (k = n + 1 - i) (Keep s₁.heap h')) ?_ (n + 1)
      ⟨h₁, t₂, [], 0, rfl, hst₁, hacc₁, htg₁, by simpa using Paired.nil, Nat.zero_le _, rfl, old⟩
    intro k s' zI
    refine Classical.byContradiction fun zG => ?_
    obtain ⟨H, tk, ys, i, rfl, hst', hacc', htg', hF, hi, rfl, hkp⟩ := zI
    refine zG ?_
    clear zG
    by_cases hlt : i < n
    · refine W.item i _ _ _ hlt hst' fun u h₁' tk₁ hPu hst₁' hk₁' => ?_
      refine Classical.byContradiction fun zG => ?_
      obtain ⟨z, hz, hrd⟩ := hP i u hPu
      refine zG ?_
      clear zG
      have hzm : z ∈ xs := List.mem_of_getElem? hz
      have kwr : ∀ b o, b ∉ wr → H.get? b = some o → h₁'.get? b = some o := hk₁'
      have ykeep : ∀ a ∈ C :: own.map (·.2), a ∉ wr := fun a ha h => hYfp a ha (W.sub _ h)
      have hkp₁ : Keep s₁.heap h₁' := fun b o e => kwr b o (fun h => by rw [hwr b h] at e; cases e) (hkp b o e)
      have htg₁' : Tg C own h₁' := by
        refine Classical.byContradiction fun zG => ?_
        obtain ⟨⟨m, hm⟩, ho⟩ := htg'
        refine zG ?_
        clear zG
        refine ⟨⟨m, hm.at' fun o e => kwr _ o (ykeep C List.mem_cons_self) e⟩, fun m' c hc => ?_⟩
        refine Classical.byContradiction fun zG => ?_
        obtain ⟨u', o, ho', hd⟩ := ho m' c hc
        refine zG ?_
        clear zG
        exact ⟨u', o, kwr c o (ykeep c (List.mem_cons_of_mem _ (List.mem_map.mpr ⟨_, hc, rfl⟩))) ho', hd⟩
      refine wpAny_assign_Name (cstore hloc hcl' hknd hCo htg₁' hxk fun h₂ tk₂ a htg₂ hnm₂ hs₂ haY => ?_)
      have hkp₂ : Keep s₁.heap h₂ := fun b o e => hs₂.extBut b o (fun q => by subst q; rw [hYn b haY] at e; cases e) (hkp₁ b o e)
      have hst₂ : St (i + 1) h₂ := W.frame _ _ _ hst₁' fun b hb o e => hs₂.extBut b o (fun q => hYfp a haY (q ▸ hb)) e
      have hDw : D ∉ wr := fun h => hDfp (W.sub _ h)
      have hacc₂ : h₂.PlainList D ys.toArray := (hacc'.at fun o e => kwr _ o hDw e).at fun o e => hs₂.extBut _ o (Ne.symm (hYD a haY)) e
      have hF₂ : Paired (r'.rd (Y ++ X) h₂) ys (((xs.take i).filter p).map f) := Paired.imp hF fun _ _ q =>
        r'.mono q fun b o hb e => hs₂.extBut b o (fun q => hb (q ▸ inY a haY)) (kwr b o (fun q => hb (wrY b q)) e)
      have in₂ := mkIn { s₁ with heap := h₂, toks := tk₂ } (i + 1) u z hkp₂ htg₂ hst₂ ⟨_, hacc₂⟩ hnm₂ hrd
      refine TstAll.gos (htest z hzm cenv ce) in₂ fun h₃ t₃ hk₃ => ?_
      have hst₃ : St (i + 1) h₃ := W.frame _ _ _ hst₂ fun b _ o e => hk₃ b o e
      have hacc₃ := hacc₂.at fun o e => hk₃ _ o e
      have htg₃ : Tg C own h₃ := ⟨let ⟨m, hm⟩ := htg₂.1; ⟨m, hm.keeps hk₃⟩, fun m c hc => let ⟨u', hu⟩ := htg₂.2 m c hc; ⟨u', hu.keeps hk₃⟩⟩
      have hF₃ : Paired (r'.rd (Y ++ X) h₃) ys (((xs.take i).filter p).map f) := Paired.imp hF₂ fun _ _ q => r'.mono q (.of_keep hk₃)
      have hkp₃ : Keep s₁.heap h₃ := fun b o e => hk₃ b o (hkp₂ b o e)
      have htk : (xs.take (i + 1)).filter p = (xs.take i).filter p ++ (if p z then [z] else []) := take_succ_filter p xs i z hz
      cases hpz : p z with
      | false =>
        simp only [Bool.false_eq_true, if_false]
        exact ⟨n + 1 - (i + 1), turn_lt hlt, h₃, t₃, ys, i + 1, rfl, hst₃, hacc₃, htg₃, by rw [htk, hpz]; simpa using hF₃, hlt, rfl, hkp₃⟩
      | true =>
        simp only [if_true]
        refine Tr.gos (helt z hzm hpz cenv ce) (mkIn { s₁ with heap := h₃, toks := t₃ } (i + 1) u z hkp₃ htg₃ hst₃ ⟨_, hacc₃⟩ (hnm₂.keeps hk₃) hrd) fun y h₄ t₄ hk₄ hy => ?_
        have hysz : ys.length ≤ sizeLine := by
          have e1 := hF.length
          have e2 : ((xs.take i).filter p).length ≤ (xs.take i).length := List.length_filter_le _ _
          have e3 : (xs.take i).length ≤ xs.length := by simp; lia -abstractProof
          rw [List.length_map] at e1
          lia -abstractProof
        refine wpAny_list_append_plain (hsz := by simpa using hysz) (hacc₃.at fun o e => hk₄ _ o e) fun h₅ hl₅ hs₅ => ?_
        have hF₅ : Paired (r'.rd (Y ++ X) h₅) (ys ++ [y]) (((xs.take (i + 1)).filter p).map f) := by
          rw [htk, hpz, List.map_append]
          refine Paired.snoc (Paired.imp hF₃ fun _ _ q => r'.mono q fun b o hb e => hs₅.extBut b o (fun q => hb (q ▸ DY)) (hk₄ b o e)) ?_
          exact r'.mono hy fun b o hb e => hs₅.extBut b o (fun q => hb (q ▸ DY)) e
        refine ⟨n + 1 - (i + 1), turn_lt hlt, h₅, t₄, ys ++ [y], i + 1, rfl, W.frame _ _ _ hst₃ (fun b hb o e => hs₅.extBut b o (fun q => hDfp (q ▸ hb)) (hk₄ b o e)), by simpa using hl₅, ?_, hF₅, hlt, rfl,
          fun b o e => hs₅.extBut b o (fun q => by subst q; rw [fresh _ (Nat.le_refl _)] at e; cases e) (hk₄ b o (hkp₃ b o e))⟩
        refine ⟨let ⟨m, hm⟩ := htg₃.1; ⟨m, (hm.keeps hk₄).sameBut hs₅ (hYD C List.mem_cons_self)⟩, fun m c hc => ?_⟩
        obtain ⟨u', hu⟩ := htg₃.2 m c hc
        exact ⟨u', (hu.keeps hk₄).sameBut hs₅ (hYD c (List.mem_cons_of_mem _ (List.mem_map.mpr ⟨_, hc, rfl⟩)))⟩
    · have hin : i = n := at_end hi hlt
      subst hin
      refine W.done _ _ _ hst' fun h₁' tk₁ hk₁' => ?_
      have hDw : D ∉ wr := fun h => hDfp (W.sub _ h)
      refine Classical.byContradiction fun zG => ?_
      obtain ⟨⟨m, hm⟩, ho⟩ := htg'
      refine zG ?_
      clear zG
      have hpl := hacc'.at fun o e => hk₁' _ o hDw e
      refine hRR D C h₁' tk₁ m ys (fresh _ (Nat.le_refl _)) (hYn _ List.mem_cons_self) (Ne.symm (hYD C List.mem_cons_self)) (hm.at' fun o e => hk₁' _ o (fun h => hYfp C List.mem_cons_self (W.sub _ h)) e) hpl ?_
        (let ⟨n, e⟩ := hpl; ⟨_, e⟩) fun b o e => hk₁' b o (fun h => by rw [hwr b h] at e; cases e) (hkp b o e)
      have e1 : xs.take i = xs := List.take_of_length_le (by lia -abstractProof)
      rw [e1] at hF
      refine Paired.imp hF fun _ _ q => r'.weak (r'.mono q fun b o hb e => hk₁' b o (fun q => hb (wrY b q)) e) fun a ha => ?_
      rcases List.mem_cons.mp ha with rfl | ha
      · exact inY _ List.mem_cons_self
      · exact List.mem_append_right _ ha
  exact codeAny_compStart_list (loop _ rfl) (W.self 0 _ _ _ hst₁ (loop _ rfl))
end
end Mine.Internal
end
section
open PySem PySem.Calls
namespace Mine.Internal

section
variable {prog : Program} {w : World} {mg mb : Str → Option Value} {A : Around} {env : Env}

theorem Paired.get {α β : Type} {F : α → β → Prop} {l : List α} {m : List β} (p : Paired F l m) : ∀ {i : Nat} {a : α}, l[i]? = some a → ∃ b, m[i]? = some b ∧ F a b := by
  induction p with
  | nil => intro i a h; simp at h
  | @cons x y l₁ l₂ hxy _ ih =>
    intro i a h
    cases i with
    | zero => simp at h; subst h; exact ⟨y, by simp, hxy⟩
    | succ i => simp at h; simpa using ih h
theorem Paired.get' {α β : Type} {F : α → β → Prop} {l : List α} {m : List β} (p : Paired F l m) : ∀ {i : Nat} {b : β}, m[i]? = some b → ∃ a, l[i]? = some a ∧ F a b := by
  induction p with
  | nil => intro i a h; simp at h
  | @cons x y l₁ l₂ hxy _ ih =>
    intro i a h
    cases i with
    | zero => simp at h; subst h; exact ⟨x, by simp, hxy⟩
    | succ i => simp at h; simpa using ih h

theorem src_list {α : Type} {X : List Addr} {s : Shared} {v : Value} {r : Rep α} {xs : List α} (hh : A.handled = none) (h : (rList r).rd X s.heap v xs) : Src prog w A X s v r xs := by
  refine Classical.byContradiction fun zG => ?_
  obtain ⟨a, vs, rfl, ha, hl, hp⟩ := h
  refine zG ?_
  clear zG
  intro Q E hQ
  have hl' : s.heap.IsList a vs.toArray := hl
  refine Classical.byContradiction fun zG => ?_
  obtain ⟨o, ho, hr⟩ := id hl
  refine zG ?_
  clear zG
  have hne : a ≠ s.heap.objs.size := Nat.ne_of_lt (Heap.lt_size ho)
  refine wpAny_pyIter_list hl' (hQ _ [s.heap.objs.size, a] [s.heap.objs.size] _ _ _ _ (Keeps.of (keep_push _ _)) (Walks.list hh s.heap.objs.size a hne vs.toArray) ?_ ?_ ?_ ?_ ?_ ?_)
  · exact ⟨⟨_, Heap.get?_push_size _ rfl, rfl, rfl⟩, hl'.push _⟩
  · intro b hb
    show b < (s.heap.push _).objs.size
    rw [Heap.size_push]
    simp at hb
    rcases hb with rfl | rfl
    · exact Nat.lt_succ_self _
    · exact Nat.lt_succ_of_lt (Heap.lt_size ho)
  · intro b hb; simp at hb; subst hb; exact Heap.get?_none_of_le (Nat.le_refl _)
  · rintro i h ⟨⟨o, ho, _⟩, _⟩ b hb; simp at hb; subst hb; exact ⟨o, ho⟩
  · simpa using hp.length
  · intro i u hu
    exact Paired.get hp (by simpa using hu)

theorem src_tup {α : Type} {X : List Addr} {s : Shared} {v : Value} {r : Rep α} {xs : List α} (hh : A.handled = none) (h : (rTup r).rd X s.heap v xs) : Src prog w A X s v r xs := by
  refine Classical.byContradiction fun zG => ?_
  obtain ⟨a, vs, rfl, ha, hl, hp⟩ := h
  refine zG ?_
  clear zG
  intro Q E hQ
  have hl' : s.heap.IsTuple a vs.toArray := hl
  refine Classical.byContradiction fun zG => ?_
  obtain ⟨o, ho, hr⟩ := id hl
  refine zG ?_
  clear zG
  have hne : a ≠ s.heap.objs.size := Nat.ne_of_lt (Heap.lt_size ho)
  refine wpAny_pyIter_tuple hl' (hQ _ [s.heap.objs.size, a] [s.heap.objs.size] _ _ _ _ (Keeps.of (keep_push _ _)) (Walks.tuple hh s.heap.objs.size a hne vs.toArray) ?_ ?_ ?_ ?_ ?_ ?_)
  · exact ⟨⟨_, Heap.get?_push_size _ rfl, rfl, rfl⟩, ⟨o, Heap.get?_push_of_some _ ho, hr⟩⟩
  · intro b hb
    show b < (s.heap.push _).objs.size
    rw [Heap.size_push]
    simp at hb
    rcases hb with rfl | rfl
    · exact Nat.lt_succ_self _
    · exact Nat.lt_succ_of_lt (Heap.lt_size ho)
  · intro b hb; simp at hb; subst hb; exact Heap.get?_none_of_le (Nat.le_refl _)
  · rintro i h ⟨⟨o, ho, _⟩, _⟩ b hb; simp at hb; subst hb; exact ⟨o, ho⟩
  · simpa using hp.length
  · intro i u hu
    exact Paired.get hp (by simpa using hu)

-- an expression whose value is walked
noncomputable def EvS {α : Type} (prog : Program) (w : World) (mg mb : Str → Option Value) (A : Around) (env : Env) (ρ : Vs) (e : Expr) (r : Rep α) (xs : List α) : Prop :=
  ∀ X s E, In mg mb X env ρ s → wpAny (model prog w) A (eval e env) (fun v s' => Keeps s s' ∧ Src prog w A X s' v r xs) E s
theorem evs_list {α : Type} {ρ : Vs} {e : Expr} {r : Rep α} {xs : List α} (hh : A.handled = none) (h : Ev prog w mg mb A env ρ e (rList r) xs) : EvS prog w mg mb A env ρ e r xs :=
  fun X s E i => wpAny_mono (h X s i E) (fun _ _ q => ⟨q.1, src_list hh q.2⟩) fun _ _ e => e
theorem evs_tup {α : Type} {ρ : Vs} {e : Expr} {r : Rep α} {xs : List α} (hh : A.handled = none) (h : Ev prog w mg mb A env ρ e (rTup r) xs) : EvS prog w mg mb A env ρ e r xs :=
  fun X s E i => wpAny_mono (h X s i E) (fun _ _ q => ⟨q.1, src_tup hh q.2⟩) fun _ _ e => e

-- the names that a comprehension takes from around
structure Frees (scope : Scope) (env : Env) (ρ ρ' : Vs) : Prop where
  all : ∀ y ∈ scope.names, y.2 = .free → ∃ U, ρ'.lookup y.1 = some U
  here : ∀ y U, ρ'.lookup y = some U → scope.names.lookup y = some .free ∧ (∀ k, (y, k) ∈ scope.names → k ≠ .cell) ∧ env.kindOf y ≠ some .local ∧ ρ.lookup y = some U
theorem Frees.nil {scope : Scope} {env : Env} {ρ : Vs} (h : ∀ y ∈ scope.names, y.2 ≠ .free) : Frees scope env ρ [] := ⟨fun y hy e => absurd e (h y hy), fun _ _ h => nomatch h⟩

theorem frees_cell {scope : Scope} {ρ ρ' : Vs} (F : Frees scope env ρ ρ') {X : List Addr} {s : Shared} (i : In mg mb X env ρ s) {y : Str} {U : V} (h : ρ'.lookup y = some U) :
    ∃ c u, env.cells.lookup y = some c ∧ s.heap.IsCell c (some u) ∧ U.r.rd X s.heap u U.x := by
  refine Classical.byContradiction fun zG => ?_
  obtain ⟨_, _, h3, h4⟩ := F.here y U h
  refine zG ?_
  clear zG
  refine Classical.byContradiction fun zG => ?_
  obtain ⟨u, hn, hr⟩ := i.vars y U h4
  refine zG ?_
  clear zG
  rcases hn with ⟨a, _⟩ | ⟨_, c, hc, hu⟩
  · exact absurd a h3
  · exact ⟨c, u, hc, hu, hr⟩

theorem ev_comp {α β : Type} {elt iter : Expr} {x : Str} {px : Pos} {ifs : List Expr} {scope : Scope} {pos : Pos} {r : Rep α} {xs : List α} {r' : Rep β} {p : α → Bool} {f : α → β} {ρ ρ' : Vs}
    (hit : EvS prog w mg mb A env ρ iter r xs) (F : Frees scope env ρ ρ')
    (htest : ∀ z ∈ xs, ∀ cenv, CEnv scope env cenv → TstAll prog w mg mb A cenv ((x, ⟨r, z⟩) :: ρ') ifs (p z))
    (helt : ∀ z ∈ xs, p z = true → ∀ cenv, CEnv scope env cenv → Ev prog w mg mb A cenv ((x, ⟨r, z⟩) :: ρ') elt r' (f z))
    (hlen : xs.length ≤ sizeLine) (hk : scope.kind = .function) (hx : scope.names.lookup x = some .local ∨ scope.names.lookup x = some .cell)
    (hnames : ∀ y ∈ scope.names, y.2 = .local → scope.names.lookup y.1 = some .local)
    (hs : ∀ x, foldedSetIterable iter env x = pure x := by intro _; rfl) :
    Ev prog w mg mb A env ρ (.ListComp elt [⟨.Name x px, iter, ifs, 0⟩] scope pos) (rList r') ((xs.filter p).map f) := by
  intro X s i E
  have hg : ∀ y ∈ scope.names, y.2 = .free → env.cells.lookup y.1 = some ((env.cells.lookup y.1).getD 0) := fun y hy e => by
    obtain ⟨U, hU⟩ := F.all y hy e
    refine Classical.byContradiction fun zG => ?_
    obtain ⟨c, u, hc, _⟩ := frees_cell F i hU
    refine zG ?_
    clear zG
    rw [hc]; rfl
  refine Classical.byContradiction fun zG => ?_
  obtain ⟨cl, hcl, hclg, hclf⟩ := closureFor_eq (fun y => (env.cells.lookup y).getD 0) hg
  refine zG ?_
  clear zG
  rw [eval_ListComp]
  refine wpAny_comprehension_free (use := none) rfl hs hcl hk hnames (wpAny_mono (hit X s E i) (fun v s₁ h₁ => ?_) fun _ _ e => e)
  obtain ⟨k₁, hsrc⟩ := h₁
  have i₁ := i.keeps k₁
  refine comp_core (RR := fun acc C => compPost (model prog w) A E none _ acc C) hsrc i₁ hclg hclf hk hx ?_ htest helt hlen ?_
  · intro y U hU
    refine Classical.byContradiction fun zG => ?_
    obtain ⟨h1, h2, h3, h4⟩ := F.here y U hU
    refine zG ?_
    clear zG
    refine Classical.byContradiction fun zG => ?_
    obtain ⟨c, u, hc, hu, hr⟩ := frees_cell F i₁ hU
    refine zG ?_
    clear zG
    refine ⟨h1, h2, u, ?_, hr⟩
    rw [hc]; exact hu
  · intro D C h' tk m' ys hD hC hDC hn hpl hF hDo hkp
    refine ⟨m', hn, fun h'' hs'' => ⟨Keeps.trans k₁ (Keeps.of fun b o e => hs''.extBut b o (fun q => by subst q; rw [hC] at e; cases e) (hkp b o e)), ?_⟩⟩
    obtain ⟨n, hpl'⟩ := hpl
    have hDX : D ∉ X := fun h => by obtain ⟨o, ho⟩ := i₁.here D h; rw [hD] at ho; cases ho
    exact ⟨D, ys, rfl, hDX, ⟨_, hs''.extBut D _ hDC hpl', rfl, n, rfl⟩, Paired.imp hF fun _ _ q => r'.weak (r'.mono q (.of_same hs'' List.mem_cons_self)) fun a ha => List.mem_cons_of_mem _ ha⟩

theorem Fm.sameDict {s₀ s : Shared} {X : List Addr} {ρ : Vs} {C : Addr} {m : Str → Option Value} {h' : Heap} (F : Fm mg mb s₀ env X ρ s) (hn : s.heap.Ns C m) (h0 : s₀.heap.get? C = none) (hL : C ≠ env.locals) (hX : C ∉ X)
    (hs : Heap.SameBut C s.heap h') : Fm mg mb s₀ env X ρ { s with heap := h' } := by
  refine Classical.byContradiction fun zG => ?_
  obtain ⟨mm, cm, fr⟩ := F.fr
  refine zG ?_
  clear zG
  have notCell : ∀ c v, s.heap.IsCell c v → c ≠ C := fun c v ⟨o, ho, hd⟩ e => by
    subst e
    refine Classical.byContradiction fun zG => ?_
    obtain ⟨o', es, ep, ho', hd', _⟩ := hn
    refine zG ?_
    clear zG
    rw [ho] at ho'; cases ho'
    rw [hd] at hd'; cases hd'
  have fr' : InCallC s₀ env.locals mm env.cells cm { s with heap := h' } := by
    refine ⟨⟨?_, fr.toInCall.ns.sameBut hs (Ne.symm hL), fun b o e => ?_, fr.toInCall.fresh⟩, fun k c hc => ?_, fr.apart, fr.above⟩
    · obtain ⟨h₁, tk, e⟩ := fr.toInCall.same
      rw [e]; exact ⟨h', _, rfl⟩
    · exact hs.extBut b o (fun q => by subst q; rw [h0] at e; cases e) (fr.toInCall.keep b o e)
    · exact (fr.cell k c hc).sameBut hs (notCell c _ (fr.cell k c hc))
  refine ⟨F.gl0, ⟨F.gl0.keeps fr'.toInCall.keep, F.inn.en, ?_, ?_⟩, ⟨_, _, fr'⟩, F.lX, F.cX⟩
  · intro y W hy
    refine Classical.byContradiction fun zG => ?_
    obtain ⟨u, hu, hr⟩ := F.inn.vars y W hy
    refine zG ?_
    clear zG
    refine ⟨u, ?_, W.r.weak (W.r.mono (W.r.dict hr hn) (.of_same hs List.mem_cons_self)) fun a ha => List.mem_cons_of_mem _ ha⟩
    rcases hu with ⟨a, m', b, d⟩ | ⟨a, c, b, d⟩
    · exact .inl ⟨a, m', b.sameBut hs (Ne.symm hL), d⟩
    · exact .inr ⟨a, c, b, d.sameBut hs (notCell c _ d)⟩
  · intro a ha
    obtain ⟨o, ho⟩ := F.inn.here a ha
    exact ⟨o, hs.extBut a o (fun q => hX (q ▸ ha)) ho⟩

-- statements from a frame on
noncomputable def Blk (prog : Program) (w : World) (mg mb : Str → Option Value) (A : Around) (s₀ : Shared) (env : Env) (X : List Addr) (ρ : Vs) (b : List Stmt) (Q : Flow → Shared → Prop) (E : Value → Shared → Prop) : Prop :=
  ∀ s, Fm mg mb s₀ env X ρ s → wpAny (model prog w) A (execs b env) Q E s

section
variable {s₀ : Shared} {X : List Addr} {ρ : Vs} {rest : List Stmt} {Q : Flow → Shared → Prop} {E : Value → Shared → Prop}

theorem blk_assign {α : Type} {e : Expr} {x : Str} {px pos : Pos} {r : Rep α} {y : α} (he : Ev prog w mg mb A env ρ e r y)
    (hx : env.kindOf x = some .local ∨ (env.kindOf x = some .cell ∧ ∃ c, env.cells.lookup x = some c))
    (h : Blk prog w mg mb A s₀ env X ((x, ⟨r, y⟩) :: ρ) rest Q E)
    (hsw : swapsWith e (some (.Name x px)) pos.line env = pure false := by rfl) : Blk prog w mg mb A s₀ env X ρ (.Assign [.Name x px] e pos :: rest) Q E := by
  intro s F
  refine wpAny_execs_cons (wpAny_Assign_Name (wpAny_mono (he X s F.inn E) (fun v s₁ h₁ => ?_) fun _ _ e => e) hsw)
  exact store (U := ⟨r, y⟩) (F.keeps h₁.1) hx h₁.2 fun s' F' _ => h s' F'

theorem blk_assign_comp {α β : Type} {elt iter : Expr} {x y : Str} {px py : Pos} {ifs : List Expr} {scope : Scope} {pos spos : Pos} {r : Rep α} {xs : List α} {r' : Rep β} {p : α → Bool} {f : α → β} {ρ' : Vs}
    (hit : EvS prog w mg mb A env ρ iter r xs) (Fr : Frees scope env ρ ρ')
    (htest : ∀ z ∈ xs, ∀ cenv, CEnv scope env cenv → TstAll prog w mg mb A cenv ((x, ⟨r, z⟩) :: ρ') ifs (p z))
    (helt : ∀ z ∈ xs, p z = true → ∀ cenv, CEnv scope env cenv → Ev prog w mg mb A cenv ((x, ⟨r, z⟩) :: ρ') elt r' (f z))
    (h : Blk prog w mg mb A s₀ env X ((y, ⟨rList r', (xs.filter p).map f⟩) :: ρ) rest Q E)
    (hlen : xs.length ≤ sizeLine) (hk : scope.kind = .function) (hx : scope.names.lookup x = some .local ∨ scope.names.lookup x = some .cell)
    (hnames : ∀ y ∈ scope.names, y.2 = .local → scope.names.lookup y.1 = some .local) (hy : env.kindOf y = some .local)
    (hsw : swapsWith (.ListComp elt [⟨.Name x px, iter, ifs, 0⟩] scope pos) (some (.Name y py)) spos.line env = pure true)
    (hs : ∀ x, foldedSetIterable iter env x = pure x := by intro _; rfl) :
    Blk prog w mg mb A s₀ env X ρ (.Assign [.Name y py] (.ListComp elt [⟨.Name x px, iter, ifs, 0⟩] scope pos) spos :: rest) Q E := by
  intro s F
  have i := F.inn
  have hg : ∀ y ∈ scope.names, y.2 = .free → env.cells.lookup y.1 = some ((env.cells.lookup y.1).getD 0) := fun y hy e => by
    obtain ⟨U, hU⟩ := Fr.all y hy e
    refine Classical.byContradiction fun zG => ?_
    obtain ⟨c, u, hc, _⟩ := frees_cell Fr i hU
    refine zG ?_
    clear zG
    rw [hc]; rfl
  refine Classical.byContradiction fun zG => ?_
  obtain ⟨cl, hcl, hclg, hclf⟩ := closureFor_eq (fun y => (env.cells.lookup y).getD 0) hg
  refine zG ?_
  clear zG
  refine wpAny_execs_cons ?_
  rw [exec_Assign_Name_used _ _ _ _ hsw]
  refine wpAny_bind (wpAny_standAt (wpAny_bind ?_))
  show wpAny _ A (do let _ ← comprehension (.ListComp elt [⟨.Name x px, iter, ifs, 0⟩] scope pos) scope env _ (newList []) false (eval iter env) (some (assign (.Name y py) env))) _ _ s
  refine wpAny_bind (wpAny_mono (wpAny_comprehension_free (use := some (assign (.Name y py) env)) (Q := fun _ s' => wpAny (model prog w) A (execs rest env) Q E s') rfl hs hcl hk hnames
    (wpAny_mono (hit X s E i) (fun v s₁ h₁ => ?_) fun _ _ e => e)) (fun _ s' hq => wpAny_pure (wpAny_pure hq)) fun _ _ e => e)
  obtain ⟨k₁, hsrc⟩ := h₁
  have F₁ := F.keeps k₁
  have i₁ := F₁.inn
  refine comp_core (RR := fun acc C => compPost (model prog w) A E (some (assign (.Name y py) env)) _ acc C) hsrc i₁ hclg hclf hk hx ?_ htest helt hlen ?_
  · intro y U hU
    refine Classical.byContradiction fun zG => ?_
    obtain ⟨h1, h2, h3, h4⟩ := Fr.here y U hU
    refine zG ?_
    clear zG
    refine Classical.byContradiction fun zG => ?_
    obtain ⟨c, u, hc, hu, hr⟩ := frees_cell Fr i₁ hU
    refine zG ?_
    clear zG
    refine ⟨h1, h2, u, ?_, hr⟩
    rw [hc]; exact hu
  · intro D C h' tk m' ys hD hC hDC hn hpl hF hDo hkp
    have F₂ := F₁.keeps (Keeps.of (t := tk) hkp)
    refine Classical.byContradiction fun zG => ?_
    obtain ⟨mm, cm, fr₁⟩ := F₁.fr
    refine zG ?_
    clear zG
    have hLC : C ≠ env.locals := by
      intro q; subst q
      obtain ⟨o, _, _, ho, _⟩ := fr₁.toInCall.ns; rw [hC] at ho; cases ho
    have hCX : C ∉ X := fun q => by obtain ⟨o, ho⟩ := i₁.here C q; rw [hC] at ho; cases ho
    have hDX : D ∉ X := fun h => by obtain ⟨o, ho⟩ := i₁.here D h; rw [hD] at ho; cases ho
    have hC0 : s₀.heap.get? C = none := by
      cases e : s₀.heap.get? C with
      | none => rfl
      | some o => have := fr₁.toInCall.keep C o e; rw [hC] at this; cases this
    show wpAny _ A (assign (.Name y py) env (.ref D)) _ _ _
    obtain ⟨n, hpl'⟩ := hpl
    refine wpAny_assign_Name (store (U := ⟨rList r', (xs.filter p).map f⟩) F₂ (.inl hy)
      ⟨D, ys, rfl, hDX, ⟨_, hpl', rfl, n, rfl⟩, Paired.imp hF fun _ _ q => r'.weak q fun a ha => List.mem_cons_of_mem _ ha⟩ fun s₃ F₃ hsb => ?_)
    refine Classical.byContradiction fun zG => ?_
    obtain ⟨a, haX, hsb⟩ := hsb
    refine zG ?_
    clear zG
    have hn₃ := hn.sameBut hsb (fun q => hCX (q ▸ haX))
    exact ⟨m', hn₃, fun h₄ hs₄ => h _ (F₃.sameDict hn₃ hC0 hLC hCX hs₄)⟩
end
end
end Mine.Internal
end
section
open PySem PySem.Calls
namespace Mine.Internal

noncomputable def Hr (X : List Addr) (s : Shared) : Prop := ∀ a ∈ X, ∃ o, s.heap.get? a = some o

section
variable {prog : Program} {w : World} {mg mb : Str → Option Value} {A : Around} {env : Env} {ρ : Vs}

theorem ev_name {α : Type} {x : Str} {pos : Pos} {r : Rep α} {d : α} (h : ρ.lookup x = some ⟨r, d⟩) (hd : (x == ("__debug__" : Str)) = false := by decide) (hc : (x == ("__classdict__" : Str)) = false := by decide) :
    Ev prog w mg mb A env ρ (.Name x pos) r d := by
  intro X s i E
  refine Classical.byContradiction fun zG => ?_
  obtain ⟨v, hn, hr⟩ := i.vars x _ h
  refine zG ?_
  clear zG
  refine wpAny_Name ?_ hd
  rcases hn with ⟨hk, m, hm, hv⟩ | ⟨hk, c, hcl, hv⟩
  · exact wpAny_loadName_local i.en.2.2 hk hm hv ⟨Keeps.refl _, hr⟩
  · rcases hk with hk | hk
    · exact wpAny_loadName_cell i.en.2.2 hk hcl hv ⟨Keeps.refl _, hr⟩
    · exact wpAny_loadName_free i.en.2.2 hk hcl hv ⟨Keeps.refl _, hr⟩ hc

theorem ev_int {k : Int} {j : Nat} {pos : Pos} : Ev prog w mg mb A env ρ (.Constant (.int k) j pos) rInt k :=
  fun _ _ _ _ => wpAny_Constant_int ⟨Keeps.tok _ _, _, rfl⟩
theorem ev_str {x : Str} {j : Nat} {pos : Pos} : Ev prog w mg mb A env ρ (.Constant (.str x) j pos) rStr x :=
  fun _ _ _ _ => Constant_str ⟨Keeps.tok _ _, _, rfl⟩
theorem ev_true {b : Bool} {j : Nat} {pos : Pos} : Ev prog w mg mb A env ρ (.Constant (.bool b) j pos) rBool b :=
  fun _ _ _ _ => PyProof.Rows.Constant_bool ⟨Keeps.refl _, rfl⟩
theorem ev_none {j : Nat} {pos : Pos} : Ev prog w mg mb A env ρ (.Constant .none j pos) (rIs .none) () :=
  fun _ _ _ _ => PyProof.Rows.Constant_none ⟨Keeps.refl _, rfl⟩
theorem ev_bytes {b : List UInt8} {j : Nat} {pos : Pos} : Ev prog w mg mb A env ρ (.Constant (.bytes b) j pos) rBytes b.toArray :=
  fun _ s _ _ _ _ _ => ⟨Keeps.tok _ _, _, rfl⟩

theorem ev_binop {α β γ : Type} {l rr : Expr} {op : Operator} {pos : Pos} {r1 : Rep α} {x : α} {r2 : Rep β} {y : β} {r : Rep γ} {z : γ} (h1 : Ev prog w mg mb A env ρ l r1 x) (h2 : Ev prog w mg mb A env ρ rr r2 y)
    (h3 : ∀ X s a b, Hr X s → r1.rd X s.heap a x → r2.rd X s.heap b y → Sv prog w A (binaryOp op a b) X s r z) : Ev prog w mg mb A env ρ (.BinOp l op rr pos) r z := by
  intro X s i E
  refine wpAny_BinOp (wpAny_mono (h1 X s i E) (fun a s₁ q₁ => wpAny_mono (h2 X s₁ (i.keeps q₁.1) E) (fun b s₂ q₂ => ?_) fun _ _ e => e) fun _ _ e => e)
  exact wpAny_mono (h3 X s₂ a b ((i.keeps q₁.1).keeps q₂.1).here (r1.mono q₁.2 (.of_keep (Keeps.keep q₂.1))) q₂.2 E) (fun v s₃ q₃ => ⟨Keeps.trans q₁.1 (Keeps.trans q₂.1 q₃.1), q₃.2⟩) fun _ _ e => e

theorem ev_cmp {α β γ : Type} {l rr : Expr} {op : CmpOp} {pos : Pos} {r1 : Rep α} {x : α} {r2 : Rep β} {y : β} {r : Rep γ} {z : γ} (h1 : Ev prog w mg mb A env ρ l r1 x) (h2 : Ev prog w mg mb A env ρ rr r2 y)
    (h3 : ∀ X s a b, Hr X s → r1.rd X s.heap a x → r2.rd X s.heap b y → Sv prog w A (compareOp op a b) X s r z) (hm : behindInMarks op rr = false := by with_unfolding_all rfl) : Ev prog w mg mb A env ρ (.Compare l [op] [rr] pos) r z := by
  intro X s i E
  refine wpAny_Compare1 (wpAny_mono (h1 X s i E) (fun a s₁ q₁ => wpAny_mono (h2 X s₁ (i.keeps q₁.1) E) (fun b s₂ q₂ => ?_) fun _ _ e => e) fun _ _ e => e) hm
  exact wpAny_mono (h3 X s₂ a b ((i.keeps q₁.1).keeps q₂.1).here (r1.mono q₁.2 (.of_keep (Keeps.keep q₂.1))) q₂.2 E) (fun v s₃ q₃ => ⟨Keeps.trans q₁.1 (Keeps.trans q₂.1 q₃.1), q₃.2⟩) fun _ _ e => e

theorem tst_cmp {α β : Type} {l rr : Expr} {op : CmpOp} {pos : Pos} {r1 : Rep α} {x : α} {r2 : Rep β} {y : β} {z : Bool} (h1 : Ev prog w mg mb A env ρ l r1 x) (h2 : Ev prog w mg mb A env ρ rr r2 y)
    (h3 : ∀ X s a b, Hr X s → r1.rd X s.heap a x → r2.rd X s.heap b y → Sv prog w A (compareOp op a b) X s rBool z) (hm : behindInMarks op rr = false := by with_unfolding_all rfl) : Tst prog w mg mb A env ρ (.Compare l [op] [rr] pos) z := by
  intro X s E i
  refine wpAny_isTrue_Compare1 (wpAny_mono (h1 X s i E) (fun a s₁ q₁ => wpAny_mono (h2 X s₁ (i.keeps q₁.1) E) (fun b s₂ q₂ => ?_) fun _ _ e => e) fun _ _ e => e) hm
  refine wpAny_mono (h3 X s₂ a b ((i.keeps q₁.1).keeps q₂.1).here (r1.mono q₁.2 (.of_keep (Keeps.keep q₂.1))) q₂.2 E) (fun v s₃ q₃ => ?_) fun _ _ e => e
  obtain ⟨k₃, hv⟩ := q₃
  have hv' : v = .bool z := hv
  subst hv'
  exact wpAny_truthy_bool ⟨Keeps.trans q₁.1 (Keeps.trans q₂.1 k₃), rfl⟩

theorem tst_plain {α : Type} {e : Expr} {r : Rep α} {x : α} {b : Bool} (h : Ev prog w mg mb A env ρ e r x) (ht : ∀ X s v E, r.rd X s.heap v x → wpAny (model prog w) A (truthy v) (fun c s' => Keeps s s' ∧ c = b) E s)
    (he : ∀ whole, isTrue e env whole = (do let v ← whole; standAt e.pos; holding [v] (truthy v)) := by intro _; rfl) : Tst prog w mg mb A env ρ e b := by
  intro X s E i
  refine PyProof.Rows.isTrue_plain (wpAny_mono (h X s i E) (fun v s₁ q₁ => ?_) fun _ _ e => e) (he _)
  exact wpAny_mono (ht X s₁ v E q₁.2) (fun c s₂ q₂ => ⟨Keeps.trans q₁.1 q₂.1, q₂.2⟩) fun _ _ e => e

theorem tst_not {e : Expr} {pos : Pos} {b : Bool} (h : Tst prog w mg mb A env ρ e b) : Tst prog w mg mb A env ρ (.UnaryOp .Not e pos) (!b) := by
  intro X s E i
  exact PyProof.Rows.isTrue_not (wpAny_mono (h X s E i) (fun c s' q => ⟨q.1, by rw [q.2]⟩) fun _ _ e => e)

theorem tst_and {e₁ e₂ : Expr} {pos : Pos} {b₁ b₂ : Bool} (h₁ : Tst prog w mg mb A env ρ e₁ b₁) (h₂ : b₁ = true → Tst prog w mg mb A env ρ e₂ b₂) : Tst prog w mg mb A env ρ (.BoolOp .And [e₁, e₂] pos) (b₁ && b₂) := by
  intro X s E i
  refine PyProof.Rows.isTrue_and (wpAny_mono (h₁ X s E i) (fun c s₁ q₁ => ?_) fun _ _ e => e)
  obtain ⟨k₁, rfl⟩ := q₁
  cases c with
  | false => exact ⟨k₁, rfl⟩
  | true =>
    simp only [if_true]
    refine PyProof.Rows.isTrue_and (wpAny_mono (h₂ rfl X s₁ E (i.keeps k₁)) (fun c s₂ q₂ => ?_) fun _ _ e => e)
    obtain ⟨k₂, rfl⟩ := q₂
    cases c with
    | false => exact ⟨Keeps.trans k₁ k₂, rfl⟩
    | true => exact PyProof.Rows.isTrue_and_nil ⟨Keeps.trans k₁ k₂, rfl⟩

theorem ev_ifexp {α : Type} {t b o : Expr} {pos : Pos} {r : Rep α} {x : α} {c : Bool} (ht : Tst prog w mg mb A env ρ t c) (hb : c = true → Ev prog w mg mb A env ρ b r x) (ho : c = false → Ev prog w mg mb A env ρ o r x) :
    Ev prog w mg mb A env ρ (.IfExp t b o pos) r x := by
  intro X s i E
  refine PyProof.Rows.IfExp_ (wpAny_mono (ht X s E i) (fun c' s₁ q₁ => ?_) fun _ _ e => e)
  obtain ⟨k₁, rfl⟩ := q₁
  cases c' with
  | true => exact wpAny_mono (hb rfl X s₁ (i.keeps k₁) E) (fun v s₂ q₂ => ⟨Keeps.trans k₁ q₂.1, q₂.2⟩) fun _ _ e => e
  | false => exact wpAny_mono (ho rfl X s₁ (i.keeps k₁) E) (fun v s₂ q₂ => ⟨Keeps.trans k₁ q₂.1, q₂.2⟩) fun _ _ e => e

-- of two bools, the second asked where the first is so
theorem ev_and {e₁ e₂ : Expr} {pos : Pos} {b₁ b₂ : Bool} (h₁ : Ev prog w mg mb A env ρ e₁ rBool b₁) (h₂ : b₁ = true → Ev prog w mg mb A env ρ e₂ rBool b₂) : Ev prog w mg mb A env ρ (.BoolOp .And [e₁, e₂] pos) rBool (b₁ && b₂) := by
  intro X s i E
  refine PyProof.Rows.BoolOp_and (wpAny_mono (h₁ X s i E) (fun v s₁ q₁ => ?_) fun _ _ e => e)
  obtain ⟨k₁, hv⟩ := q₁
  have hv' : v = .bool b₁ := hv
  subst hv'
  refine wpAny_truthy_bool ?_
  cases b₁ with
  | false => exact ⟨k₁, rfl⟩
  | true =>
    simp only [if_true]
    exact wpAny_mono (h₂ rfl X s₁ (i.keeps k₁) E) (fun v s₂ q₂ => ⟨Keeps.trans k₁ q₂.1, q₂.2⟩) fun _ _ e => e

theorem ev_or {α : Type} {e₁ e₂ : Expr} {pos : Pos} {r : Rep α} {x y : α} {b : Bool} (h₁ : Ev prog w mg mb A env ρ e₁ r x) (ht : ∀ X s v E, r.rd X s.heap v x → wpAny (model prog w) A (truthy v) (fun c s' => Keeps s s' ∧ c = b) E s)
    (h₂ : b = false → Ev prog w mg mb A env ρ e₂ r y) : Ev prog w mg mb A env ρ (.BoolOp .Or [e₁, e₂] pos) r (if b then x else y) := by
  intro X s i E
  refine PyProof.Rows.BoolOp_or (wpAny_mono (h₁ X s i E) (fun v s₁ q₁ => ?_) fun _ _ e => e)
  refine wpAny_mono (ht X s₁ v E q₁.2) (fun c s₂ q₂ => ?_) fun _ _ e => e
  obtain ⟨k₂, rfl⟩ := q₂
  cases c with
  | true => exact ⟨Keeps.trans q₁.1 k₂, r.mono q₁.2 (.of_keep (Keeps.keep k₂))⟩
  | false =>
    simp only [Bool.false_eq_true, if_false]
    exact wpAny_mono (h₂ rfl X s₂ ((i.keeps q₁.1).keeps k₂) E) (fun v s₃ q₃ => ⟨Keeps.trans q₁.1 (Keeps.trans k₂ q₃.1), q₃.2⟩) fun _ _ e => e

theorem ev_sub {α β γ : Type} {value slice : Expr} {pos : Pos} {r1 : Rep α} {x : α} {r2 : Rep β} {y : β} {r : Rep γ} {z : γ} (h1 : Ev prog w mg mb A env ρ value r1 x) (h2 : Ev prog w mg mb A env ρ slice r2 y)
    (h3 : ∀ X s a b, Hr X s → r1.rd X s.heap a x → r2.rd X s.heap b y → Sv prog w A (PyProof.Rows.subscriptTail value slice a b) X s r z) : Ev prog w mg mb A env ρ (.Subscript value slice pos) r z := by
  intro X s i E
  refine PyProof.Rows.Subscript_ (wpAny_mono (h1 X s i E) (fun a s₁ q₁ => wpAny_mono (h2 X s₁ (i.keeps q₁.1) E) (fun b s₂ q₂ => ?_) fun _ _ e => e) fun _ _ e => e)
  exact wpAny_mono (h3 X s₂ a b ((i.keeps q₁.1).keeps q₂.1).here (r1.mono q₁.2 (.of_keep (Keeps.keep q₂.1))) q₂.2 E) (fun v s₃ q₃ => ⟨Keeps.trans q₁.1 (Keeps.trans q₂.1 q₃.1), q₃.2⟩) fun _ _ e => e

-- a slice object
noncomputable def rSlice : Rep (Option Int × Option Int) where
  rd := fun X h v p => ∃ a vl vu, v = .ref a ∧ a ∉ X ∧ h.IsSliceOf a vl vu .none ∧ IsPart vl p.1 ∧ IsPart vu p.2
  mono := fun zh k => by
    refine Classical.byContradiction fun zG => ?_
    obtain ⟨a, vl, vu, e, ha, ⟨o, ho, hr⟩, q⟩ := zh
    exact zG ⟨a, vl, vu, e, ha, ⟨o, k _ _ ha ho, hr⟩, q⟩
  add := fun zh hn => by
    refine Classical.byContradiction fun zG => ?_
    obtain ⟨a, vl, vu, e, ha, ⟨o, ho, hr⟩, q⟩ := zh
    exact zG ⟨a, vl, vu, e, by
        intro hm
        rcases List.mem_cons.mp hm with rfl | hm
        · rw [hn] at ho; cases ho
        · exact ha hm, ⟨o, ho, hr⟩, q⟩
  weak := fun zh hs => by
    refine Classical.byContradiction fun zG => ?_
    obtain ⟨a, vl, vu, e, ha, p, q⟩ := zh
    exact zG ⟨a, vl, vu, e, fun hm => ha (hs _ hm), p, q⟩
  dict := fun zh hn => by
    refine Classical.byContradiction fun zG => ?_
    obtain ⟨a, vl, vu, e, ha, ⟨o, ho, hc, hd⟩, q⟩ := zh
    exact zG ⟨a, vl, vu, e, by
        intro hm
        rcases List.mem_cons.mp hm with rfl | hm
        · obtain ⟨o', es, ep, ho', hd', _⟩ := hn
          rw [ho] at ho'; cases ho'
          rw [hd] at hd'; cases hd'
        · exact ha hm, ⟨o, ho, hc, hd⟩, q⟩

-- a slice's part: none, or an int
noncomputable def EvP (prog : Program) (w : World) (mg mb : Str → Option Value) (A : Around) (env : Env) (ρ : Vs) (e : Option Expr) (x : Option Int) : Prop :=
  ∀ X s E, In mg mb X env ρ s → wpAny (model prog w) A (evalPart e env) (fun v s' => Keeps s s' ∧ IsPart v x) E s
theorem evp_none : EvP prog w mg mb A env ρ none none := fun _ _ _ _ => wpAny_of_eq (evalPart_none env) ⟨Keeps.refl _, .none⟩
theorem evp_some {e : Expr} {k : Int} (h : Ev prog w mg mb A env ρ e rInt k) : EvP prog w mg mb A env ρ (some e) (some k) := fun X s E i => by
  rw [evalPart_some]
  refine wpAny_mono (h X s i E) (fun v s' q => ⟨q.1, ?_⟩) fun _ _ e => e
  obtain ⟨t, rfl⟩ := q.2
  exact .int k t
theorem not_in_X {X : List Addr} {s : Shared} (h : Hr X s) : s.heap.objs.size ∉ X := fun hm => by
  obtain ⟨o, ho⟩ := h _ hm
  exact absurd (Heap.lt_size ho) (Nat.lt_irrefl _)
theorem ev_slice {lo hi : Option Expr} {pos : Pos} {x y : Option Int} (h1 : EvP prog w mg mb A env ρ lo x) (h2 : EvP prog w mg mb A env ρ hi y) : Ev prog w mg mb A env ρ (.Slice lo hi none pos) rSlice (x, y) := by
  intro X s i E
  refine wpAny_Slice (wpAny_mono (h1 X s E i) (fun a s₁ q₁ => wpAny_mono (h2 X s₁ E (i.keeps q₁.1)) (fun b s₂ q₂ => ?_) fun _ _ e => e) fun _ _ e => e)
  refine wpAny_of_eq (evalPart_none env) ⟨Keeps.trans q₁.1 (Keeps.trans q₂.1 (Keeps.of (keep_push _ _))), ?_⟩
  exact ⟨_, a, b, rfl, not_in_X ((i.keeps q₁.1).keeps q₂.1).here, Heap.IsSliceOf.new _ _ _ _, q₁.2, q₂.2⟩

theorem tst_chain {α β γ : Type} {l c₁ c₂ : Expr} {o₁ o₂ : CmpOp} {pos : Pos} {r1 : Rep α} {x : α} {r2 : Rep β} {y : β} {r3 : Rep γ} {z : γ} {b₁ b₂ : Bool} (h1 : Ev prog w mg mb A env ρ l r1 x) (h2 : Ev prog w mg mb A env ρ c₁ r2 y)
    (h3 : Ev prog w mg mb A env ρ c₂ r3 z) (g1 : ∀ X s a b, Hr X s → r1.rd X s.heap a x → r2.rd X s.heap b y → Sv prog w A (compareOp o₁ a b) X s rBool b₁)
    (g2 : ∀ X s a b, Hr X s → r2.rd X s.heap a y → r3.rd X s.heap b z → Sv prog w A (compareOp o₂ a b) X s rBool b₂) (hm : lastMarks [o₁, o₂] [c₁, c₂] = false := by with_unfolding_all rfl) :
    Tst prog w mg mb A env ρ (.Compare l [o₁, o₂] [c₁, c₂] pos) (b₁ && b₂) := by
  intro X s E i
  refine PyProof.Rows.isTrue_chain (wpAny_mono (h1 X s i E) (fun a s₁ q₁ => ?_) fun _ _ e => e) hm
  refine PyProof.Rows.test_link (wpAny_mono (h2 X s₁ (i.keeps q₁.1) E) (fun b s₂ q₂ => ?_) fun _ _ e => e)
  have k₂ := Keeps.trans q₁.1 q₂.1
  refine wpAny_mono (g1 X s₂ a b (i.keeps k₂).here (r1.mono q₁.2 (.of_keep (Keeps.keep q₂.1))) q₂.2 E) (fun v s₃ q₃ => ?_) fun _ _ e => e
  obtain ⟨k₃, hv⟩ := q₃
  have hv' : v = .bool b₁ := hv
  subst hv'
  refine wpAny_truthy_bool ?_
  cases b₁ with
  | false => exact ⟨Keeps.trans k₂ k₃, rfl⟩
  | true =>
    simp only [if_true]
    refine PyProof.Rows.test_last (wpAny_mono (h3 X s₃ (i.keeps (Keeps.trans k₂ k₃)) E) (fun d s₄ q₄ => ?_) fun _ _ e => e)
    have k₄ := Keeps.trans k₂ (Keeps.trans k₃ q₄.1)
    refine wpAny_mono (g2 X s₄ b d (i.keeps k₄).here (r2.mono q₂.2 (.of_keep (Keeps.keep (Keeps.trans k₃ q₄.1)))) q₄.2 E) (fun v s₅ q₅ => ?_) fun _ _ e => e
    obtain ⟨k₅, hv⟩ := q₅
    have hv' : v = .bool b₂ := hv
    subst hv'
    exact wpAny_truthy_bool ⟨Keeps.trans k₄ k₅, rfl⟩

end
end Mine.Internal
end
section
open PySem PySem.Calls
namespace Mine.Internal

section
variable {prog : Program} {w : World} {mg mb : Str → Option Value} {A : Around} {env : Env} {ρ : Vs}

-- arguments of a call, one by one
inductive ArgsEv (prog : Program) (w : World) (mg mb : Str → Option Value) (A : Around) (env : Env) (ρ : Vs) : List (Sem Value) → List V → Prop
  | nil : ArgsEv prog w mg mb A env ρ [] []
  | cons {t : Sem Value} {U : V} {ts : List (Sem Value)} {Us : List V} : Tr prog w mg mb A env ρ t U.r U.x → ArgsEv prog w mg mb A env ρ ts Us → ArgsEv prog w mg mb A env ρ (t :: ts) (U :: Us)

inductive Vals (X : List Addr) (h : Heap) : List Value → List V → Prop
  | nil : Vals X h [] []
  | cons {v : Value} {U : V} {vs : List Value} {Us : List V} : U.r.rd X h v U.x → Vals X h vs Us → Vals X h (v :: vs) (U :: Us)
theorem Vals.keeps {X : List Addr} {h h' : Heap} {vs : List Value} {Us : List V} (p : Vals X h vs Us) (k : Keep h h') : Vals X h' vs Us := by
  induction p with
  | nil => exact .nil
  | @cons v U vs Us hv _ ih => exact .cons (U.r.mono hv (.of_keep k)) ih

theorem spliced_ev {ts : List (Sem Value)} {Us : List V} (h : ArgsEv prog w mg mb A env ρ ts Us) : ∀ X s E, In mg mb X env ρ s →
    wpAny (model prog w) A (spliced (ts.map fun t => (false, t))) (fun vs s' => Keeps s s' ∧ Vals X s'.heap vs Us) E s := by
  induction h with
  | nil => exact fun X s E i => spliced_nil ⟨Keeps.refl _, .nil⟩
  | @cons t U ts Us ht _ ih =>
    intro X s E i
    refine spliced_cons (wpAny_mono (ht X s i E) (fun v s₁ q₁ => wpAny_mono (ih X s₁ E (i.keeps q₁.1)) (fun vs s₂ q₂ => ?_) fun _ _ e => e) fun _ _ e => e)
    exact ⟨Keeps.trans q₁.1 q₂.1, .cons (U.r.mono q₁.2 (.of_keep (Keeps.keep q₂.1))) q₂.2⟩

theorem evalArgs_ev {f : Value} {ts : List (Sem Value)} {Us : List V} (h : ArgsEv prog w mg mb A env ρ ts Us) (X : List Addr) (s : Shared) (E : Value → Shared → Prop) (i : In mg mb X env ρ s) :
    wpAny (model prog w) A (evalArgs f true (ts.map fun t => (false, t)) []) (fun a s' => Keeps s s' ∧ a.kw = [] ∧ Vals X s'.heap a.pos Us) E s := by
  have := spliced_ev h X s E i
  cases h with
  | nil => exact evalArgs_none ⟨Keeps.refl _, rfl, .nil⟩
  | cons _ _ => exact evalArgs_plain (wpAny_mono this (fun vs s' q => ⟨q.1, rfl, q.2⟩) fun _ _ e => e)

theorem plain_args (ts : List (Sem Value)) : (ts.map fun t => (false, t)).any (·.1) = false := by
  induction ts with
  | nil => rfl
  | cons t ts ih => rw [List.map_cons, List.any_cons, ih]; rfl

-- what a call of a def of the text gives
noncomputable def Con {β : Type} (prog : Program) (w : World) (mg mb : Str → Option Value) (A : Around) (k : Nat) (Us : List V) (r : Rep β) (y : β) : Prop :=
  ∀ X s a vs, Gl mg mb s.heap → Hr X s → mg (defAt k).name = some (.ref a) → Vals X s.heap vs Us → Sv prog w A (call (.ref a) vs) X s r y

theorem ev_call {β : Type} {k : Nat} {f : Str} {p pos : Pos} {args : List Expr} {ts : List (Sem Value)} {Us : List V} {r : Rep β} {y : β} (hk : k ∈ fnIdx) (hf : f = (defAt k).name) (hkind : env.kindOf f = some .globalImplicit)
    (hts : backTo pos (starEach args env) = ts.map fun t => (false, t)) (ha : ArgsEv prog w mg mb A env ρ ts Us) (hc : Con prog w mg mb A k Us r y) (hd : (f == ("__debug__" : Str)) = false := by decide) :
    Ev prog w mg mb A env ρ (.Call (.Name f p) args [] pos) r y := by
  intro X s i E
  refine Classical.byContradiction fun zG => ?_
  obtain ⟨a, o, pm, code, doc, h1, h2, h3, h4⟩ := i.gl.fn k hk
  refine zG ?_
  clear zG
  refine wpAny_Call_Name_kw (Name_function_global i.en.2.2 hkind (loadGlobal_global (i.en.1 ▸ i.gl.g) (hf ▸ h1) ?_) hd)
  show wpAny _ A (callWith pos (.ref a) [] (backTo pos (starEach args env)) []) _ _ s
  rw [hts]
  refine callWith_function (o := o) (fd := docDef (defAt k).name (defAt k).params (defAt k).body (defAt k).scope pm code doc) (wpAny_mono (evalArgs_ev ha X s E i) (fun x s₁ q₁ => ?_) fun _ _ e => e)
  refine Classical.byContradiction fun zG => ?_
  obtain ⟨k₁, hkw, hv⟩ := q₁
  refine zG ?_
  clear zG
  refine ⟨⟨Keeps.keep k₁ _ _ h2, h3⟩, ?_⟩
  rw [hkw]
  have i₁ := i.keeps k₁
  exact wpAny_mono (hc X s₁ a x.pos i₁.gl i₁.here h1 hv E) (fun v s₂ q₂ => ⟨Keeps.trans k₁ q₂.1, q₂.2⟩) fun _ _ e => e

-- what a call of a built-in gives
noncomputable def ConB {β : Type} (prog : Program) (w : World) (A : Around) (f : Value) (Us : List V) (r : Rep β) (y : β) : Prop :=
  ∀ X s vs, Hr X s → Vals X s.heap vs Us → Sv prog w A (call f vs) X s r y

theorem ev_bcall {β : Type} {f : Str} {id : String} {p pos : Pos} {args : List Expr} {ts : List (Sem Value)} {Us : List V} {r : Rep β} {y : β} (hf : f ∈ bNames) (hb : bootBuiltins f = some (.builtin id)) (hkind : env.kindOf f = some .globalImplicit)
    (hts : backTo pos (starEach args env) = ts.map fun t => (false, t)) (ha : ArgsEv prog w mg mb A env ρ ts Us) (hc : ConB prog w A (.builtin id) Us r y) (hd : (f == ("__debug__" : Str)) = false := by decide) :
    Ev prog w mg mb A env ρ (.Call (.Name f p) args [] pos) r y := by
  intro X s i E
  refine wpAny_Call_Name_kw (Name_function_global i.en.2.2 hkind (loadGlobal_builtin (i.en.1 ▸ i.gl.g) (i.gl.free f hf) (i.en.2.1 ▸ i.gl.b) ((i.gl.blt f hf).trans hb) ?_) hd)
  show wpAny _ A (callWith pos (.builtin id) [] (backTo pos (starEach args env)) []) _ _ s
  rw [hts]
  refine callWith_builtin (plain_args ts) (wpAny_mono (evalArgs_ev ha X s E i) (fun x s₁ q₁ => ?_) fun _ _ e => e)
  refine Classical.byContradiction fun zG => ?_
  obtain ⟨k₁, hkw, hv⟩ := q₁
  refine zG ?_
  clear zG
  rw [hkw]
  exact wpAny_mono (hc X s₁ x.pos (i.keeps k₁).here hv E) (fun v s₂ q₂ => ⟨Keeps.trans k₁ q₂.1, q₂.2⟩) fun _ _ e => e

theorem ev_tcall {β : Type} {f : Str} {T : String} {p pos : Pos} {args : List Expr} {ts : List (Sem Value)} {Us : List V} {r : Rep β} {y : β} (hf : f ∈ bNames) (hb : bootBuiltins f = some (.type T)) (hkind : env.kindOf f = some .globalImplicit)
    (hts : backTo pos (starEach args env) = ts.map fun t => (false, t)) (ha : ArgsEv prog w mg mb A env ρ ts Us) (hc : ConB prog w A (.type T) Us r y) (hd : (f == ("__debug__" : Str)) = false := by decide) :
    Ev prog w mg mb A env ρ (.Call (.Name f p) args [] pos) r y := by
  intro X s i E
  refine wpAny_Call_Name_kw (Name_function_global i.en.2.2 hkind (loadGlobal_builtin (i.en.1 ▸ i.gl.g) (i.gl.free f hf) (i.en.2.1 ▸ i.gl.b) ((i.gl.blt f hf).trans hb) ?_) hd)
  show wpAny _ A (callWith pos (.type T) [] (backTo pos (starEach args env)) []) _ _ s
  rw [hts]
  refine callWith_type (plain_args ts) (wpAny_mono (evalArgs_ev ha X s E i) (fun x s₁ q₁ => ?_) fun _ _ e => e)
  refine Classical.byContradiction fun zG => ?_
  obtain ⟨k₁, hkw, hv⟩ := q₁
  refine zG ?_
  clear zG
  rw [hkw]
  exact wpAny_mono (hc X s₁ x.pos (i.keeps k₁).here hv E) (fun v s₂ q₂ => ⟨Keeps.trans k₁ q₂.1, q₂.2⟩) fun _ _ e => e

-- the name of a built-in class or function, as a value
theorem ev_bname {f : Str} {v : Value} {pos : Pos} (hf : f ∈ bNames) (hb : bootBuiltins f = some v) (hkind : env.kindOf f = some .globalImplicit) (hd : (f == ("__debug__" : Str)) = false := by decide) :
    Ev prog w mg mb A env ρ (.Name f pos) (rIs v) () := by
  intro X s i E
  exact Name_function_global i.en.2.2 hkind (loadGlobal_builtin (i.en.1 ▸ i.gl.g) (i.gl.free f hf) (i.en.2.1 ▸ i.gl.b) ((i.gl.blt f hf).trans hb) ⟨Keeps.refl _, rfl⟩) hd

-- a method of a flat value
theorem ev_meth {α β : Type} {o : Expr} {name : Str} {apos pos : Pos} {args : List Expr} {T id : String} {ts : List (Sem Value)} {Us : List V} {r0 : Rep α} {x0 : α} {r : Rep β} {y : β}
    (hbase : attributeBase o name env (eval o env) = eval o env) (hline : (apos.endLine == pos.line) = true)
    (pa : PlainAttrs T) (slot : Slot T name id) (hty : typeOf (.builtin id) = pure (.type "method_descriptor")) (ho : Ev prog w mg mb A env ρ o r0 x0)
    (hT : ∀ X (s : Shared) v, r0.rd X s.heap v x0 → s.TypeIs v T ∧ ∀ a, v ≠ .ref a) (hts : backTo pos (starEach args env) = ts.map fun t => (false, t)) (hlen : args.length < 20) (ha : ArgsEv prog w mg mb A env ρ ts Us)
    (hc : ConB prog w A (.builtin id) (⟨r0, x0⟩ :: Us) r y) :
    Ev prog w mg mb A env ρ (.Call (.Attribute o name apos) args [] pos) r y := by
  intro X s i E
  refine wpAny_Call_method hbase ?_ hline pa slot hty (wpAny_mono (ho X s i E) (fun ov s₁ q₁ => ?_) fun _ _ e => e)
  · rw [hts]
    have e1 : ((ts.map fun t => (false, t)).all fun x => !x.1) = true := by
      induction ts with
      | nil => rfl
      | cons t ts ih => simp
    rw [e1]
    have : decide (args.length + ([] : List Keyword).length + (if ([] : List Keyword).isEmpty then 0 else 1) < 30) = true := by
      rw [decide_eq_true_eq]; simp; lia -abstractProof
    rw [this]; rfl
  · obtain ⟨h1, h2⟩ := hT X s₁ ov q₁.2
    refine ⟨h1, fun a e => absurd e (h2 a), ?_⟩
    rw [hts]
    refine callWith_builtin (plain_args ts) (wpAny_mono (evalArgs_ev ha X s₁ E (i.keeps q₁.1)) (fun x s₂ q₂ => ?_) fun _ _ e => e)
    refine Classical.byContradiction fun zG => ?_
    obtain ⟨k₂, hkw, hv⟩ := q₂
    refine zG ?_
    clear zG
    rw [hkw]
    have k := Keeps.trans q₁.1 k₂
    exact wpAny_mono (hc X s₂ (ov :: x.pos) (i.keeps k).here (.cons (r0.mono q₁.2 (.of_keep (Keeps.keep k₂))) hv) E) (fun v s₃ q₃ => ⟨Keeps.trans k q₃.1, q₃.2⟩) fun _ _ e => e

-- a list display
theorem vals_paired {α : Type} {r : Rep α} {X : List Addr} {h : Heap} : ∀ {xs : List α} {vs : List Value}, Vals X h vs (xs.map fun x => ⟨r, x⟩) → Paired (r.rd X h) vs xs
  | [], _, .nil => .nil
  | _ :: _, _, .cons hv t => .cons hv (vals_paired t)
theorem ev_list {α : Type} {elts : List Expr} {pos : Pos} {ts : List (Sem Value)} {r : Rep α} {xs : List α} (hts : backTo pos (starEach elts env) = ts.map fun t => (false, t)) (ha : ArgsEv prog w mg mb A env ρ ts (xs.map fun x => ⟨r, x⟩))
    (hlen : xs.length ≤ sizeLine) : Ev prog w mg mb A env ρ (.List elts pos) (rList r) xs := by
  intro X s i E
  refine PyProof.Rows.List_ ?_
  rw [hts]
  refine wpAny_mono (spliced_ev ha X s E i) (fun vs s₁ q₁ => ?_) fun _ _ e => e
  have hp := vals_paired q₁.2
  refine wpAny_newObj_type ⟨Keeps.trans q₁.1 (Keeps.of (keep_push _ _)), ?_⟩ (by show vs.toArray.size ≤ sizeLine; rw [List.size_toArray, hp.length]; exact hlen)
  exact ⟨_, vs, rfl, not_in_X (i.keeps q₁.1).here, ⟨_, Heap.get?_push_size _ rfl, rfl, _, rfl⟩, Paired.imp hp fun _ _ z => r.mono z (.of_keep (keep_push _ _))⟩
theorem ev_tup {α : Type} {elts : List Expr} {k : Nat} {pos : Pos} {ts : List (Sem Value)} {r : Rep α} {xs : List α} (hts : backTo pos (starEach elts env) = ts.map fun t => (false, t)) (ha : ArgsEv prog w mg mb A env ρ ts (xs.map fun x => ⟨r, x⟩))
    (hlen : xs.length ≤ sizeLine) : Ev prog w mg mb A env ρ (.Tuple elts k pos) (rTup r) xs := by
  intro X s i E
  refine PyProof.Rows.Tuple_ ?_
  rw [hts]
  refine wpAny_mono (spliced_ev ha X s E i) (fun vs s₁ q₁ => ?_) fun _ _ e => e
  have hp := vals_paired q₁.2
  refine wpAny_newObj_type ⟨Keeps.trans q₁.1 (Keeps.of (keep_push _ _)), ?_⟩ (by show vs.toArray.size ≤ sizeLine; rw [List.size_toArray, hp.length]; exact hlen)
  exact ⟨_, vs, rfl, not_in_X (i.keeps q₁.1).here, ⟨_, Heap.get?_push_size _ rfl, rfl, _, rfl⟩, Paired.imp hp fun _ _ z => r.mono z (.of_keep (keep_push _ _))⟩

end

section
variable {prog : Program} {w : World} {mg mb : Str → Option Value} {A : Around}

-- the environment of def k's body
noncomputable abbrev envK (k : Nat) (L : Addr) (cells : List (Str × Addr)) (qual : Str) (func : Option Addr) (code : Value) (frame : Option Addr) : Env :=
  { scope := (defAt k).scope, locals := L, globals := mainGlobals, cells := cells, qual := qual, func := func, code := code, frame := frame, builtins := builtinsNs }

-- into a def's body: the frame's address is told
theorem enterF {k n : Nat} {vals : List Value} {binds : List (Str × Value)} {ρ : Vs} {X : List Addr} {s : Shared} {a : Addr} {Q : Value → Shared → Prop} {E : Value → Shared → Prop} (hk : k ∈ fnIdx) (hR : Rm (n + 1) A)
    (hG : Gl mg mb s.heap) (hX : Hr X s) (hm : mg (defAt k).name = some (.ref a))
    (hbind : ∀ pm cd doc, bindArgs (docDef (defAt k).name (defAt k).params (defAt k).body (defAt k).scope pm cd doc) ⟨vals, []⟩ = pure binds)
    (hargs : Args X s.heap binds ρ) (hnd : (binds.map (·.1)).Nodup)
    (hkind : ∀ x ∈ binds.map (·.1), (defAt k).scope.names.lookup x = some .local ∨ (defAt k).scope.names.lookup x = some .cell)
    (h : ∀ L cells q f c X₁ s₁, Fm mg mb s (envK k L cells q f c (some L)) X₁ ρ s₁ → s.heap.get? L = none → (∀ y, (defAt k).scope.names.lookup y = some .cell → ∃ c, cells.lookup y = some c) → (∀ x ∈ X, x ∈ X₁) → Rm n (A.deeper (envK k L cells q f c (some L))) →
      wpAny (model prog w) (A.deeper (envK k L cells q f c (some L))) (execs (defAt k).body (envK k L cells q f c (some L))) (fun fl s' => Q (match fl with | .ret v => v | _ => .none) s')
        (fun e s' => wpAny (model prog w) (A.deeper (envK k L cells q f c (some L))) (leaving (envK k L cells q f c (some L)) e) (fun _ s'' => E e s'') (fun e' s'' => E e' s'') s') s₁)
    (hco : (defAt k).scope.isCoroutine = false := by rfl) (hgen : (defAt k).scope.isGenerator = false := by rfl) (hkf : (defAt k).scope.kind = .function := by rfl) :
    wpAny (model prog w) A (call (.ref a) vals) Q E s := by
  refine Classical.byContradiction fun zG => ?_
  obtain ⟨a', o, pm, code, doc, h1, h2, h3, h4⟩ := hG.fn k hk
  refine zG ?_
  clear zG
  have : a' = a := by rw [hm] at h1; cases h1; rfl
  subst this
  have hcl : ∀ y, (defAt k).scope.names.lookup y = some .cell → ∃ c, (cellsFrom (s.heap.objs.size + 1) (defAt k).scope.names []).lookup y = some c := fun y hy => by
    obtain ⟨c, hc⟩ := cellsFrom_has (defAt k).scope.names (s.heap.objs.size + 1) [] (.inl (mem_of_lookup hy))
    exact lookup_some_of_mem hc
  refine wpAny_call (codeAny_call_cells (binds := binds) (body := (defAt k).body) hR.depth h2 h3 hG.lim h4 rfl (hbind pm code doc) rfl ?_ (fun s₁ x => ?_) hco hgen hkf)
  · intro y hy
    rcases hkind y.1 (List.mem_map.mpr ⟨y, hy, rfl⟩) with e | e
    · exact .inl e
    · refine .inr ⟨e, ?_⟩
      obtain ⟨c, hc⟩ := hcl y.1 e
      show ((cellsFrom (s.heap.objs.size + 1) (defAt k).scope.names []).lookup y.1).isSome = true
      rw [hc]; rfl
  · generalize hcs : cellsFrom (s.heap.objs.size + 1) (defAt k).scope.names [] = cs at hcl
    revert cs; refine held ?_; intro cs hcs hcl
    have x' : InCallC s s.heap.objs.size (bindL (fun y => (defAt k).scope.names.lookup y) binds fun _ => none) cs
        (bindC (fun y => (defAt k).scope.names.lookup y) binds fun _ => none) s₁ := by rw [← hcs]; exact x
    have kp := x'.toInCall.keep
    have fresh : ∀ a, s.heap.objs.size ≤ a → s.heap.get? a = none := fun a ha => Heap.get?_none_of_le ha
    have key := h s.heap.objs.size cs ((defAt k).name ++ ".<locals>.") (some a') code
      (s.heap.objs.size :: (cs.filterMap (fun p => cs.lookup p.1) ++ X)) s₁ ?_ (fresh _ (Nat.le_refl _)) hcl (fun x hx => List.mem_cons_of_mem _ (List.mem_append_right _ hx)) (hR.deeper _)
    · rw [← hcs] at key; exact key
    · refine ⟨hG, ⟨hG.keeps kp, ⟨rfl, rfl, hkf⟩, ?_, ?_⟩, ⟨_, _, x'⟩, List.mem_cons_self, fun n c hm => List.mem_cons_of_mem _ (List.mem_append_left _ (List.mem_filterMap.mpr ⟨(n, c), mem_of_lookup hm, hm⟩))⟩
      · intro y U hy
        refine Classical.byContradiction fun zG => ?_
        obtain ⟨v, hv, hr⟩ := hargs.lookup hy
        refine zG ?_
        clear zG
        have hmem : y ∈ binds.map (·.1) := List.mem_map.mpr ⟨_, mem_of_lookup hv, rfl⟩
        refine ⟨v, ?_, U.r.mono (U.r.add (U.r.adds hr _ fun a ha => ?_) (fresh _ (Nat.le_refl _))) (.of_keep kp)⟩
        · rcases hkind y hmem with e | e
          · exact .inl ⟨e, _, x'.toInCall.ns, bindL_lookup e binds _ hnd hv⟩
          · obtain ⟨c, hc⟩ := hcl y e
            refine .inr ⟨.inl e, c, hc, ?_⟩
            have := x'.cell y c hc
            rwa [bindC_lookup (by rw [e]; decide) binds _ hnd hv] at this
        · obtain ⟨⟨n, c⟩, hm, e⟩ := List.mem_filterMap.mp ha
          exact fresh _ (Nat.le_of_lt (x'.above n a (mem_of_lookup e)))
      · intro b hb
        rcases List.mem_cons.mp hb with rfl | hb
        · obtain ⟨o, _, _, ho, _⟩ := x'.toInCall.ns; exact ⟨o, ho⟩
        · rcases List.mem_append.mp hb with hb | hb
          · obtain ⟨⟨n, c⟩, hm, e⟩ := List.mem_filterMap.mp hb
            refine Classical.byContradiction fun zG => ?_
            obtain ⟨o, ho, _⟩ := x'.cell n b e
            refine zG ?_
            clear zG
            exact ⟨o, ho⟩
          · obtain ⟨o, ho⟩ := hX b hb; exact ⟨o, kp _ _ ho⟩
-- into a def's body
theorem enter {k n : Nat} {vals : List Value} {binds : List (Str × Value)} {ρ : Vs} {X : List Addr} {s : Shared} {a : Addr} {Q : Value → Shared → Prop} {E : Value → Shared → Prop} (hk : k ∈ fnIdx) (hR : Rm (n + 1) A)
    (hG : Gl mg mb s.heap) (hX : Hr X s) (hm : mg (defAt k).name = some (.ref a))
    (hbind : ∀ pm cd doc, bindArgs (docDef (defAt k).name (defAt k).params (defAt k).body (defAt k).scope pm cd doc) ⟨vals, []⟩ = pure binds)
    (hargs : Args X s.heap binds ρ) (hnd : (binds.map (·.1)).Nodup)
    (hkind : ∀ x ∈ binds.map (·.1), (defAt k).scope.names.lookup x = some .local ∨ (defAt k).scope.names.lookup x = some .cell)
    (h : ∀ L cells q f c fr X₁ s₁, Fm mg mb s (envK k L cells q f c fr) X₁ ρ s₁ → (∀ y, (defAt k).scope.names.lookup y = some .cell → ∃ c, cells.lookup y = some c) → (∀ x ∈ X, x ∈ X₁) → Rm n (A.deeper (envK k L cells q f c fr)) →
      wpAny (model prog w) (A.deeper (envK k L cells q f c fr)) (execs (defAt k).body (envK k L cells q f c fr)) (fun fl s' => Q (match fl with | .ret v => v | _ => .none) s')
        (fun e s' => wpAny (model prog w) (A.deeper (envK k L cells q f c fr)) (leaving (envK k L cells q f c fr) e) (fun _ s'' => E e s'') (fun e' s'' => E e' s'') s') s₁)
    (hco : (defAt k).scope.isCoroutine = false := by rfl) (hgen : (defAt k).scope.isGenerator = false := by rfl) (hkf : (defAt k).scope.kind = .function := by rfl) :
    wpAny (model prog w) A (call (.ref a) vals) Q E s := by
  exact enterF hk hR hG hX hm hbind hargs hnd hkind (fun L cells q f c X₁ s₁ F _ hcl hXX hR' => h L cells q f c (some L) X₁ s₁ F hcl hXX hR') hco hgen hkf
end
end Mine.Internal
end
section
open PySem PySem.Calls
namespace Mine.Internal

section
variable {prog : Program} {w : World} {mg mb : Str → Option Value} {A : Around} {env : Env} {s₀ : Shared} {X : List Addr} {ρ : Vs} {rest : List Stmt} {Q : Flow → Shared → Prop} {E : Value → Shared → Prop}

theorem blk_ret {α : Type} {e : Expr} {pos : Pos} {r : Rep α} {y : α} (he : Ev prog w mg mb A env ρ e r y) (hQ : ∀ v s', Keeps s₀ s' → r.rd X s'.heap v y → Q (.ret v) s') :
    Blk prog w mg mb A s₀ env X ρ (.Return (some e) pos :: rest) Q E := by
  intro s F
  refine wpAny_execs_cons (wpAny_Return_some (wpAny_mono (he X s F.inn E) (fun v s₁ q₁ => ?_) fun _ _ e => e))
  exact hQ v s₁ (F.keeps q₁.1).done q₁.2

-- behind a block: what the flow asks
noncomputable def Then (prog : Program) (w : World) (A : Around) (env : Env) (rest : List Stmt) (Q : Flow → Shared → Prop) (E : Value → Shared → Prop) : Flow → Shared → Prop :=
  fun f s' => match f with | .next => wpAny (model prog w) A (execs rest env) Q E s' | f => Q f s'
theorem blk_fall (h : Blk prog w mg mb A s₀ env X ρ rest Q E) : Blk prog w mg mb A s₀ env X ρ [] (Then prog w A env rest Q E) E :=
  fun s F => wpAny_execs_nil (h s F)
theorem blk_if {t : Expr} {b o : List Stmt} {pos : Pos} {c : Bool} (ht : Tst prog w mg mb A env ρ t c) (h1 : c = true → Blk prog w mg mb A s₀ env X ρ b (Then prog w A env rest Q E) E)
    (h2 : c = false → Blk prog w mg mb A s₀ env X ρ o (Then prog w A env rest Q E) E) : Blk prog w mg mb A s₀ env X ρ (.If t b o pos :: rest) Q E := by
  intro s F
  refine wpAny_execs_cons (wpAny_If (wpAny_mono (ht X s E F.inn) (fun c' s₁ q₁ => ?_) fun _ _ e => e))
  obtain ⟨k₁, rfl⟩ := q₁
  cases c' with
  | true => exact h1 rfl s₁ (F.keeps k₁)
  | false => exact h2 rfl s₁ (F.keeps k₁)

-- a block that gives a value back
noncomputable def BlkR {β : Type} (prog : Program) (w : World) (mg mb : Str → Option Value) (A : Around) (s₀ : Shared) (env : Env) (X : List Addr) (ρ : Vs) (b : List Stmt) (r : Rep β) (y : β) : Prop :=
  ∀ E, Blk prog w mg mb A s₀ env X ρ b (fun fl s' => ∃ v, fl = .ret v ∧ Keeps s₀ s' ∧ r.rd X s'.heap v y) E
end

section
variable {prog : Program} {w : World} {mg mb : Str → Option Value} {A : Around}

theorem con1 {β : Type} {k n : Nat} {p : Str} {U : V} {r : Rep β} {y : β} (hk : k ∈ fnIdx) (hR : Rm (n + 1) A)
    (hbind : ∀ v pm cd doc, bindArgs (docDef (defAt k).name (defAt k).params (defAt k).body (defAt k).scope pm cd doc) ⟨[v], []⟩ = pure [(p, v)])
    (hkind : (defAt k).scope.names.lookup p = some .local ∨ (defAt k).scope.names.lookup p = some .cell)
    (h : ∀ L cells q f c fr X₁ s₀, (∀ y, (defAt k).scope.names.lookup y = some .cell → ∃ c, cells.lookup y = some c) → Rm n (A.deeper (envK k L cells q f c fr)) →
      BlkR prog w mg mb (A.deeper (envK k L cells q f c fr)) s₀ (envK k L cells q f c fr) X₁ [(p, U)] (defAt k).body r y)
    (hco : (defAt k).scope.isCoroutine = false := by rfl) (hgen : (defAt k).scope.isGenerator = false := by rfl) (hkf : (defAt k).scope.kind = .function := by rfl) : Con prog w mg mb A k [U] r y := by
  intro X s a vs hG hX hm hv E
  cases hv with
  | @cons v _ vs _ hv hvs =>
    cases hvs with
    | nil =>
      refine enter (binds := [(p, v)]) (ρ := [(p, U)]) hk hR hG hX hm (hbind v) (.cons hv .nil) (by simp) (by intro x hx; simp at hx; subst hx; exact hkind) (fun L cells q f c fr X₁ s₁ F hcl hXX hR' => ?_) hco hgen hkf
      refine wpAny_mono (h L cells q f c fr X₁ s hcl hR' _ s₁ F) (fun fl s' q => ?_) fun _ _ e => e
      refine Classical.byContradiction fun zG => ?_
      obtain ⟨u, rfl, k₁, hr⟩ := q
      refine zG ?_
      clear zG
      exact ⟨k₁, r.weak hr hXX⟩

theorem con2 {β : Type} {k n : Nat} {p p' : Str} {U U' : V} {r : Rep β} {y : β} (hk : k ∈ fnIdx) (hR : Rm (n + 1) A) (hne : p ≠ p')
    (hbind : ∀ v v' pm cd doc, bindArgs (docDef (defAt k).name (defAt k).params (defAt k).body (defAt k).scope pm cd doc) ⟨[v, v'], []⟩ = pure [(p, v), (p', v')])
    (hkind : (defAt k).scope.names.lookup p = some .local ∨ (defAt k).scope.names.lookup p = some .cell)
    (hkind' : (defAt k).scope.names.lookup p' = some .local ∨ (defAt k).scope.names.lookup p' = some .cell)
    (h : ∀ L cells q f c fr X₁ s₀, (∀ y, (defAt k).scope.names.lookup y = some .cell → ∃ c, cells.lookup y = some c) → Rm n (A.deeper (envK k L cells q f c fr)) →
      BlkR prog w mg mb (A.deeper (envK k L cells q f c fr)) s₀ (envK k L cells q f c fr) X₁ [(p, U), (p', U')] (defAt k).body r y)
    (hco : (defAt k).scope.isCoroutine = false := by rfl) (hgen : (defAt k).scope.isGenerator = false := by rfl) (hkf : (defAt k).scope.kind = .function := by rfl) : Con prog w mg mb A k [U, U'] r y := by
  intro X s a vs hG hX hm hv E
  cases hv with
  | @cons v _ vs _ hv hvs =>
    cases hvs with
    | @cons v' _ vs _ hv' hvs =>
      cases hvs with
      | nil =>
        refine enter (binds := [(p, v), (p', v')]) (ρ := [(p, U), (p', U')]) hk hR hG hX hm (hbind v v') (.cons hv (.cons hv' .nil)) (by simp [hne]) (by
          intro x hx; simp at hx
          rcases hx with rfl | rfl
          · exact hkind
          · exact hkind') (fun L cells q f c fr X₁ s₁ F hcl hXX hR' => ?_) hco hgen hkf
        refine wpAny_mono (h L cells q f c fr X₁ s hcl hR' _ s₁ F) (fun fl s' q => ?_) fun _ _ e => e
        refine Classical.byContradiction fun zG => ?_
        obtain ⟨u, rfl, k₁, hr⟩ := q
        refine zG ?_
        clear zG
        exact ⟨k₁, r.weak hr hXX⟩
end

section
variable {prog : Program} {w : World} {mg mb : Str → Option Value} {A : Around} {env : Env} {ρ : Vs}
-- steps on ints
theorem op_int {op : Operator} {x y z : Int} (h : ∀ (s : Shared) (t u : Tok) (Q : Value → Shared → Prop) (E : Value → Shared → Prop), (∀ t', Q (.int z t') { s with toks := s.toks + 1 }) → wpAny (model prog w) A (binaryOp op (.int x t) (.int y u)) Q E s) :
    ∀ X s a b, Hr X s → rInt.rd X s.heap a x → rInt.rd X s.heap b y → Sv prog w A (binaryOp op a b) X s rInt z := by
  intro X s a b _ ha hb E
  obtain ⟨t, rfl⟩ := ha
  obtain ⟨u, rfl⟩ := hb
  exact h s t u _ E fun t' => ⟨Keeps.tok _ _, t', rfl⟩
theorem cmp_int {op : CmpOp} {x y : Int} {z : Bool} (h : ∀ (s : Shared) (t u : Tok) (Q : Value → Shared → Prop) (E : Value → Shared → Prop), Q (.bool z) s → wpAny (model prog w) A (compareOp op (.int x t) (.int y u)) Q E s) :
    ∀ X s a b, Hr X s → rInt.rd X s.heap a x → rInt.rd X s.heap b y → Sv prog w A (compareOp op a b) X s rBool z := by
  intro X s a b _ ha hb E
  obtain ⟨t, rfl⟩ := ha
  obtain ⟨u, rfl⟩ := hb
  exact h s t u _ E ⟨Keeps.refl _, rfl⟩
end
end Mine.Internal
end
section
open PySem PySem.Calls
set_option maxRecDepth 100000
namespace Mine.Internal

section
variable {prog : Program} {w : World} {mg mb : Str → Option Value} {A : Around} {env : Env} {ρ : Vs}

theorem tst_bool {e : Expr} {b : Bool} (h : Ev prog w mg mb A env ρ e rBool b) (he : ∀ whole, isTrue e env whole = (do let v ← whole; standAt e.pos; holding [v] (truthy v)) := by intro _; rfl) : Tst prog w mg mb A env ρ e b :=
  @tst_plain _ _ _ _ _ _ _ _ _ _ _ _ h (fun X s v E hv => by
    have hv' : v = .bool b := hv
    subst hv'
    exact wpAny_truthy_bool ⟨Keeps.refl _, rfl⟩) he
theorem tst_int {e : Expr} {k : Int} (h : Ev prog w mg mb A env ρ e rInt k) (he : ∀ whole, isTrue e env whole = (do let v ← whole; standAt e.pos; holding [v] (truthy v)) := by intro _; rfl) : Tst prog w mg mb A env ρ e (decide (k ≠ 0)) :=
  @tst_plain _ _ _ _ _ _ _ _ _ _ _ _ h (fun X s v E hv => by
    obtain ⟨t, rfl⟩ := hv
    exact PyProof.Rows.truthy_int ⟨Keeps.refl _, by by_cases h : k = 0 <;> simp [h]⟩) he

theorem isi_int_str {k : Int} : ConB prog w A (.builtin "isinstance") [⟨rInt, k⟩, ⟨rIs (.type "str"), ()⟩] rBool false := by
  intro X s vs _ hv E
  cases hv with
  | @cons v _ vs _ hv hvs =>
    cases hvs with
    | @cons v' _ vs _ hv' hvs =>
      cases hvs with
      | nil =>
        obtain ⟨t, rfl⟩ := hv
        have e : v' = .type "str" := hv'
        subst e
        exact call_isinstance (isinstance_false_int (by decide +kernel) (by kernel_rfl) (by rw [isSubtype_type]; kernel_rfl)) ⟨Keeps.tok _ _, rfl⟩

theorem con_ctoi {n : Nat} (hR : Rm (n + 1) A) (c : Int) : Con prog w mg mb A 15 [⟨rInt, c⟩] rInt c := by
  refine con1 (k := 15) (p := "c") (by decide) hR (fun v pm cd doc => rfl) (.inl rfl) (fun L cells q f cc fr X₁ s₀ hcl hR' E => ?_)
  refine @blk_if _ _ _ _ _ _ _ _ _ _ _ _ _ _ _ _ (false) ?_ (fun h => nomatch h) (fun _ => ?_)
  · exact @tst_bool _ _ _ _ _ _ _ _ _ (@ev_bcall _ _ _ _ _ _ _ _ ("isinstance") _ _ _ _ ([_, _]) _ _ _ (by decide) (by decide +kernel) rfl rfl (.cons (@ev_name _ _ _ _ _ _ _ _ _ _ _ _ rfl (by decide) (by decide)) (.cons (@ev_bname _ _ _ _ _ _ _ _ _ _ (by decide) (by decide +kernel) rfl (by decide)) .nil)) isi_int_str (by decide)) (by intro _; rfl)
  · exact @blk_ret _ _ _ _ _ _ _ _ _ _ _ _ _ _ _ _ _ (@ev_name _ _ _ _ _ _ _ _ _ _ _ _ rfl (by decide) (by decide)) (fun v s' k hr => ⟨v, rfl, k, hr⟩)

theorem ev_chain {α β γ : Type} {l c₁ c₂ : Expr} {o₁ o₂ : CmpOp} {pos : Pos} {r1 : Rep α} {x : α} {r2 : Rep β} {y : β} {r3 : Rep γ} {z : γ} {b₁ b₂ : Bool} (h1 : Ev prog w mg mb A env ρ l r1 x) (h2 : Ev prog w mg mb A env ρ c₁ r2 y)
    (h3 : Ev prog w mg mb A env ρ c₂ r3 z) (g1 : ∀ X s a b, Hr X s → r1.rd X s.heap a x → r2.rd X s.heap b y → Sv prog w A (compareOp o₁ a b) X s rBool b₁)
    (g2 : ∀ X s a b, Hr X s → r2.rd X s.heap a y → r3.rd X s.heap b z → Sv prog w A (compareOp o₂ a b) X s rBool b₂) (hm : lastMarks [o₁, o₂] [c₁, c₂] = false := by with_unfolding_all rfl) :
    Ev prog w mg mb A env ρ (.Compare l [o₁, o₂] [c₁, c₂] pos) rBool (b₁ && b₂) := by
  intro X s i E
  refine PyProof.Rows.Compare_chain (wpAny_mono (h1 X s i E) (fun a s₁ q₁ => ?_) fun _ _ e => e) hm
  refine PyProof.Rows.chain_link (wpAny_mono (h2 X s₁ (i.keeps q₁.1) E) (fun b s₂ q₂ => ?_) fun _ _ e => e)
  have k₂ := Keeps.trans q₁.1 q₂.1
  refine wpAny_mono (g1 X s₂ a b (i.keeps k₂).here (r1.mono q₁.2 (.of_keep (Keeps.keep q₂.1))) q₂.2 E) (fun v s₃ q₃ => ?_) fun _ _ e => e
  obtain ⟨k₃, hv⟩ := q₃
  have hv' : v = .bool b₁ := hv
  subst hv'
  refine wpAny_truthy_bool ?_
  cases b₁ with
  | false => exact ⟨Keeps.trans k₂ k₃, rfl⟩
  | true =>
    simp only [if_true]
    refine PyProof.Rows.chain_last (wpAny_mono (h3 X s₃ (i.keeps (Keeps.trans k₂ k₃)) E) (fun d s₄ q₄ => ?_) fun _ _ e => e)
    have k₄ := Keeps.trans k₂ (Keeps.trans k₃ q₄.1)
    exact wpAny_mono (g2 X s₄ b d (i.keeps k₄).here (r2.mono q₂.2 (.of_keep (Keeps.keep (Keeps.trans k₃ q₄.1)))) q₄.2 E) (fun v s₅ q₅ => ⟨Keeps.trans k₄ q₅.1, q₅.2⟩) fun _ _ e => e

theorem con_isprint {n : Nat} (hR : Rm (n + 2) A) (c : Int) : Con prog w mg mb A 16 [⟨rInt, c⟩] rBool (decide (32 ≤ c) && decide (c ≤ 126)) := by
  refine con1 (k := 16) (p := "c") (by decide) hR (fun v pm cd doc => rfl) (.inl rfl) (fun L cells q f cc fr X₁ s₀ hcl hR' E => ?_)
  refine @blk_ret _ _ _ _ _ _ _ _ _ _ _ _ _ _ _ _ _ (@ev_chain _ _ _ _ _ _ _ _ _ _ _ _ _ _ _ _ _ _ _ _ _ _ _ _ ev_int (@ev_call _ _ _ _ _ _ _ _ (15) ("_ctoi") _ _ _ ([_]) _ _ _ (by decide) (by decide +kernel) rfl rfl (.cons (@ev_name _ _ _ _ _ _ _ _ _ _ _ _ rfl (by decide) (by decide)) .nil) (@con_ctoi _ _ _ _ _ _ hR' c) (by decide)) ev_int (cmp_int fun s t u Q E h => PyProof.Rows.le_int h) (cmp_int fun s t u Q E h => PyProof.Rows.le_int h) (by with_unfolding_all rfl)) (fun v s' k hr => ⟨v, rfl, k, hr⟩)

noncomputable def low (c : Int) : Int := Builtin.bitAnd c 127
noncomputable def repF (c : Int) : Str := if c = 127 then "^?" else if (decide (32 ≤ low c) && decide (low c ≤ 126)) = true then ⟨#[(low c).toNat]⟩ else ("^" : Str) ++ ⟨#[(Builtin.bitOr (low c) 32 + 32).toNat]⟩
noncomputable def picF (c : Int) : Str := if Builtin.bitAnd c 128 ≠ 0 then ("!" : Str) ++ repF c else repF c

theorem repF_length (c : Int) : (repF c).length ≤ 2 := by
  unfold repF
  split
  · decide
  · split
    · exact Nat.le_succ 1
    · rw [Str.length_append]; exact Nat.le_refl 2
theorem op_str {x y : Str} (hz : x.length + y.length ≤ sizeLine) : ∀ X s a b, Hr X s → rStr.rd X s.heap a x → rStr.rd X s.heap b y → Sv prog w A (binaryOp .Add a b) X s rStr (x ++ y) := by
  intro X s a b _ ha hb E
  obtain ⟨t, rfl⟩ := ha
  obtain ⟨u, rfl⟩ := hb
  exact PyProof.Rows.add_str (fun t' tk => ⟨Keeps.tok _ _, t', rfl⟩) hz
theorem con_chr {k : Int} (h0 : 0 ≤ k) (h1 : k ≤ 1114111) : ConB prog w A (.builtin "chr") [⟨rInt, k⟩] rStr ⟨#[k.toNat]⟩ := by
  intro X s vs _ hv E
  cases hv with
  | @cons v _ vs _ hv hvs =>
    cases hvs with
    | nil =>
      obtain ⟨t, rfl⟩ := hv
      exact PyProof.Rows.chr_of_range h0 h1 ⟨Keeps.tok _ _, _, rfl⟩

theorem con_unctrl {n : Nat} (hR : Rm (n + 3) A) (c : Int) (h0 : 0 ≤ low c ∧ low c ≤ 1114111) (h1 : 0 ≤ Builtin.bitOr (low c) 32 + 32 ∧ Builtin.bitOr (low c) 32 + 32 ≤ 1114111) :
    Con prog w mg mb A 17 [⟨rInt, c⟩] rStr (picF c) := by
  refine con1 (k := 17) (p := "c") (by decide) hR (fun v pm cd doc => rfl) (.inl rfl) (fun L cells q f cc fr X₁ s₀ hcl hR' E => ?_)
  refine @blk_assign _ _ _ _ _ _ _ _ _ _ _ _ _ _ _ _ _ _ _ (@ev_call _ _ _ _ _ _ _ _ (15) ("_ctoi") _ _ _ ([_]) _ _ _ (by decide) (by decide +kernel) rfl rfl (.cons (@ev_name _ _ _ _ _ _ _ _ _ _ _ _ rfl (by decide) (by decide)) .nil) (@con_ctoi _ _ _ _ _ _ hR' c) (by decide)) (.inl rfl) ?_ (by rfl)
  have rest : ∀ v, v = repF c → Blk prog w mg mb (A.deeper (envK 17 L cells q f cc fr)) s₀ (envK 17 L cells q f cc fr) X₁ [("rep", ⟨rStr, v⟩), ("bits", ⟨rInt, c⟩), ("c", ⟨rInt, c⟩)] ((defAt 17).body.drop 2)
      (fun fl s' => ∃ v, fl = .ret v ∧ Keeps s₀ s' ∧ rStr.rd X₁ s'.heap v (picF c)) E := by
    intro v hv
    subst hv
    refine @blk_if _ _ _ _ _ _ _ _ _ _ _ _ _ _ _ _ (decide (Builtin.bitAnd c 128 ≠ 0)) (@tst_int _ _ _ _ _ _ _ _ _ (@ev_binop _ _ _ _ _ _ _ _ _ _ _ _ _ _ _ _ _ _ _ _ (@ev_name _ _ _ _ _ _ _ _ _ _ _ _ rfl (by decide) (by decide)) ev_int (op_int fun s t u Q E h => PyProof.Rows.and_int (h _))) (by intro _; rfl)) (fun hc => ?_) (fun hc => ?_)
    · have e : picF c = ("!" : Str) ++ repF c := if_pos (of_decide_eq_true hc)
      rw [e]
      exact @blk_ret _ _ _ _ _ _ _ _ _ _ _ _ _ _ _ _ _ (@ev_binop _ _ _ _ _ _ _ _ _ _ _ _ _ _ _ _ _ _ _ _ ev_str (@ev_name _ _ _ _ _ _ _ _ _ _ _ _ rfl (by decide) (by decide)) (op_str (by have := repF_length c; show 1 + (repF c).length ≤ 2 ^ 24; lia -abstractProof))) (fun v s' k hr => ⟨v, rfl, k, hr⟩)
    · have e : picF c = repF c := if_neg (of_decide_eq_false hc)
      rw [e]
      exact @blk_fall _ _ _ _ _ _ _ _ _ _ _ _ (@blk_ret _ _ _ _ _ _ _ _ _ _ _ _ _ _ _ _ _ (@ev_name _ _ _ _ _ _ _ _ _ _ _ _ rfl (by decide) (by decide)) (fun v s' k hr => ⟨v, rfl, k, hr⟩))
  refine @blk_if _ _ _ _ _ _ _ _ _ _ _ _ _ _ _ _ (c == 127) (@tst_cmp _ _ _ _ _ _ _ _ _ _ _ _ _ _ _ _ _ _ (@ev_name _ _ _ _ _ _ _ _ _ _ _ _ rfl (by decide) (by decide)) ev_int (cmp_int fun s t u Q E h => PyProof.Rows.eq_int h) (by with_unfolding_all rfl)) (fun hc => ?_) (fun hc => ?_)
  · refine @blk_assign _ _ _ _ _ _ _ _ _ _ _ _ _ _ _ _ _ _ _ ev_str (.inl rfl) (@blk_fall _ _ _ _ _ _ _ _ _ _ _ _ (rest _ ?_)) (by rfl)
    unfold repF
    rw [if_pos (by simpa using hc)]
  · have hc' : ¬ c = 127 := by simpa using hc
    refine @blk_if _ _ _ _ _ _ _ _ _ _ _ _ _ _ _ _ (decide (32 ≤ low c) && decide (low c ≤ 126)) (@tst_bool _ _ _ _ _ _ _ _ _ (@ev_call _ _ _ _ _ _ _ _ (16) ("isprint") _ _ _ ([_]) _ _ _ (by decide) (by decide +kernel) rfl rfl (.cons (@ev_binop _ _ _ _ _ _ _ _ _ _ _ _ _ _ _ _ _ _ _ _ (@ev_name _ _ _ _ _ _ _ _ _ _ _ _ rfl (by decide) (by decide)) ev_int (op_int fun s t u Q E h => PyProof.Rows.and_int (h _))) .nil) (@con_isprint _ _ _ _ _ _ hR' _) (by decide)) (by intro _; rfl)) (fun hp => ?_) (fun hp => ?_)
    · refine @blk_assign _ _ _ _ _ _ _ _ _ _ _ _ _ _ _ _ _ _ _ (@ev_bcall _ _ _ _ _ _ _ _ ("chr") _ _ _ _ ([_]) _ _ _ (by decide) (by decide +kernel) rfl rfl (.cons (@ev_binop _ _ _ _ _ _ _ _ _ _ _ _ _ _ _ _ _ _ _ _ (@ev_name _ _ _ _ _ _ _ _ _ _ _ _ rfl (by decide) (by decide)) ev_int (op_int fun s t u Q E h => PyProof.Rows.and_int (h _))) .nil) (@con_chr _ _ _ _ h0.1 h0.2) (by decide)) (.inl rfl) (@blk_fall _ _ _ _ _ _ _ _ _ _ _ _ (@blk_fall _ _ _ _ _ _ _ _ _ _ _ _ (rest _ ?_))) (by rfl)
      unfold repF
      rw [if_neg hc', if_pos hp]
    · refine @blk_assign _ _ _ _ _ _ _ _ _ _ _ _ _ _ _ _ _ _ _ (@ev_binop _ _ _ _ _ _ _ _ _ _ _ _ _ _ _ _ _ _ _ _ ev_str (@ev_bcall _ _ _ _ _ _ _ _ ("chr") _ _ _ _ ([_]) _ _ _ (by decide) (by decide +kernel) rfl rfl (.cons (@ev_binop _ _ _ _ _ _ _ _ _ _ _ _ _ _ _ _ _ _ _ _ (@ev_binop _ _ _ _ _ _ _ _ _ _ _ _ _ _ _ _ _ _ _ _ (@ev_binop _ _ _ _ _ _ _ _ _ _ _ _ _ _ _ _ _ _ _ _ (@ev_name _ _ _ _ _ _ _ _ _ _ _ _ rfl (by decide) (by decide)) ev_int (op_int fun s t u Q E h => PyProof.Rows.and_int (h _))) ev_int (op_int fun s t u Q E h => PyProof.Rows.or_int (h _))) ev_int (op_int fun s t u Q E h => PyProof.Rows.add_int (h _))) .nil) (@con_chr _ _ _ _ h1.1 h1.2) (by decide)) (op_str (by show 2 ≤ 2 ^ 24; decide))) (.inl rfl) (@blk_fall _ _ _ _ _ _ _ _ _ _ _ _ (@blk_fall _ _ _ _ _ _ _ _ _ _ _ _ (rest _ ?_))) (by rfl)
      unfold repF
      rw [if_neg hc', if_neg (by rw [hp]; decide)]
end
end Mine.Internal
end
section
open PySem PySem.Calls
set_option maxRecDepth 100000
namespace Mine.Internal

noncomputable def rRaw : Rep Value := flat fun v x => v = x

theorem kind_iscn : builtinKind "issubclass.nested" = none := by rw [builtinKind_eq_fast]; decide +kernel
theorem plain_iscn : plainId "issubclass.nested" = true := by decide +kernel
theorem args_iscn (a b c : Value) : argsOk "issubclass.nested" ⟨[a, b, c], []⟩ := by unfold argsOk; rw [PySem.W.Fast.signatureQ_eq]; kernel_rfl

section
variable {prog : Program} {w : World} {mg mb : Str → Option Value} {A : Around} {env : Env} {ρ : Vs} {E : Value → Shared → Prop}

theorem isc_one {T U : String} {b : Bool} (hm : typeOf (.type U) = pure (.type "type")) (hs : isSubtype (.type T) (.type U) = pure b) {dep : Int} {tk : Tok} {s : Shared} {Q : Fin → Shared → Prop} (h : Q (.done (.ret (.bool b))) s) :
    wpAny (model prog w) A (Builtin.«issubclass.nested» ⟨[.type T, .type U, .int dep tk], []⟩) Q E s := by
  repeat (any_goals (first | assumption | (rw [if_pos hm]) | (rw [hs]) | wp_step))

theorem isc_items {T : String} {dep : Int} : ∀ (cs : List (String × Bool)) (s : Shared) (Q : Option Fin × Unit → Shared → Prop),
    (∀ c ∈ cs, typeOf (.type c.1) = pure (.type "type") ∧ isSubtype (.type T) (.type c.1) = pure c.2) → (∀ tk, Q (if cs.any (·.2) then some (.done (.ret (.bool true))) else none, ()) { s with toks := tk }) →
    wpAny (model prog w) A (forIn (cs.map fun c => Value.type c.1) ((none : Option Fin), ()) fun c _ => do
      if ← truthy (← call (.builtin "issubclass.nested") [.type T, c, rawInt (dep + 1)]) then
        let r ← ret (.bool true)
        pure (ForInStep.done (some r, ()))
      else pure (ForInStep.yield (none, ()))) Q E s
  | [], s, Q, _, h => wpAny_pure (h s.toks)
  | c :: cs, s, Q, ha, h => by
    rw [List.map_cons, List.forIn_cons]
    obtain ⟨h1, h2⟩ := ha c List.mem_cons_self
    refine wpAny_bind (wpAny_bind (call_function_entry kind_iscn plain_iscn F.entry_issubclass_nested (args_iscn _ _ _) (isc_one h1 h2 ⟨_, rfl, ?_⟩)))
    refine wpAny_bind (m := truthy (.bool c.2)) (wpAny_pure ?_)
    rw [List.any_cons] at h
    cases e : c.2 with
    | true => rw [e] at h; exact wpAny_bind (wpAny_pure (wpAny_pure (wpAny_pure (h s.toks))))
    | false =>
      rw [e] at h
      exact wpAny_pure (isc_items cs _ Q (fun c hc => ha c (List.mem_cons_of_mem _ hc)) h)

theorem con_issub {T : String} (cs : List (String × Bool)) (hc : ∀ c ∈ cs, typeOf (.type c.1) = pure (.type "type") ∧ isSubtype (.type T) (.type c.1) = pure c.2) :
    ConB prog w A (.builtin "issubclass") [⟨rIs (.type T), ()⟩, ⟨rTup rRaw, cs.map fun c => Value.type c.1⟩] rBool (cs.any (·.2)) := by
  intro X s vs hHr hv E
  cases hv with
  | @cons v _ vs _ hv hvs =>
    cases hvs with
    | @cons v' _ vs _ hv' hvs =>
      cases hvs with
      | nil =>
        have e : v = .type T := hv
        subst e
        refine Classical.byContradiction fun zG => ?_
        obtain ⟨a, us, rfl, _, ⟨o, ho, hcl, n, hd⟩, hp⟩ := hv'
        refine zG ?_
        clear zG
        have hus : us = cs.map fun c => Value.type c.1 := by
          have : ∀ {l m : List Value}, Paired (rRaw.rd X s.heap) l m → l = m := fun p => by
            induction p with
            | nil => rfl
            | cons h _ ih => rw [ih, show _ = _ from h]
          exact this hp
        subst hus
        refine Classical.byContradiction fun zG => ?_
        obtain ⟨ocls, odict, odata, osl⟩ := o
        refine zG ?_
        clear zG
        dsimp only at hcl hd
        subst hcl hd
        refine PyProof.Rows.call_issubclass (S := fun A R s' => s' = s ∧ ∀ tk, R (.ok (.ret (.bool (cs.any (·.2))))) { s with toks := tk }) ?_ ⟨rfl, fun tk => ⟨Keeps.tok _ _, rfl⟩⟩
        intro prog w A R s' hs'
        obtain ⟨rfl, hR⟩ := hs'
        refine PyProof.Rows.issubclass_outer ?_
        refine Classical.byContradiction fun zG => ?_
        obtain ⟨h, g, d, t, os⟩ := s'
        refine zG ?_
        clear zG
        have hT2 : (⟨h, g, d, t, os⟩ : Shared).TypeIs (.ref a) "tuple" := ⟨_, ho, rfl⟩
        have f1 := F.isi_sub_tuple
        dsimp only at ho
        repeat (any_goals (first | assumption | wp_step))
        refine wpAny_arrayLoop ?_
        simp only [Option.getD_some, List.toList_toArray]
        refine isc_items (dep := 0) cs _ _ hc fun tk' => ?_
        cases hv : cs.any (·.2) with
        | true =>
          simp only [if_true]
          repeat (any_goals (first | assumption | wp_step))
          exact hv ▸ hR tk'
        | false =>
          simp only [Bool.false_eq_true, if_false]
          repeat (any_goals (first | assumption | wp_step))
          exact hv ▸ hR tk'

-- texts or octets
structure Kind (α : Type) where
  r : Rep α
  T : String
  ty : ∀ {X h v x} (s : Shared), r.rd X h v x → s.TypeIs v T ∧ ∀ a, v ≠ .ref a
  sub : ∃ bs : Bool × Bool, isSubtype (.type T) (.type "str") = pure bs.1 ∧ isSubtype (.type T) (.type "bytes") = pure bs.2 ∧ (bs.1 || bs.2) = true
  nb : (Value.type T == Value.type "builtin_function_or_method") = false

noncomputable def kStr : Kind Str where
  r := rStr
  T := "str"
  ty := fun s h => by obtain ⟨t, rfl⟩ := h; exact ⟨rfl, fun a e => nomatch e⟩
  sub := ⟨(true, false), by rw [isSubtype_type]; kernel_rfl, by rw [isSubtype_type]; kernel_rfl, rfl⟩
  nb := by decide +kernel
noncomputable def kBytes : Kind (Array UInt8) where
  r := rBytes
  T := "bytes"
  ty := fun s h => by obtain ⟨t, rfl⟩ := h; exact ⟨rfl, fun a e => nomatch e⟩
  sub := ⟨(false, true), by rw [isSubtype_type]; kernel_rfl, by rw [isSubtype_type]; kernel_rfl, rfl⟩
  nb := by decide +kernel

theorem con_type {α : Type} (K : Kind α) {x : α} : ConB prog w A (.type "type") [⟨K.r, x⟩] (rIs (.type K.T)) () := by
  intro X s vs _ hv E
  cases hv with
  | @cons v _ vs _ hv hvs =>
    cases hvs with
    | nil => exact call_type_of (K.ty s hv).1 K.nb ⟨Keeps.refl _, rfl⟩

theorem con_fspath {n : Nat} {α : Type} (K : Kind α) (hR : Rm (n + 1) A) (x : α) : Con prog w mg mb A 9 [⟨K.r, x⟩] K.r x := by
  refine con1 (k := 9) (p := "path") (by decide) hR (fun v pm cd doc => rfl) (.inl rfl) (fun L cells q f cc fr X₁ s₀ hcl hR' E => ?_)
  refine @blk_assign _ _ _ _ _ _ _ _ _ _ _ _ _ _ _ _ _ _ _ (@ev_tcall _ _ _ _ _ _ _ _ ("type") _ _ _ _ ([_]) _ _ _ (by decide) (by decide +kernel) rfl rfl (.cons (@ev_name _ _ _ _ _ _ _ _ _ _ _ _ rfl (by decide) (by decide)) .nil) (@con_type _ _ _ _ K _) (by decide)) (.inl rfl) ?_ (by rfl)
  refine Classical.byContradiction fun zG => ?_
  obtain ⟨⟨b1, b2⟩, s1, s2, hor⟩ := K.sub
  refine zG ?_
  clear zG
  refine @blk_if _ _ _ _ _ _ _ _ _ _ _ _ _ _ _ _ (true) (@tst_bool _ _ _ _ _ _ _ _ _ ?_ (by intro _; rfl)) (fun _ => ?_) (fun h => nomatch h)
  · have key := @con_issub (prog) (w) (A.deeper (envK 9 L cells q f cc fr)) (K.T) [("str", b1), ("bytes", b2)] (by
      intro c hc; simp at hc
      rcases hc with rfl | rfl
      · exact ⟨by kernel_rfl, s1⟩
      · exact ⟨by kernel_rfl, s2⟩)
    have e : ([("str", b1), ("bytes", b2)] : List (String × Bool)).any (·.2) = true := by
      have : (b1 || b2) = true := hor
      cases b1 <;> cases b2 <;> simp_all
    rw [e] at key
    exact @ev_bcall _ _ _ _ _ _ _ _ ("issubclass") _ _ _ _ ([_, _]) _ _ _ (by decide) (by decide +kernel) rfl rfl (.cons (@ev_name _ _ _ _ _ _ _ _ _ _ _ _ rfl (by decide) (by decide)) (.cons (@ev_tup _ _ _ _ _ _ _ _ _ (0) _ ([_, _]) (rRaw) ([.type "str", .type "bytes"]) rfl (.cons (@ev_bname _ _ _ _ _ _ _ _ (.type "str") _ (by decide) (by decide +kernel) rfl (by decide)) (.cons (@ev_bname _ _ _ _ _ _ _ _ (.type "bytes") _ (by decide) (by decide +kernel) rfl (by decide)) .nil)) (by decide)) .nil)) key (by decide)
  · exact @blk_ret _ _ _ _ _ _ _ _ _ _ _ _ _ _ _ _ _ (@ev_name _ _ _ _ _ _ _ _ _ _ _ _ rfl (by decide) (by decide)) (fun v s' k hr => ⟨v, rfl, k, hr⟩)
end
end Mine.Internal
end
section
open PySem PySem.Calls
set_option maxRecDepth 100000
namespace Mine.Internal

theorem owner_map : Manifest.owners.lookup (String.ofList ['p', 'a', 'm'].reverse) = some Manifest.sig_map := (PySem.W.Fast.tree_find PySem.W.Fast.ownersT_ok _).trans (by kernel_rfl)
theorem slot_map_iter : Slot "map" "__iter__" "map.__iter__" :=
  .of (owner := "map") (n := "__iter__") (by rw [typeLookup_type, builtinLookup_eq_fast]; kernel_rfl) (by decide +kernel) (by decide +kernel) (by decide +kernel)
    (by first | exact .inl (by decide +kernel) | exact .inr (by decide +kernel)) (by rw [isSubtype_type]; kernel_rfl)
theorem args_map_iter (a : Value) : argsOk "map.__iter__" ⟨[a], []⟩ := by
  unfold argsOk; rw [signature?_of (id := "map.__iter__") (n := ['_', '_', 'r', 'e', 't', 'i', '_', '_']) (o := ['p', 'a', 'm']) (by kernel_rfl) owner_map]; kernel_rfl
theorem slot_map_next : Slot "map" "__next__" "map.__next__" :=
  .of (owner := "map") (n := "__next__") (by rw [typeLookup_type, builtinLookup_eq_fast]; kernel_rfl) (by decide +kernel) (by decide +kernel) (by decide +kernel)
    (by first | exact .inl (by decide +kernel) | exact .inr (by decide +kernel)) (by rw [isSubtype_type]; kernel_rfl)
theorem entry_map_next : entryFor table "map.__next__" = some Builtin.«map.__next__» := entryFor_of_tree (by kernel_rfl)
theorem args_map_next (a : Value) : argsOk "map.__next__" ⟨[a], []⟩ := by
  unfold argsOk; rw [signature?_of (id := "map.__next__") (n := ['_', '_', 't', 'x', 'e', 'n', '_', '_']) (o := ['p', 'a', 'm']) (by kernel_rfl) owner_map]; kernel_rfl
theorem slot_map_init : Slot "map" "__init__" "object.__init__" :=
  .of (owner := "object") (n := "__init__") (by rw [typeLookup_type, builtinLookup_eq_fast]; kernel_rfl) (by decide +kernel) (by decide +kernel) (by decide +kernel)
    (by first | exact .inl (by decide +kernel) | exact .inr (by decide +kernel)) (by rw [isSubtype_type]; kernel_rfl)
theorem entry_map_iter : entryFor table "map.__iter__" = some Builtin.«dict_keyiterator.__iter__» :=
  entryFor_alias (id' := "dict_keyiterator.__iter__") (by rw [fastTable_eq_tree]; kernel_rfl) rfl (by rw [PySem.W.Fast.canonicalQ_eq]; kernel_rfl) (by rw [fastTable_eq_tree]; kernel_rfl)
theorem mro_map : mroOf (.type "map") = pure [.type "map", .type "object"] := by rw [mroOf_type]; kernel_rfl
theorem lookup_map_new : typeLookup (.type "map") "__new__" = pure (some (.builtin "map.__new__")) := by rw [typeLookup_type, builtinLookup_eq_fast]; kernel_rfl
theorem called_map : TypeCalled "map" "map.__new__" "object.__init__" :=
  ⟨by decide +kernel, by decide +kernel, ⟨_, _, mro_map⟩, madeBy_type mro_map lookup_map_new (by decide +kernel), by decide +kernel, by rw [isSubtype_type]; kernel_rfl, slot_map_init⟩
theorem typeCall_map (a b : Value) : checkTypeCall "map" ⟨[a, b], []⟩ = pure () := by
  unfold checkTypeCall; rw [PySem.W.Fast.signatureQ_eq]; kernel_rfl
theorem newCall_map (a b : Value) : checkBuiltinCall "map.__new__" ⟨[.type "map", a, b], []⟩ = pure () := by
  unfold checkBuiltinCall
  rw [signature?_of (id := "map.__new__") (n := ['_', '_', 'w', 'e', 'n', '_', '_']) (o := ['p', 'a', 'm']) (by kernel_rfl) owner_map, builtinKind_eq_fast, PySem.W.Fast.canonicalQ_eq, PySem.W.Fast.findQ_eq]
  kernel_rfl
theorem entry_map_new : entryFor table "map.__new__" = some Builtin.«map.__new__» := entryFor_of_tree (by kernel_rfl)
theorem sub_map : isSubtype (.type "map") (.type "map") = pure true := by rw [isSubtype_type]; kernel_rfl
theorem map_no_len : typeLookup (.type "map") "__len__" = pure none := by rw [typeLookup_type, builtinLookup_eq_fast]; kernel_rfl
theorem map_no_hint : typeLookup (.type "map") "__length_hint__" = pure none := by rw [typeLookup_type, builtinLookup_eq_fast]; kernel_rfl

noncomputable abbrev mapH1 (h : Heap) (l : Addr) : Heap := h.push { cls := .type "list_iterator", data := .fields #[.ref l, .int 0 0] }
noncomputable abbrev mapH2 (h : Heap) (l : Addr) : Heap := (mapH1 h l).push { cls := .type "tuple", data := .seq #[.ref h.objs.size] }
noncomputable abbrev mapH3 (h : Heap) (l : Addr) (f : Value) : Heap := (mapH2 h l).push { cls := .type "map", data := .fields #[.ref (mapH1 h l).objs.size, f] }

theorem meets_map_new (f : Value) (l : Addr) (xs : Array Value) :
    Meets (Builtin.«map.__new__» ⟨[.type "map", f, .ref l], []⟩) (fun _ R s => s.heap.IsList l xs ∧ R (.ok (.ret (.ref (mapH2 s.heap l).objs.size))) { s with heap := mapH3 s.heap l f }) :=
  .of_wp fun prog w A R s h => by
    obtain ⟨hp, g, d, tk, os⟩ := s; obtain ⟨hl1, h⟩ := h
    have hsub := sub_map
    have hL1 : Heap.IsList (Shared.heap ⟨hp, g, d, tk, os⟩) l xs := hl1
    wp_walk using wpAny_pyIter_list hL1
    exact ⟨_, rfl, h⟩

-- the map over a list, at its i-th turn
structure MapAt (h : Heap) (Mp tp I ax fa : Addr) (vs : List Value) (i : Nat) : Prop where
  m : h.get? Mp = some { cls := .type "map", data := .fields #[.ref tp, .ref fa] }
  t : h.get? tp = some { cls := .type "tuple", data := .seq #[.ref I] }
  it : h.IsListIter I ax i
  l : h.IsList ax vs.toArray

section
variable {prog : Program} {w : World} {mg mb : Str → Option Value} {A : Around} {env : Env} {ρ : Vs} {E : Value → Shared → Prop}

theorem call_map {s : Shared} {l fa : Addr} {vs : List Value} {Q : Value → Shared → Prop} (hl : s.heap.IsList l vs.toArray)
    (h : ∀ h', Keep s.heap h' → MapAt h' (s.heap.objs.size + 2) (s.heap.objs.size + 1) s.heap.objs.size l fa vs 0 → Q (.ref (s.heap.objs.size + 2)) { s with heap := h' }) :
    wpAny (model prog w) A (call (.type "map") [.ref fa, .ref l]) Q E s := by
  refine callType_new called_map (by decide) (typeCall_map _ _) (newCall_map _ _) (fun obj => F.args_object_init_3 obj _ _) entry_map_new (meets_map_new (.ref fa) l vs.toArray) ⟨hl, ?_⟩
  have z1 : (mapH1 s.heap l).objs.size = s.heap.objs.size + 1 := Heap.size_push ..
  have z2 : (mapH2 s.heap l).objs.size = s.heap.objs.size + 2 := by rw [Heap.size_push, z1]
  have g3 : (mapH3 s.heap l (.ref fa)).get? (mapH2 s.heap l).objs.size = some _ := Heap.get?_push_size _ rfl
  have g2 : (mapH3 s.heap l (.ref fa)).get? (mapH1 s.heap l).objs.size = some _ := Heap.get?_push_of_some _ (Heap.get?_push_size _ rfl)
  have g1 : (mapH3 s.heap l (.ref fa)).get? s.heap.objs.size = some _ := Heap.get?_push_of_some _ (Heap.get?_push_of_some _ (Heap.get?_push_size _ rfl))
  have kp : Keep s.heap (mapH3 s.heap l (.ref fa)) := fun b o e => Heap.get?_push_of_some _ (Heap.get?_push_of_some _ (Heap.get?_push_of_some _ e))
  show _ ∧ _
  rw [z2, z1] at g3
  rw [z1] at g2
  rw [z2]
  refine Classical.byContradiction fun zG => ?_
  obtain ⟨ol, hol, hlr⟩ := hl
  refine zG ?_
  clear zG
  exact ⟨⟨_, g3, rfl⟩, h _ kp ⟨g3, g2, ⟨_, g1, rfl, rfl⟩, ⟨ol, kp _ _ hol, hlr⟩⟩⟩

end
end Mine.Internal
end
section
open PySem PySem.Calls
set_option maxRecDepth 100000
namespace Mine.Internal
section
variable {prog : Program} {w : World} {mg mb : Str → Option Value} {A : Around} {env : Env} {ρ : Vs} {E : Value → Shared → Prop}

theorem next_map_item {n : Nat} {α : Type} (K : Kind α) (hR : Rm (n + 2) A) {s : Shared} {Mp tp I ax fa : Addr} {vs : List Value} {i : Nat} {v : Value} {x : α} {Q : Option Value → Shared → Prop} (hG : Gl mg mb s.heap) (hm : mg (defAt 9).name = some (.ref fa))
    (hI0 : ∀ h', Heap.SameBut I s.heap h' → Gl mg mb h') (M : MapAt s.heap Mp tp I ax fa vs i) (hne : Mp ≠ I ∧ tp ≠ I ∧ ax ≠ I) (hv : vs[i]? = some v) (hx : K.r.rd [] s.heap v x) (fl : ∀ {X h X' h'}, K.r.rd X h v x → K.r.rd X' h' v x)
    (hQ : ∀ h' tk u, (∀ b o, b ≠ I → s.heap.get? b = some o → h'.get? b = some o) → h'.IsListIter I ax (i + 1) → K.r.rd [] h' u x → Q (some u) { s with heap := h', toks := tk }) :
    wpAny (model prog w) A (pyNext (.ref Mp)) Q E s := by
  have hT : s.TypeIs (.ref Mp) "map" := ⟨_, M.m, rfl⟩
  unfold pyNext
  refine wpAny_bind (wpAny_attempt (wpAny_callSpecial?_slot (name := Str.ofString "__next__") hT slot_map_next (wpAny_call_entry slot_map_next hT entry_map_next ?_ (args_map_next _))))
  show wpAny _ A.in1 (field (.ref Mp) 0 >>= _) _ _ s
  refine wpAny_bind (wpAny_field M.m rfl rfl ?_)
  show wpAny _ A.in1 (seqItems? (.ref tp) >>= _) _ _ s
  refine wpAny_bind (wpAny_seqItems M.t rfl ?_)
  refine wpAny_bind (m := forIn (#[Value.ref I] : Array Value) (#[] : Array Value) _) ?_
  rw [← Array.forIn_toList]
  show wpAny _ A.in1 (forIn [Value.ref I] (#[] : Array Value) _) _ _ s
  rw [List.forIn_cons]
  refine wpAny_bind (wpAny_bind (wpAny_holding (wpAny_nextOf_list_item M.it M.l (by simpa using hv) fun h₁ hit₁ hs₁ => ?_)))
  refine wpAny_pure ?_
  dsimp only
  rw [List.forIn_nil]
  refine wpAny_pure ?_
  have hm1 := hs₁.extBut Mp _ hne.1 M.m
  refine wpAny_bind (m := field (.ref Mp) 1) (wpAny_field hm1 rfl rfl ?_)
  have hc := con_fspath (prog := prog) (w := w) (mg := mg) (mb := mb) (n := n) K (A := A.in1) hR.in1 x [] { s with heap := h₁ } fa [v] (hI0 h₁ hs₁) (fun _ h => nomatch h) hm (.cons (fl hx) .nil)
  refine wpAny_bind (wpAny_holding (wpAny_mono (hc _) (fun u s₂ q₂ => ?_) fun _ _ e => e))
  refine Classical.byContradiction fun zG => ?_
  obtain ⟨⟨h₂, t₂, rfl, k₂⟩, hu⟩ := q₂
  refine zG ?_
  clear zG
  refine wpAny_bind (wpAny_letGo (wpAny_pure ⟨u, rfl, wpAny_pure ?_⟩))
  exact hQ h₂ t₂ u (fun b o hb e => k₂ b o (hs₁.extBut b o hb e)) (hit₁.at fun o e => k₂ _ _ e) hu

theorem next_map_end (hh : A.handled = none) {s : Shared} {Mp tp I ax fa : Addr} {vs : List Value} {i : Nat} {Q : Option Value → Shared → Prop} (M : MapAt s.heap Mp tp I ax fa vs i) (hv : vs[i]? = none)
    (hQ : ∀ h', Heap.ExtBut I s.heap h' → Q none { s with heap := h' }) : wpAny (model prog w) A (pyNext (.ref Mp)) Q E s := by
  have hT : s.TypeIs (.ref Mp) "map" := ⟨_, M.m, rfl⟩
  unfold pyNext
  refine wpAny_bind (wpAny_attempt (wpAny_callSpecial?_slot (name := Str.ofString "__next__") hT slot_map_next (wpAny_call_entry slot_map_next hT entry_map_next ?_ (args_map_next _))))
  show wpAny _ A.in1 (field (.ref Mp) 0 >>= _) _ _ s
  refine wpAny_bind (wpAny_field M.m rfl rfl ?_)
  show wpAny _ A.in1 (seqItems? (.ref tp) >>= _) _ _ s
  refine wpAny_bind (wpAny_seqItems M.t rfl ?_)
  refine wpAny_bind (m := forIn (#[Value.ref I] : Array Value) (#[] : Array Value) _) ?_
  rw [← Array.forIn_toList]
  show wpAny _ A.in1 (forIn [Value.ref I] (#[] : Array Value) _) _ _ s
  rw [List.forIn_cons]
  refine wpAny_bind (wpAny_bind (wpAny_holding (wpAny_nextOf_list_end hh M.it M.l (by simpa using hv) fun h' x he' hx' => ?_)))
  refine Classical.byContradiction fun zG => ?_
  obtain ⟨o, ho, hc⟩ := hx'
  refine zG ?_
  clear zG
  refine wpAny_bind (wpAny_isInstance (T := "StopIteration") (b := true) ⟨o, ho, hc⟩ isSubtype_stop ?_)
  exact wpAny_pure (hQ _ he')

-- what stands for x wherever it is read
noncomputable def Kind.Is {α : Type} (K : Kind α) (v : Value) (x : α) : Prop := ∀ X h, K.r.rd X h v x

theorem extend_map {n : Nat} {α : Type} (K : Kind α) (hR : Rm (n + 3) A) {hb : Heap} {R : Result → Shared → Prop} {Mp tp I ax fa S : Addr} {vs : List Value} {xs : List α} (res : Value) (hG : Gl mg mb hb) (hm : mg (defAt 9).name = some (.ref fa))
    (hI0 : hb.get? I = none) (hS0 : hb.get? S = none) (hne : Mp ≠ I ∧ tp ≠ I ∧ ax ≠ I) (hSn : Mp ≠ S ∧ tp ≠ S ∧ ax ≠ S ∧ I ≠ S) (hp : Paired K.Is vs xs) (hlen : xs.length ≤ sizeLine) (fl : ∀ {X h v x}, K.r.rd X h v x → K.Is v x) :
    ∀ (k i : Nat) (s : Shared) (acc : List Value) (c : Nat), vs.length - i = k → i ≤ vs.length → Keep hb s.heap → MapAt s.heap Mp tp I ax fa vs i → s.heap.get? S = some { cls := .type "list", data := .seq acc.toArray c } →
      Paired K.Is acc (xs.take i) → (∀ h' tk acc' c', Keep hb h' → h'.get? S = some { cls := .type "list", data := .seq acc'.toArray c' } → Paired K.Is acc' xs → R (.ok (.ret res)) { s with heap := h', toks := tk }) →
      codeAny (model prog w) A (.builtin "list.extend.loop" ⟨[.ref S, .ref Mp, res], []⟩) R s := by
  have hl := hp.length
  intro k
  induction k with
  | zero =>
    intro i s acc c hk hi hkp M hS hF hRR
    have hin : i = vs.length := by lia -abstractProof
    subst hin
    refine codeAny_builtin F.entry_extend_loop ?_
    rw [Around.under_plainId F.plain_extend_loop _]
    show wpAny _ A.in1 (pyNext (.ref Mp) >>= _) _ _ s
    refine wpAny_bind (next_map_end (A := A.in1) hR.none M (by simp) fun h' he' => ?_)
    rw [List.take_of_length_le (by lia -abstractProof)] at hF
    exact wpAny_pure (hRR h' s.toks acc c (fun b o e => he' b o (fun q => by subst q; rw [hI0] at e; cases e) (hkp b o e)) (he' _ _ (Ne.symm hSn.2.2.2) hS) hF)
  | succ k ih =>
    intro i s acc c hk hi hkp M hS hF hRR
    have hlt : i < vs.length := by lia -abstractProof
    obtain ⟨v, hv⟩ := getElem?_of_lt hlt
    refine Classical.byContradiction fun zG => ?_
    obtain ⟨x, hx, hvx⟩ := Paired.get hp hv
    refine zG ?_
    clear zG
    refine codeAny_builtin F.entry_extend_loop ?_
    rw [Around.under_plainId F.plain_extend_loop _]
    show wpAny _ A.in1 (pyNext (.ref Mp) >>= _) _ _ s
    refine wpAny_bind (next_map_item (mg := mg) (mb := mb) (n := n) K (A := A.in1) hR.in1 (hG.keeps hkp) hm (fun h' hs' => hG.keeps fun b o e => hs'.extBut b o (fun q => by subst q; rw [hI0] at e; cases e) (hkp b o e)) M hne hv (hvx _ _) (fun _ => hvx _ _) fun h' tk u hk' hit' hu => ?_)
    have hS' := hk' S _ (Ne.symm hSn.2.2.2) hS
    have hkp' : Keep hb h' := fun b o e => hk' b o (fun q => by subst q; rw [hI0] at e; cases e) (hkp b o e)
    have hlacc := hF.length
    rw [List.length_take] at hlacc
    show wpAny _ A.in1 (updateSeq S (·.push u) >>= _) _ _ _
    refine wpAny_bind ?_
    refine wpAny_updateSeq hS' rfl (wpAny_pure ⟨plainId_quiet F.plain_extend_loop _, ih (i + 1) _ (acc ++ [u]) (c + 1) (by lia -abstractProof) hlt (fun b o e => ?_) ?_ ?_ ?_ ?_⟩)
      (by simp; lia -abstractProof) (by simp; lia -abstractProof)
    · exact (Heap.get?_update_other _ _ (fun q : S = b => by subst q; rw [hS0] at e; cases e)).trans (hkp' b o e)
    · have oth : ∀ b o, b ≠ S → h'.get? b = some o → (h'.update S (Obj.mapSeq (·.push u))).get? b = some o := fun b o hbS e => (Heap.get?_update_other _ _ (Ne.symm hbS)).trans e
      exact ⟨oth _ _ hSn.1 (hk' _ _ hne.1 M.m), oth _ _ hSn.2.1 (hk' _ _ hne.2.1 M.t), hit'.at fun o e => oth _ _ hSn.2.2.2 e, (M.l.at fun o e => hk' _ _ hne.2.2 e).at fun o e => oth _ _ hSn.2.2.1 e⟩
    · have := Heap.get?_update_self (Obj.mapSeq (·.push u)) hS' rfl
      rw [this]
      simp [Obj.mapSeq]
    · have e1 : xs.take (i + 1) = xs.take i ++ [x] := by rw [List.take_add_one, hx]; rfl
      rw [e1]
      exact Paired.snoc hF (fl hu)
    · intro h'' tk'' acc' c' hk'' hS'' hF''
      exact hRR h'' tk'' acc' c' hk'' hS'' hF''

theorem map_iter {s : Shared} {Mp tp I ax fa : Addr} {vs : List Value} {i : Nat} {Q : Value → Shared → Prop} (M : MapAt s.heap Mp tp I ax fa vs i) (h : Q (.ref Mp) s) : wpAny (model prog w) A (pyIter (.ref Mp)) Q E s := by
  have hT : s.TypeIs (.ref Mp) "map" := ⟨_, M.m, rfl⟩
  refine wpAny_pyIter_slot hT slot_map_iter (wpAny_call_entry slot_map_iter hT entry_map_iter ?_ (args_map_iter _))
  show wpAny _ _ (ret (.ref Mp)) _ _ s
  exact wpAny_pure ⟨_, rfl, "map", _, hT, slot_map_next.lookup, h⟩

theorem collect_map {n : Nat} {α : Type} (K : Kind α) (hR : Rm (n + 4) A) {hb : Heap} {s : Shared} {Q : List Value → Shared → Prop} {Mp tp I ax fa : Addr} {vs : List Value} {xs : List α} (hG : Gl mg mb hb) (hm : mg (defAt 9).name = some (.ref fa))
    (hI0 : hb.get? I = none) (hkp : Keep hb s.heap) (hne : Mp ≠ I ∧ tp ≠ I ∧ ax ≠ I) (M : MapAt s.heap Mp tp I ax fa vs 0) (hp : Paired K.Is vs xs) (hlen : xs.length ≤ sizeLine) (fl : ∀ {X h v x}, K.r.rd X h v x → K.Is v x)
    (hQ : ∀ h' tk us, Keep hb h' → Paired K.Is us xs → Q us { s with heap := h', toks := tk }) : wpAny (model prog w) A (collect (.ref Mp)) Q E s := by
  have lt : ∀ {a o}, s.heap.get? a = some o → a ≠ s.heap.objs.size := fun e => Nat.ne_of_lt (Heap.lt_size e)
  refine Classical.byContradiction fun zG => ?_
  obtain ⟨oi, hoi, hri⟩ := id M.it
  refine zG ?_
  clear zG
  refine Classical.byContradiction fun zG => ?_
  obtain ⟨ol, hol, hrl⟩ := id M.l
  refine zG ?_
  clear zG
  have hS0 : hb.get? s.heap.objs.size = none := by
    cases e : hb.get? s.heap.objs.size with
    | none => rfl
    | some o => exact absurd (Heap.lt_size (hkp _ _ e)) (Nat.lt_irrefl _)
  have hSM : Mp ≠ s.heap.objs.size := lt M.m
  unfold collect
  refine wpAny_bind (wpAny_runValue (codeAny_builtin F.entry_proto_collect ?_))
  rw [Around.under_plainId F.plain_proto_collect _]
  show wpAny _ A.in1 (newList [] >>= fun l => again (.builtin "list.__iadd__" ⟨[l, .ref Mp], []⟩)) _ _ s
  refine wpAny_bind (wpAny_newObj_type ?_)
  refine wpAny_pure ⟨plainId_quiet F.plain_list_iadd _, codeAny_builtin F.entry_list_iadd ?_⟩
  rw [Around.under_plainId F.plain_list_iadd _]
  have pk : Keep s.heap (s.heap.push { cls := .type "list", data := .seq ([] : List Value).toArray }) := keep_push _ _
  have M₁ : MapAt (s.heap.push { cls := .type "list", data := .seq ([] : List Value).toArray }) Mp tp I ax fa vs 0 := ⟨pk _ _ M.m, pk _ _ M.t, ⟨oi, pk _ _ hoi, hri⟩, ⟨ol, pk _ _ hol, hrl⟩⟩
  have hT : ∀ (s' : Shared), s'.heap.get? Mp = some { cls := .type "map", data := .fields #[.ref tp, .ref fa] } → s'.TypeIs (.ref Mp) "map" := fun s' e => ⟨_, e, rfl⟩
  show wpAny _ A.in1 (Builtin.List.listExtendWith (.ref s.heap.objs.size) (.ref Mp) (.ref s.heap.objs.size)) _ _ _
  unfold Builtin.List.listExtendWith
  refine wpAny_bind (wpAny_typeOf (hT _ M₁.m) ?_)
  have h1 : Builtin.List.listSameRef (.ref s.heap.objs.size) (.ref Mp) = false := by simp [Builtin.List.listSameRef, Ne.symm hSM]
  have h2 : (Value.type "map" == Value.type "list") = false := by decide
  have h3 : (Value.type "map" == Value.type "tuple") = false := by decide
  simp only [h1, h2, h3, Bool.or_false, Bool.false_eq_true, if_false]
  refine wpAny_bind (map_iter M₁ ?_)
  refine wpAny_bind (wpAny_holding ?_)
  unfold Builtin.List.listLengthHint
  refine wpAny_bind (wpAny_specialOf (hT _ M₁.m) map_no_len ?_)
  show wpAny _ A.in1 (specialOf (Value.ref Mp) (Str.ofString "__length_hint__") >>= _) _ _ _
  refine wpAny_bind (wpAny_specialOf (hT _ M₁.m) map_no_hint ?_)
  refine wpAny_pure ?_
  show wpAny _ A.in1 (rule "list.extend.makes-room" >>= fun _ => Builtin.List.listTouch (.ref s.heap.objs.size) >>= fun _ =>
    again (.builtin "list.extend.loop" ⟨[.ref s.heap.objs.size, .ref Mp, .ref s.heap.objs.size], []⟩)) _ _ _
  refine wpAny_bind (wpAny_rule ?_)
  have hS₁ : (s.heap.push { cls := .type "list", data := .seq ([] : List Value).toArray }).get? s.heap.objs.size = some { cls := .type "list", data := .seq ([] : List Value).toArray } := Heap.get?_push_size _ rfl
  refine wpAny_bind ?_
  show wpAny _ A.in1 (updateSeq s.heap.objs.size (·.push .none) >>= fun _ => updateSeq s.heap.objs.size (·.pop)) _ _ _
  refine wpAny_bind (wpAny_updateSeq hS₁ rfl ?_)
  have hS₂ := Heap.get?_update_self (Obj.mapSeq (·.push Value.none)) hS₁ rfl
  refine wpAny_updateSeq hS₂ rfl ?_
  have hS₃ := Heap.get?_update_self (Obj.mapSeq (·.pop)) hS₂ rfl
  generalize hH : ((s.heap.push { cls := .type "list", data := .seq ([] : List Value).toArray }).update s.heap.objs.size (Obj.mapSeq (·.push Value.none))).update s.heap.objs.size (Obj.mapSeq (·.pop)) = H at hS₃
  revert H; refine held ?_; intro H hH hS₃
  have oth : ∀ b o, b ≠ s.heap.objs.size → s.heap.get? b = some o → H.get? b = some o := fun b o hb' e => by
    rw [← hH]; exact (Heap.get?_update_other _ _ (Ne.symm hb')).trans ((Heap.get?_update_other _ _ (Ne.symm hb')).trans (pk _ _ e))
  have M₃ : MapAt H Mp tp I ax fa vs 0 := ⟨oth _ _ hSM M.m, oth _ _ (lt M.t) M.t, ⟨oi, oth _ _ (lt hoi) hoi, hri⟩, ⟨ol, oth _ _ (lt hol) hol, hrl⟩⟩
  refine wpAny_pure ⟨plainId_quiet F.plain_extend_loop _, extend_map (mg := mg) (mb := mb) (n := n) K (A := A) (hR.le) (hb := hb) (res := .ref s.heap.objs.size) hG hm hI0 hS0 hne ⟨hSM, lt M.t, lt hol, lt hoi⟩ hp hlen fl vs.length 0 _ [] _ rfl (Nat.zero_le _)
    (fun b o e => oth b o (fun q => by subst q; rw [hS0] at e; cases e) (hkp b o e)) M₃ hS₃ (by simpa using Paired.nil) fun h' tk acc' c' hk' hS' hF' => ?_⟩
  show wpAny _ A (load s.heap.objs.size >>= _) _ _ _
  refine wpAny_bind (wpAny_load hS' ?_)
  exact wpAny_pure (hQ h' tk acc' hk' hF')

theorem call_tuple_map {n : Nat} {α : Type} (K : Kind α) (hR : Rm (n + 6) A) {hb : Heap} {s : Shared} {Q : Value → Shared → Prop} {Mp tp I ax fa : Addr} {vs : List Value} {xs : List α} (hG : Gl mg mb hb) (hm : mg (defAt 9).name = some (.ref fa))
    (hI0 : hb.get? I = none) (hkp : Keep hb s.heap) (hne : Mp ≠ I ∧ tp ≠ I ∧ ax ≠ I) (M : MapAt s.heap Mp tp I ax fa vs 0) (hp : Paired K.Is vs xs) (hlen : xs.length ≤ sizeLine) (fl : ∀ {X h v x}, K.r.rd X h v x → K.Is v x)
    (hQ : ∀ h' tk us, Keep hb h' → Paired K.Is us xs → Q (.ref h'.objs.size) { s with heap := h'.push { cls := .type "tuple", data := .seq (us : List Value).toArray }, toks := tk }) : wpAny (model prog w) A (call (.type "tuple") [.ref Mp]) Q E s := by
  have hTI : s.TypeIs (.ref Mp) "map" := ⟨_, M.m, rfl⟩
  have code : codeAny (model prog w) A.in1 (.call (.builtin "tuple.__new__") ⟨[.type "tuple", .ref Mp], []⟩) (wants (fun obj s₁ => s₁.TypeIs obj "tuple" ∧ Q obj s₁) E) s := by
    refine codeAny_of_tree ?_
    show wpAny _ A.in1.in1 (do checkBuiltinCall "tuple.__new__" ⟨[.type "tuple", .ref Mp], []⟩; again (.builtin "tuple.__new__" ⟨[.type "tuple", .ref Mp], []⟩)) _ _ s
    refine wpAny_bind (wpAny_of_eq (F.newCall_tuple_1 _) (wpAny_pure ⟨plainId_quiet F.plain_tuple_new _, codeAny_builtin F.entry_tuple_new ?_⟩))
    rw [Around.under_plainId F.plain_tuple_new _]
    have hsub := sub_tuple_self
    have hinit := init_tuple_lookup
    have hmh := madeHere_tuple
    wp_walk using wpAny_typeOf hTI, collect_map (mg := mg) (mb := mb) (n := n) K (A := A.in1.in1) hR.in1.in1 hG hm hI0 hkp hne M hp hlen fl
    intro h' tk us hk' hF'
    show wpAny _ _ (Builtin.Tuple.tupleExact us.toArray >>= fun v => ret v) _ _ _
    unfold Builtin.Tuple.tupleExact
    refine wpAny_bind (wpAny_newObj_type ?_ (by show us.toArray.size ≤ sizeLine; rw [List.size_toArray, hF'.length]; exact hlen))
    exact wpAny_pure ⟨⟨_, Heap.get?_push_size _ rfl, rfl⟩, hQ h' tk us hk' hF'⟩
  refine callType_codes (Q₁ := fun obj s₁ => s₁.TypeIs obj "tuple" ∧ Q obj s₁) F.called_tuple (F.typeCall_tuple_1 _) F.entry_object_init code fun obj s₁ h₁ => ?_
  exact ⟨h₁.1, F.args_object_init_2 obj _, object_init_meets F.called_tuple.init.lookup F.called_tuple.made (by decide) prog w A.in1 _ s₁ ⟨h₁.1, rfl, h₁.2⟩⟩

theorem ev_tupmap {n : Nat} {α : Type} (K : Kind α) (hR : Rm (n + 6) A) {e : Expr} {p1 p2 p3 p4 p5 : Pos} {xs : List α} (he : Ev prog w mg mb A env ρ e (rList K.r) xs) (hlen : xs.length ≤ sizeLine) (fl : ∀ {X h v x}, K.r.rd X h v x → K.Is v x)
    (k1 : env.kindOf "tuple" = some .globalImplicit) (k2 : env.kindOf "map" = some .globalImplicit) (k3 : env.kindOf "fspath" = some .globalImplicit)
    (hs : starEach [e] env = [(false, eval e env)]) :
    Ev prog w mg mb A env ρ (.Call (.Name "tuple" p1) [.Call (.Name "map" p2) [.Name "fspath" p3, e] [] p4] [] p5) (rTup K.r) xs := by
  intro X s i E
  refine Classical.byContradiction fun zG => ?_
  obtain ⟨fa, o, pm, code, doc, h1, h2, h3, h4⟩ := i.gl.fn 9 (by decide)
  refine zG ?_
  clear zG
  have hg := i.en.1 ▸ i.gl.g
  have hb := i.en.2.1 ▸ i.gl.b
  refine wpAny_Call_Name_kw (Name_function_global i.en.2.2 k1 (loadGlobal_builtin hg (i.gl.free _ (by decide)) hb ((i.gl.blt _ (by decide)).trans (show bootBuiltins "tuple" = some (.type "tuple") by decide +kernel)) ?_) (by decide))
  show wpAny _ A (callWith p5 (.type "tuple") [] [(false, eval (.Call (.Name "map" p2) [.Name "fspath" p3, e] [] p4) env)] []) _ _ s
  refine callWith_type rfl (evalArgs_plain (spliced_cons ?_))
  refine wpAny_Call_Name_kw (Name_function_global i.en.2.2 k2 (loadGlobal_builtin hg (i.gl.free _ (by decide)) hb ((i.gl.blt _ (by decide)).trans (show bootBuiltins "map" = some (.type "map") by decide +kernel)) ?_) (by decide))
  have hts : backTo p4 (starEach [.Name "fspath" p3, e] env) = [(false, eval (.Name "fspath" p3) env), (false, eval e env)] := by
    have : starEach [.Name "fspath" p3, e] env = (false, eval (.Name "fspath" p3) env) :: starEach [e] env := rfl
    rw [this, hs]; rfl
  show wpAny _ A (callWith p4 (.type "map") [] (backTo p4 (starEach [.Name "fspath" p3, e] env)) []) _ _ s
  rw [hts]
  refine callWith_type rfl (evalArgs_plain (spliced_cons ?_))
  refine Name_function_global i.en.2.2 k3 (loadGlobal_global hg (show mg ("fspath" : Str) = some (.ref fa) from h1) ?_) (by decide)
  refine spliced_cons (wpAny_mono (he X s i E) (fun l s₁ q₁ => spliced_nil ?_) fun _ _ e => e)
  refine Classical.byContradiction fun zG => ?_
  obtain ⟨⟨h₁, t₁, rfl, k₁⟩, hl⟩ := q₁
  refine zG ?_
  clear zG
  refine Classical.byContradiction fun zG => ?_
  obtain ⟨ax, vs, rfl, haX, hax, hp⟩ := hl
  refine zG ?_
  clear zG
  dsimp only at hax hp
  have hax' : h₁.IsList ax vs.toArray := hax
  have hp' : Paired K.Is vs xs := Paired.imp hp fun _ _ q => fl q
  refine Classical.byContradiction fun zG => ?_
  obtain ⟨ol, hol, _⟩ := hax
  refine zG ?_
  clear zG
  refine call_map (s := { s with heap := h₁, toks := t₁ }) hax' fun h₂ k₂ M => spliced_nil ?_
  dsimp only at k₂ M
  refine call_tuple_map (mg := mg) (mb := mb) (n := n) K hR (hb := h₁) (i.gl.keeps k₁) h1 (Heap.get?_none_of_le (Nat.le_refl _)) k₂
    ⟨Nat.ne_of_gt (Nat.lt_add_of_pos_right (by decide)), Nat.ne_of_gt (Nat.lt_succ_self _), Nat.ne_of_lt (Heap.lt_size hol)⟩ M hp' hlen fl fun h₃ t₃ us k₃ hF => ?_
  have hX : ∀ a ∈ X, ∃ o, h₃.get? a = some o := fun a ha => by obtain ⟨o, ho⟩ := i.here a ha; exact ⟨o, k₃ _ _ (k₁ _ _ ho)⟩
  refine ⟨Keeps.of fun b o e => keep_push _ _ b o (k₃ b o (k₁ b o e)), ?_⟩
  refine ⟨_, us, rfl, fun hm => ?_, ⟨_, Heap.get?_push_size _ rfl, rfl, _, rfl⟩, Paired.imp hF fun _ _ q => q _ _⟩
  obtain ⟨o, ho⟩ := hX _ hm
  exact absurd (Heap.lt_size ho) (Nat.lt_irrefl _)
theorem flStr {X : List Addr} {h : Heap} {v : Value} {x : Str} (p : kStr.r.rd X h v x) : kStr.Is v x := fun _ _ => p
theorem flBytes {X : List Addr} {h : Heap} {v : Value} {x : Array UInt8} (p : kBytes.r.rd X h v x) : kBytes.Is v x := fun _ _ => p
end
end Mine.Internal
end
section
open PySem PySem.Calls PySem.SeqAt
set_option maxRecDepth 100000
namespace Mine.Internal

-- texts or octets, and what commonpath does with them
structure TK (α : Type) [DecidableEq α] where
  K : Kind α
  fl : ∀ {X h v x}, K.r.rd X h v x → K.Is v x
  len : α → Nat
  sep : α
  cur : α
  emp : α
  isB : Bool
  split : α → List α
  starts : α → Bool
  lt : α → α → Bool
  join : List α → α
  add : α → α → α
  pa : PlainAttrs K.T
  idSplit : String
  slotSplit : Slot K.T "split" idSplit
  tySplit : typeOf (.builtin idSplit) = pure (.type "method_descriptor")
  cSplit : ∀ {prog w A x}, len x ≤ 5000 → ConB prog w A (.builtin idSplit) [⟨K.r, x⟩, ⟨K.r, sep⟩] (rList K.r) (split x)
  idStarts : String
  slotStarts : Slot K.T "startswith" idStarts
  tyStarts : typeOf (.builtin idStarts) = pure (.type "method_descriptor")
  cStarts : ∀ {prog w A x}, len x ≤ 5000 → ConB prog w A (.builtin idStarts) [⟨K.r, x⟩, ⟨K.r, sep⟩] rBool (starts x)
  idJoin : String
  slotJoin : Slot K.T "join" idJoin
  tyJoin : typeOf (.builtin idJoin) = pure (.type "method_descriptor")
  cJoin : ∀ {prog w A n xs}, Rm (n + 2) A → (xs.map len).sum + xs.length ≤ 100000 → ConB prog w A (.builtin idJoin) [⟨K.r, sep⟩, ⟨rList K.r, xs⟩] K.r (join xs)
  isi : ∀ {prog w A x}, ConB prog w A (.builtin "isinstance") [⟨K.r, x⟩, ⟨rIs (.type "bytes"), ()⟩] rBool isB
  tru : ∀ {prog w A x X} {s : Shared} {v E}, len x ≤ 5000 → K.r.rd X s.heap v x → wpAny (model prog w) A (truthy v) (fun c s' => Keeps s s' ∧ c = decide (x ≠ emp)) E s
  ne : ∀ {prog w A x y X} {s : Shared} {a b}, K.r.rd X s.heap a x → K.r.rd X s.heap b y → Sv prog w A (compareOp .NotEq a b) X s rBool (decide (x ≠ y))
  eqAt : ∀ {A x y} {s : Shared} {a b}, K.Is a x → K.Is b y → EqAt A s a b (decide (x = y))
  ltC : ∀ {prog w A x y} {s : Shared} {a b E} {Q : Value → Shared → Prop}, K.Is a x → K.Is b y → Q (.bool (lt x y)) s → wpAny (model prog w) A (richCompare .Lt a b) Q E s
  gtC : ∀ {prog w A x y} {s : Shared} {a b E} {Q : Value → Shared → Prop}, K.Is a x → K.Is b y → Q (.bool (lt y x)) s → wpAny (model prog w) A (richCompare .Gt a b) Q E s
  cut0 : ∀ {prog w A X} {s : Shared} {a b}, K.r.rd X s.heap a sep → rSlice.rd X s.heap b (none, some 0) → Sv prog w A (getItem a b) X s K.r emp
  getSlot : ∃ id, typeLookup (.type K.T) "__getitem__" = pure (some (.builtin id))
  addC : ∀ {prog w A x y X} {s : Shared} {a b}, Hr X s → len x + len y ≤ 1000000 → K.r.rd X s.heap a x → K.r.rd X s.heap b y → Sv prog w A (binaryOp .Add a b) X s K.r (add x y)

section
variable {prog : Program} {w : World} {A : Around}

theorem vals2 {X : List Addr} {h : Heap} {vs : List Value} {U V : Mine.Internal.V} (p : Vals X h vs [U, V]) : ∃ a b, vs = [a, b] ∧ U.r.rd X h a U.x ∧ V.r.rd X h b V.x := by
  cases p with
  | @cons v _ vs _ hv hvs =>
    cases hvs with
    | @cons v' _ vs _ hv' hvs =>
      cases hvs with
      | nil => exact ⟨v, v', rfl, hv, hv'⟩
theorem vals1 {X : List Addr} {h : Heap} {vs : List Value} {U : Mine.Internal.V} (p : Vals X h vs [U]) : ∃ a, vs = [a] ∧ U.r.rd X h a U.x := by
  cases p with
  | @cons v _ vs _ hv hvs =>
    cases hvs with
    | nil => exact ⟨v, rfl, hv⟩

noncomputable def sSep : Str := "/"
noncomputable def sDot : Str := "."

theorem strValues_paired (X : List Addr) (h : Heap) : ∀ l : List (Str × Tok), Paired (rStr.rd X h) (strValues l) (l.map (·.1))
  | [] => .nil
  | p :: r => .cons ⟨p.2, rfl⟩ (strValues_paired X h r)
theorem paired_strsAre {X : List Addr} {h : Heap} {vs : List Value} {xs : List Str} (p : Paired (rStr.rd X h) vs xs) : PyProof.Rows.StrsAre vs xs := by
  induction p with
  | nil => exact .nil
  | cons hx _ ih => obtain ⟨t, rfl⟩ := hx; exact .cons _ _ ih

theorem fresh_list {α : Type} {r : Rep α} {X : List Addr} {s : Shared} {k : Nat} {vs : List Value} {xs : List α} (hX : Hr X s) (hp : Paired (r.rd X (s.heap.push { cls := .type "list", data := .seq vs.toArray })) vs xs) :
    Keeps s { s with heap := s.heap.push { cls := .type "list", data := .seq vs.toArray }, toks := k } ∧ (rList r).rd X (s.heap.push { cls := .type "list", data := .seq vs.toArray }) (.ref s.heap.objs.size) xs :=
  ⟨Keeps.of (keep_push _ _), _, vs, rfl, not_in_X hX, ⟨_, Heap.get?_push_size _ rfl, rfl, _, rfl⟩, hp⟩

theorem sSplit_c {x : Str} (hx : x.length ≤ 5000) : ConB prog w A (.builtin "str.split") [⟨rStr, x⟩, ⟨rStr, sSep⟩] (rList rStr) (Txt.split x sSep) := by
  intro X s vs hX hv E
  refine Classical.byContradiction fun zG => ?_
  obtain ⟨a, b, rfl, ⟨t, rfl⟩, ⟨u, rfl⟩⟩ := vals2 hv
  refine zG ?_
  clear zG
  have one : ∀ k, Txt.split x sSep = [x] → Keeps s { s with heap := s.heap.push { cls := .type "list", data := .seq [Value.str x t].toArray }, toks := k } ∧
      (rList rStr).rd X (s.heap.push { cls := .type "list", data := .seq [Value.str x t].toArray }) (.ref s.heap.objs.size) (Txt.split x sSep) := fun k e => by
    rw [e]; exact fresh_list hX (.cons ⟨t, rfl⟩ .nil)
  rcases Bool.eq_false_or_eq_true (decide (x.length < sSep.length) || decide (Builtin.Str.strKind x < Builtin.Str.strKind sSep)) with h1 | h1
  · exact call_meets F.slot_str_split (typeIs_str _ _ _) F.entry_str_split (F.args_str_split_2 _ _) (meets_str_split_cannot_occur x sSep t u h1) (one s.toks (if_pos h1))
  · have hf : (if (decide (x.length < sSep.length) || decide (Builtin.Str.strKind x < Builtin.Str.strKind sSep)) = true then [x] else
        if (Builtin.Str.occurrences x sSep 0 x.length (x.length + 1)).isEmpty = true then [x] else Builtin.Str.partsBetween x (Builtin.Str.occurrences x sSep 0 x.length (x.length + 1)) sSep.length) = Txt.split x sSep := rfl
    rw [if_neg (by rw [h1]; decide)] at hf
    rcases Bool.eq_false_or_eq_true (Builtin.Str.occurrences x sSep 0 x.length (x.length + 1)).isEmpty with h2 | h2
    · exact call_meets F.slot_str_split (typeIs_str _ _ _) F.entry_str_split (F.args_str_split_2 _ _) (meets_str_split_not_found x sSep t u h1 (by decide) h2) (one s.toks (by rw [if_pos h2] at hf; exact hf.symm))
    · rw [if_neg (by rw [h2]; decide)] at hf
      have hn : (Builtin.Str.partsBetween x (Builtin.Str.occurrences x sSep 0 x.length (x.length + 1)) sSep.length).length ≤ sizeLine := by
        have e1 := StrLaws.occ_length_le x sSep 0 x.length (x.length + 1)
        rw [length_partsBetween, sizeLine_eq]; lia -abstractProof
      refine call_meets F.slot_str_split (typeIs_str _ _ _) F.entry_str_split (F.args_str_split_2 _ _) (meets_str_split_sep x sSep t u h1 (by decide) h2 (by rw [sizeLine_eq]; lia -abstractProof) hn) ?_
      have key : ∀ k, Keeps s { s with heap := s.heap.push { cls := .type "list", data := .seq (strsFrom s.toks (Txt.split x sSep)).toArray }, toks := k } ∧
          (rList rStr).rd X (s.heap.push { cls := .type "list", data := .seq (strsFrom s.toks (Txt.split x sSep)).toArray }) (.ref s.heap.objs.size) (Txt.split x sSep) := fun k => by
        refine fresh_list hX ?_
        rw [strsFrom_eq]
        have := strValues_paired X (s.heap.push { cls := .type "list", data := .seq (strValues (numbered s.toks (Txt.split x sSep))).toArray }) (numbered s.toks (Txt.split x sSep))
        rwa [numbered_texts] at this
      rw [hf]
      exact key _

theorem sStarts_c {x : Str} : ConB prog w A (.builtin "str.startswith") [⟨rStr, x⟩, ⟨rStr, sSep⟩] rBool (Txt.startswith x sSep) := by
  intro X s vs hX hv E
  refine Classical.byContradiction fun zG => ?_
  obtain ⟨a, b, rfl, ⟨t, rfl⟩, ⟨u, rfl⟩⟩ := vals2 hv
  refine zG ?_
  clear zG
  exact SC.startswith ⟨Keeps.refl _, rfl⟩
theorem sJoin_c {x : Str} {xs : List Str} (hx : x.length ≤ 1) (h : (xs.map Str.length).sum + xs.length ≤ 100000) : ConB prog w A (.builtin "str.join") [⟨rStr, x⟩, ⟨rList rStr, xs⟩] rStr (Txt.join x xs) := by
  intro X s vs hX hv E
  refine Classical.byContradiction fun zG => ?_
  obtain ⟨a, b, rfl, ⟨t, rfl⟩, hl⟩ := vals2 hv
  refine zG ?_
  clear zG
  refine Classical.byContradiction fun zG => ?_
  obtain ⟨D, us, rfl, _, hD, hp⟩ := hl
  refine zG ?_
  clear zG
  refine PyProof.Rows.join_list (items := us.toArray) hD (paired_strsAre hp) ?_ (fun t' k => ⟨Keeps.tok _ _, t', rfl⟩)
  show (xs.map (·.length)).sum + xs.length * x.length ≤ 16777216
  have h' : (xs.map (·.length)).sum + xs.length ≤ 100000 := h
  have : xs.length * x.length ≤ xs.length := by
    have := Nat.mul_le_mul_left xs.length hx
    lia -abstractProof
  lia -abstractProof
theorem sIsi_c {x : Str} : ConB prog w A (.builtin "isinstance") [⟨rStr, x⟩, ⟨rIs (.type "bytes"), ()⟩] rBool false := by
  intro X s vs hX hv E
  refine Classical.byContradiction fun zG => ?_
  obtain ⟨a, b, rfl, ⟨t, rfl⟩, hb⟩ := vals2 hv
  refine zG ?_
  clear zG
  have e : b = .type "bytes" := hb
  subst e
  exact call_isinstance (isinstance_false_str (by decide +kernel) (by kernel_rfl) (by rw [isSubtype_type]; kernel_rfl)) ⟨Keeps.tok _ _, rfl⟩

theorem str_eq_iff (x y : Str) : (x.cps.toList = y.cps.toList) ↔ x = y := by
  constructor
  · intro h
    cases x; cases y
    simp only [Str.mk.injEq]
    exact Array.toList_inj.mp h
  · rintro rfl; rfl

noncomputable def tkStr : TK Str where
  K := kStr
  fl := flStr
  len := Str.length
  sep := sSep
  cur := sDot
  emp := Str.empty
  isB := false
  split := fun x => Txt.split x sSep
  starts := fun x => Txt.startswith x sSep
  lt := fun x y => decide (x.cps.toList < y.cps.toList)
  join := fun xs => Txt.join sSep xs
  add := fun x y => x ++ y
  pa := F.plainAttrs_str
  idSplit := "str.split"
  slotSplit := F.slot_str_split
  tySplit := F.type_str_split
  cSplit := fun h => @sSplit_c _ _ _ _ h
  idStarts := "str.startswith"
  slotStarts := F.slot_str_startswith
  tyStarts := F.type_str_startswith
  cStarts := fun _ => sStarts_c
  idJoin := "str.join"
  slotJoin := F.slot_str_join
  tyJoin := F.type_str_join
  cJoin := fun _ h => @sJoin_c _ _ _ _ _ (by decide) h
  isi := sIsi_c
  tru := fun {prog w A x X s v E} hx hv => by
    obtain ⟨t, rfl⟩ := hv
    refine P.truthy_str (by lia -abstractProof) ⟨Keeps.tok _ _, ?_⟩
    rw [Bool.eq_iff_iff]
    simp only [bne_iff_ne, ne_eq, decide_eq_true_eq]
    constructor
    · rintro h rfl; exact h rfl
    · intro h e
      apply h
      have e' : ((x.length : Nat) : Int) = 0 := e
      have : x.length = 0 := by lia -abstractProof
      have : x.cps.size = 0 := this
      cases x; simp at this; subst this; rfl
  ne := fun {prog w A x y X s a b} ha hb E => by
    obtain ⟨t, rfl⟩ := ha
    obtain ⟨u, rfl⟩ := hb
    refine P.ne_str ⟨Keeps.refl _, ?_⟩
    show Value.bool _ = Value.bool _
    congr 1
    rw [Bool.eq_iff_iff]
    simp only [bne_iff_ne, ne_eq, decide_eq_true_eq, str_eq_iff]
  eqAt := fun {A x y s a b} ha hb => by
    obtain ⟨t, rfl⟩ := ha [] s.heap
    obtain ⟨u, rfl⟩ := hb [] s.heap
    have e : decide (x = y) = (x == y) := by rw [Bool.eq_iff_iff]; simp
    rw [e]; exact EqAt.str_str _ _ _ _
  ltC := fun {prog w A x y s a b E Q} ha hb hq => by
    obtain ⟨t, rfl⟩ := ha [] s.heap
    obtain ⟨u, rfl⟩ := hb [] s.heap
    exact P.lt_str (show Q _ s from hq)
  gtC := fun {prog w A x y s a b E Q} ha hb hq => by
    obtain ⟨t, rfl⟩ := ha [] s.heap
    obtain ⟨u, rfl⟩ := hb [] s.heap
    exact P.gt_str (show Q _ s from hq)
  cut0 := fun {prog w A X s a b} ha hb E => by
    obtain ⟨t, rfl⟩ := ha
    refine Classical.byContradiction fun zG => ?_
    obtain ⟨d, vl, vu, rfl, _, hs, hl, hu⟩ := hb
    refine zG ?_
    clear zG
    cases hl
    cases hu with
    | int i u =>
      have e : sliceMade sSep t none (some (0, u)) none = .str Str.empty := rfl
      refine wpAny_getItem_str_slice (l := none) (u := some (0, u)) (st := none) hs rfl ?_
      rw [e]
      exact ⟨by show 0 ≤ sizeLine; exact Nat.zero_le _, Keeps.tok _ _, _, rfl⟩
  getSlot := ⟨_, F.slot_str_getitem.lookup⟩
  addC := fun {prog w A x y X s a b} hX hz ha hb => @op_str _ _ _ _ _ (by rw [sizeLine_eq]; have : x.length + y.length ≤ 1000000 := hz; lia -abstractProof) X s a b hX ha hb
end
end Mine.Internal
end
section
open PySem PySem.Calls PySem.SeqAt
set_option maxRecDepth 100000
namespace Mine.Internal
open PySem.W.FB (owner_bytes)

theorem slot_bytes_split : Slot "bytes" "split" "bytes.split" :=
  .of (owner := "bytes") (n := "split") (by rw [typeLookup_type, builtinLookup_eq_fast]; kernel_rfl) (by decide +kernel) (by decide +kernel) (by decide +kernel)
    (by first | exact .inl (by decide +kernel) | exact .inr (by decide +kernel)) (by rw [isSubtype_type]; kernel_rfl)
theorem type_bytes_split : typeOf (.builtin "bytes.split") = pure (.type "method_descriptor") := by show builtinType _ = _; rw [builtinType_eq_fast]; kernel_rfl
theorem entry_bytes_split : entryFor table "bytes.split" = some Builtin.«bytes.split» := entryFor_of_tree (by kernel_rfl)
theorem args_bytes_split (a b : Value) : argsOk "bytes.split" ⟨[a, b], []⟩ := by
  unfold argsOk; rw [signature?_of (id := "bytes.split") (n := ['t', 'i', 'l', 'p', 's']) (o := ['s', 'e', 't', 'y', 'b']) (by kernel_rfl) owner_bytes]; kernel_rfl
theorem slot_bytes_join : Slot "bytes" "join" "bytes.join" :=
  .of (owner := "bytes") (n := "join") (by rw [typeLookup_type, builtinLookup_eq_fast]; kernel_rfl) (by decide +kernel) (by decide +kernel) (by decide +kernel)
    (by first | exact .inl (by decide +kernel) | exact .inr (by decide +kernel)) (by rw [isSubtype_type]; kernel_rfl)
theorem type_bytes_join : typeOf (.builtin "bytes.join") = pure (.type "method_descriptor") := by show builtinType _ = _; rw [builtinType_eq_fast]; kernel_rfl
theorem entry_bytes_join : entryFor table "bytes.join" = some Builtin.«bytes.join» := entryFor_of_tree (by kernel_rfl)
theorem args_bytes_join (a b : Value) : argsOk "bytes.join" ⟨[a, b], []⟩ := by
  unfold argsOk; rw [signature?_of (id := "bytes.join") (n := ['n', 'i', 'o', 'j']) (o := ['s', 'e', 't', 'y', 'b']) (by kernel_rfl) owner_bytes]; kernel_rfl
theorem slot_bytes_lt : Slot "bytes" (cmpInfo .Lt).2.1 "bytes.__lt__" :=
  .of (owner := "bytes") (n := "__lt__") (by rw [typeLookup_type, builtinLookup_eq_fast]; kernel_rfl) (by decide +kernel) (by decide +kernel) (by decide +kernel)
    (by first | exact .inl (by decide +kernel) | exact .inr (by decide +kernel)) (by rw [isSubtype_type]; kernel_rfl)
theorem entry_bytes_lt : entryFor table "bytes.__lt__" = some Builtin.«bytes.__lt__» := entryFor_of_tree (by kernel_rfl)
theorem args_bytes_lt (a b : Value) : argsOk "bytes.__lt__" ⟨[a, b], []⟩ := by
  unfold argsOk; rw [signature?_of (id := "bytes.__lt__") (n := ['_', '_', 't', 'l', '_', '_']) (o := ['s', 'e', 't', 'y', 'b']) (by kernel_rfl) owner_bytes]; kernel_rfl
theorem slot_bytes_gt : Slot "bytes" (cmpInfo .Gt).2.1 "bytes.__gt__" :=
  .of (owner := "bytes") (n := "__gt__") (by rw [typeLookup_type, builtinLookup_eq_fast]; kernel_rfl) (by decide +kernel) (by decide +kernel) (by decide +kernel)
    (by first | exact .inl (by decide +kernel) | exact .inr (by decide +kernel)) (by rw [isSubtype_type]; kernel_rfl)
theorem entry_bytes_gt : entryFor table "bytes.__gt__" = some Builtin.«bytes.__gt__» := entryFor_of_tree (by kernel_rfl)
theorem args_bytes_gt (a b : Value) : argsOk "bytes.__gt__" ⟨[a, b], []⟩ := by
  unfold argsOk; rw [signature?_of (id := "bytes.__gt__") (n := ['_', '_', 't', 'g', '_', '_']) (o := ['s', 'e', 't', 'y', 'b']) (by kernel_rfl) owner_bytes]; kernel_rfl
end Mine.Internal
end
section
open PySem PySem.Calls PySem.SeqAt
set_option maxRecDepth 100000
namespace Mine.Internal
open PySem.W PySem.Builtin

noncomputable def bSep : Array UInt8 := #[47]
noncomputable def bDot : Array UInt8 := #[46]
noncomputable def bPlaces (x : Array UInt8) : List Nat := (Bytes.occurrences x bSep 0 x.size).take (x.size + 1)
noncomputable def bSplit (x : Array UInt8) : List (Array UInt8) := if (bPlaces x).isEmpty then [x] else Bytes.between x 1 (bPlaces x)
noncomputable def bStarts (x : Array UInt8) : Bool := decide (x.toList.head? = some 47)
noncomputable def bLt (x y : Array UInt8) : Bool := Bytes.order x.toList y.toList == .lt

theorem order_swap : ∀ a b : List UInt8, (Bytes.order a b == .gt) = (Bytes.order b a == .lt)
  | [], [] => rfl
  | [], _ :: _ => rfl
  | _ :: _, [] => rfl
  | x :: a, y :: b => by
    unfold Bytes.order
    by_cases h1 : x < y
    · have h2 : ¬ y < x := fun h => UInt8.lt_asymm h1 h
      rw [if_pos h1, if_neg h2, if_pos (show y > x from h1)]; rfl
    · rw [if_neg h1]
      by_cases h2 : y < x
      · rw [if_pos (show x > y from h2), if_pos h2]; rfl
      · rw [if_neg (show ¬ x > y from h2), if_neg h2, if_neg (show ¬ y > x from h1)]; exact order_swap a b

section
variable {prog : Program} {w : World} {M : Model} {A : Around} {E : Value → Shared → Prop}

theorem mapM_bytes : ∀ (l : List (Array UInt8)) (s : Shared) (Q : List Value → Shared → Prop), (∀ b ∈ l, b.size ≤ sizeLine) → (∀ vs k, Paired kBytes.Is vs l → Q vs { s with toks := k }) → wpAny M A (l.mapM (Bytes.Kind.new .bytes)) Q E s
  | [], s, Q, _, h => by rw [List.mapM_nil]; exact wpAny_pure (h [] s.toks .nil)
  | b :: l, s, Q, hz, h => by
    rw [List.mapM_cons]
    refine wpAny_bind (m := mkBytes b) (wpAny_mkBytes (wpAny_bind ?_) (hz b List.mem_cons_self))
    refine mapM_bytes l _ _ (fun c hc => hz c (List.mem_cons_of_mem _ hc)) fun vs k hp => wpAny_pure ?_
    exact h _ k (.cons (fun _ _ => ⟨_, rfl⟩) hp)

theorem between_size (x : Array UInt8) (ps : List Nat) (n : Nat) : ∀ p ∈ Bytes.between x n ps, p.size ≤ x.size := by
  have ext : ∀ i j, (x.extract i j).size ≤ x.size := fun i j => by rw [Array.size_extract]; lia -abstractProof
  have loop : ∀ (ps : List Nat) (acc : Array (Array UInt8)) (last : Nat), (∀ p ∈ acc, p.size ≤ x.size) → ∀ p ∈ (ps.foldl (fun (q : Array (Array UInt8) × Nat) p => (q.1.push (x.extract q.2 p), p + n)) (acc, last)).1, p.size ≤ x.size := by
    intro ps
    induction ps with
    | nil => intro acc last h; exact h
    | cons c r ih =>
      intro acc last h
      exact ih _ _ fun p hp => by
        rcases Array.mem_push.mp hp with hp | rfl
        · exact h p hp
        · exact ext _ _
  intro p hp
  unfold Bytes.between at hp
  have hp' := Array.mem_def.mpr hp
  rcases Array.mem_push.mp hp' with h | rfl
  · exact loop ps #[] 0 (by simp) p h
  · exact ext _ _
theorem between_length (x : Array UInt8) (n : Nat) (ps : List Nat) : (Bytes.between x n ps).length = ps.length + 1 := by
  have loop : ∀ (ps : List Nat) (acc : Array (Array UInt8)) (last : Nat), (ps.foldl (fun (q : Array (Array UInt8) × Nat) p => (q.1.push (x.extract q.2 p), p + n)) (acc, last)).1.size = acc.size + ps.length := by
    intro ps
    induction ps with
    | nil => intro acc last; rfl
    | cons c r ih => intro acc last; rw [List.foldl_cons, ih, Array.size_push, List.length_cons]; dsimp only; lia -abstractProof
  show ((ps.foldl (fun (q : Array (Array UInt8) × Nat) p => (q.1.push (x.extract q.2 p), p + n)) (#[], 0)).1.push _).toList.length = _
  rw [Array.length_toList, Array.size_push, loop]; simp

theorem bSplit_bind (u : Tok) : Bytes.bindOptional "bytes.split" "split" ["sep", "maxsplit"] [.bytes bSep u] [] = pure [some (.bytes bSep u), none] := by kernel_rfl

theorem bytesLike_eq {id : String} {b : Array UInt8} {t : Tok} : Bytes.bytesLike id (.bytes b t) = pure b := by
  unfold Bytes.bytesLike
  rw [KBy.buffer_eq]; rfl

theorem bSplit_c {x : Array UInt8} (hx : x.size ≤ 5000) : ConB prog w A (.builtin "bytes.split") [⟨rBytes, x⟩, ⟨rBytes, bSep⟩] (rList rBytes) (bSplit x) := by
  intro X s vs hX hv E
  refine Classical.byContradiction fun zG => ?_
  obtain ⟨a, b, rfl, ⟨t, rfl⟩, ⟨u, rfl⟩⟩ := vals2 hv
  refine zG ?_
  clear zG
  refine wpAny_call_entry slot_bytes_split (typeIs_bytes s x t) entry_bytes_split ?_ (args_bytes_split _ _)
  show wpAny _ _ (Bytes.bindOptional "bytes.split" "split" ["sep", "maxsplit"] [.bytes bSep u] [] >>= fun r => _) _ _ s
  refine wpAny_bind (wpAny_of_eq (bSplit_bind u) ?_)
  show wpAny _ _ (Bytes.bytesLike "bytes.split" (.bytes bSep u) >>= fun sep => _) _ _ s
  refine wpAny_bind (wpAny_of_eq bytesLike_eq ?_)
  show wpAny _ _ (if (bPlaces x).isEmpty = true then (rule _ >>= fun _ => Bytes.Kind.same .bytes (.bytes x t) >>= fun v => newList [v] >>= fun l => ret l)
    else ((Bytes.between x 1 (bPlaces x)).mapM (Bytes.Kind.new .bytes) >>= fun vs => newList vs >>= fun l => ret l)) _ _ s
  have e1 : bSplit x = if (bPlaces x).isEmpty = true then [x] else Bytes.between x 1 (bPlaces x) := rfl
  by_cases h : (bPlaces x).isEmpty = true
  · rw [if_pos h]
    rw [if_pos h] at e1
    refine wpAny_bind (wpAny_rule (wpAny_bind (wpAny_of_eq (a := .bytes x t) rfl (wpAny_bind (wpAny_newObj_type (wpAny_pure ⟨_, rfl, ?_⟩))))))
    have := fresh_list (r := rBytes) (k := s.toks) (vs := [.bytes x t]) (xs := [x]) hX (.cons ⟨t, rfl⟩ .nil)
    show Keeps s _ ∧ (rList rBytes).rd X _ _ (bSplit x)
    rw [e1]; exact this
  · rw [if_neg h]
    rw [if_neg h] at e1
    refine wpAny_bind (mapM_bytes _ _ _ (fun b hb => ?_) fun vs k hp => ?_)
    · have := between_size x _ _ b hb; rw [sizeLine_eq]; lia -abstractProof
    · have hl := hp.length
      rw [between_length] at hl
      have hpl : (bPlaces x).length ≤ x.size + 1 := by unfold bPlaces; rw [List.length_take]; lia -abstractProof
      refine wpAny_bind (wpAny_newObj_type (wpAny_pure ⟨_, rfl, ?_⟩) (by show vs.toArray.size ≤ sizeLine; rw [List.size_toArray, sizeLine_eq]; lia -abstractProof))
      have := fresh_list (r := rBytes) (k := k) (vs := vs) (xs := Bytes.between x 1 (bPlaces x)) hX (Paired.imp hp fun _ _ q => q _ _)
      show Keeps s _ ∧ (rList rBytes).rd X _ _ (bSplit x)
      rw [e1]; exact this

theorem bStarts_c {x : Array UInt8} : ConB prog w A (.builtin "bytes.startswith") [⟨rBytes, x⟩, ⟨rBytes, bSep⟩] rBool (bStarts x) := by
  intro X s vs hX hv E
  refine Classical.byContradiction fun zG => ?_
  obtain ⟨a, b, rfl, ⟨t, rfl⟩, ⟨u, rfl⟩⟩ := vals2 hv
  refine zG ?_
  clear zG
  refine wpAny_call_entry FB.slot_bytes_startswith (typeIs_bytes s x t) FB.entry_bytes_startswith ?_ (FB.args_bytes_startswith_2 _ _)
  show wpAny _ _ (isInstance (.bytes bSep u) (.type "tuple") >>= fun r => _) _ _ s
  refine wpAny_bind (wpAny_isInstance (T := "bytes") (b := false) rfl (by rw [isSubtype_type]; kernel_rfl) ?_)
  show wpAny _ _ (Bytes.buffer? "bytes.startswith" (.bytes bSep u) >>= fun r => _) _ _ s
  refine wpAny_bind (wpAny_of_eq KBy.buffer_eq ?_)
  refine wpAny_pure ⟨_, rfl, Keeps.refl _, ?_⟩
  show Value.bool _ = Value.bool _
  congr 1
  obtain ⟨l⟩ := x
  have h0 : ¬ ((l.length : Int) < 0) := by lia -abstractProof
  cases l with
  | nil => rfl
  | cons c r =>
    have h1 : ¬ ((r.length : Int) + 1 < 0) := by lia -abstractProof
    have h2 : ¬ ((r.length : Int) + 1 < 1) := by lia -abstractProof
    simp [bStarts, bSep, h1, h2]
    by_cases hc : c = 47 <;> simp [hc]
end
end Mine.Internal
end
section
open PySem PySem.Calls PySem.SeqAt
set_option maxRecDepth 100000
namespace Mine.Internal
open PySem.W PySem.Builtin
section
variable {prog : Program} {w : World} {M : Model} {A : Around} {E : Value → Shared → Prop}

theorem takeQ_eq {id : String} {b : Array UInt8} {t : Tok} : Bytes.takeBufferQuiet? id (.bytes b t) 0 = pure (some (b, none)) := by
  have e1 : Bytes.takeBuffer? id (.bytes b t) 0 = pure (some (b, none)) := by
    unfold Bytes.takeBuffer?
    rw [show ((0 : Int) == Bytes.fullReadOnly) = false from by decide, KBy.special_eq KBy.look_buffer, KBy.own_buffer, KBy.buffer_eq]
    kernel_rfl
  unfold Bytes.takeBufferQuiet?
  rw [e1]; rfl

theorem join_letGo : ∀ (taken : List (Value × Option Value)) (keep : List Value) (s : Shared) (Q : Unit → Shared → Prop), (∀ p ∈ taken, p.2 = none) → Q () s → wpAny M A (Bytes.joinLetGo taken keep) Q E s
  | [], keep, s, Q, _, h => wpAny_pure h
  | (x, w) :: r, keep, s, Q, hn, h => by
    have e : w = none := hn (x, w) List.mem_cons_self
    subst e
    unfold Bytes.joinLetGo
    exact wpAny_bind (wpAny_letGo (join_letGo r keep s Q (fun p hp => hn p (List.mem_cons_of_mem _ hp)) h))

noncomputable def bJoin (sep : Array UInt8) (xs : List (Array UInt8)) : Array UInt8 := match xs with
  | [x] => x
  | xs => Bytes.joined sep xs

theorem joined_one (sep x : Array UInt8) : Bytes.joined sep [x] = x := by simp [Bytes.joined]

theorem joined_size (sep : Array UInt8) (xs : List (Array UInt8)) : (Bytes.joined sep xs).size ≤ (xs.map (·.size)).sum + xs.length * sep.size := by
  have loop : ∀ (l : List (Array UInt8 × Nat)) (out : Array UInt8), (l.foldl (fun out (q : Array UInt8 × Nat) => (if q.2 > 0 then out ++ sep else out) ++ q.1) out).size ≤ out.size + (l.map (·.1.size)).sum + l.length * sep.size := by
    intro l
    induction l with
    | nil => intro out; simp
    | cons q r ih =>
      intro out
      rw [List.foldl_cons]
      refine Nat.le_trans (ih _) ?_
      rw [List.map_cons, List.sum_cons, List.length_cons, Nat.succ_mul, Array.size_append]
      split
      · rw [Array.size_append]; lia -abstractProof
      · lia -abstractProof
  have := loop xs.zipIdx #[]
  have e1 : (xs.zipIdx.map (·.1.size)) = xs.map (·.size) := by
    have gen : ∀ (l : List (Array UInt8)) (k : Nat), (l.zipIdx k).map (·.1.size) = l.map (·.size) := by
      intro l
      induction l with
      | nil => intro k; rfl
      | cons c r ih => intro k; rw [List.zipIdx_cons, List.map_cons, List.map_cons, ih]
    exact gen xs 0
  rw [e1, List.length_zipIdx] at this
  rw [show (#[] : Array UInt8).size = 0 from rfl, Nat.zero_add] at this
  exact this

theorem match_other (items : Array Value) (hs : items.size ≠ 1) (P : Value → Sem PySem.Fin) (R : Array Value → Sem PySem.Fin) : Bytes.joinM.match_1 (fun _ => Sem PySem.Fin) items P R = R items := by
  unfold Bytes.joinM.match_1
  exact dif_neg hs

-- where the loop over the items stands
abbrev JoinInv (s : Shared) (n : Nat) (xs : List (Array UInt8)) (rest : List Nat) (q : Array (Array UInt8) × List (Value × Option Value)) (s' : Shared) : Prop :=
  s' = s ∧ ∃ i, i ≤ n ∧ rest = List.range' i (n - i) ∧ q.1.toList = xs.take i ∧ ∀ p ∈ q.2, p.2 = none ∧ p.1.onHeap = false
theorem match_split (items : Array Value) (P : Value → Sem PySem.Fin) (R : Array Value → Sem PySem.Fin) {A' : Around} {Q : PySem.Fin → Shared → Prop} {E : Value → Shared → Prop} {s : Shared} (h1 : ∀ u, items = #[u] → wpAny (model prog w) A' (P u) Q E s) (h2 : items.size ≠ 1 → wpAny (model prog w) A' (R items) Q E s) :
    wpAny (model prog w) A' (Bytes.joinM.match_1 (fun _ => Sem PySem.Fin) items P R) Q E s := by
  by_cases h : items.size = 1
  · obtain ⟨u, hu⟩ := Array.size_eq_one_iff.mp h
    subst hu
    exact h1 u rfl
  · rw [match_other items h]
    exact h2 h
theorem bJoin_c {sep : Array UInt8} {xs : List (Array UInt8)} (h : (xs.map (·.size)).sum + xs.length * (sep.size) ≤ 1000000) (hl : xs.length ≤ 100000) : ConB prog w A (.builtin "bytes.join") [⟨rBytes, sep⟩, ⟨rList rBytes, xs⟩] rBytes (Bytes.joined sep xs) := by
  intro X s vs hX hv E
  refine Classical.byContradiction fun zG => ?_
  obtain ⟨a, b, rfl, ⟨t, rfl⟩, hl⟩ := vals2 hv
  refine zG ?_
  clear zG
  refine Classical.byContradiction fun zG => ?_
  obtain ⟨D, us, rfl, _, ⟨o, ho, hcl, n, hd⟩, hp⟩ := hl
  refine zG ?_
  clear zG
  refine wpAny_call_entry slot_bytes_join (typeIs_bytes s sep t) entry_bytes_join ?_ (args_bytes_join _ _)
  show wpAny _ _ (Bytes.joinItems (.ref D) >>= fun r => _) _ _ s
  have hT : s.TypeIs (.ref D) "list" := ⟨o, ho, hcl⟩
  refine wpAny_bind (m := Bytes.joinItems (.ref D)) ?_
  unfold Bytes.joinItems
  refine wpAny_bind (wpAny_typeOf hT (wpAny_pure ?_))
  show wpAny _ _ (seqItems? (.ref D) >>= fun r => _) _ _ s
  refine wpAny_bind (wpAny_seqItems ho hd ?_)
  have hlen : us.length = xs.length := hp.length
  dsimp only
  rw [if_pos (show (Bytes.Kind.bytes == Bytes.Kind.bytes) = true from rfl)]
  generalize hit : us.toArray = items at hd ⊢
  revert items; refine held ?_; intro items hit hd
  have hsize : items.size = us.length := by rw [← hit]; simp
  refine match_split items _ _ (fun u hu => ?_) (fun hone => ?_)
  · have hx : ∃ x tx, u = .bytes x tx ∧ xs = [x] := by
      have hus : us = [u] := by rw [← hit] at hu; simpa using congrArg Array.toList hu
      clear hu hit hd
      subst hus
      cases hp with
      | cons hx hp' =>
        cases hp'
        obtain ⟨tx, hx⟩ := hx
        exact ⟨_, tx, hx, rfl⟩
    refine Classical.byContradiction fun zG => ?_
    obtain ⟨x, tx, e1, e2⟩ := hx
    refine zG ?_
    clear zG
    have hT : s.TypeIs u "bytes" := e1 ▸ typeIs_bytes s x tx
    show wpAny _ _ (typeOf u >>= fun r => _) _ _ s
    refine wpAny_bind (wpAny_typeOf hT ?_)
    rw [if_pos (show (Value.type "bytes" == Value.type "bytes") = true by decide)]
    refine wpAny_bind (wpAny_rule (wpAny_pure ⟨_, rfl, Keeps.refl _, tx, ?_⟩))
    rw [e1, e2, joined_one]
  · refine wpAny_bind ?_
    rw [Std.Legacy.Range.forIn_eq_forIn_range']
    refine wpAny_forIn_list _ (JoinInv s us.length xs) _ ?turn ?fin _ _ ?start
    case start =>
      refine ⟨rfl, 0, Nat.zero_le _, ?_, by simp, by simp⟩
      simp [hsize]
    case turn =>
      rintro j rest ⟨parts, taken⟩ s' hI
      have zH : s' = s ∧ j < us.length ∧ rest = List.range' (j + 1) (us.length - (j + 1)) ∧ parts.toList = xs.take j ∧ (∀ p ∈ taken, p.2 = none ∧ p.1.onHeap = false) ∧ ∃ x tx, xs[j]? = some x ∧ items.getD j Value.none = .bytes x tx := by
        refine Classical.byContradiction fun zG => ?_
        obtain ⟨e, i, hi, hr, hpt, htk⟩ := hI
        refine zG ?_
        clear zG
        have hlt : i < us.length := by
          rcases Nat.lt_or_ge i us.length with h | h
          · exact h
          · rw [show us.length - i = 0 by lia -abstractProof] at hr; simp at hr
        obtain ⟨m, hm⟩ : ∃ m, us.length - i = m + 1 := ⟨us.length - i - 1, by lia -abstractProof⟩
        rw [hm, List.range'_succ] at hr
        injection hr with hj hrest
        subst hj
        obtain ⟨v, hv'⟩ := getElem?_of_lt hlt
        refine Classical.byContradiction fun zG => ?_
        obtain ⟨x, hx, hvx⟩ := Paired.get hp hv'
        refine zG ?_
        clear zG
        obtain ⟨tx, rfl⟩ := hvx
        refine ⟨e, hlt, ?_, hpt, htk, x, tx, hx, ?_⟩
        · rw [hrest, show us.length - (j + 1) = m by lia -abstractProof]
        · rw [← hit]; simp [Array.getD, hlt]; rw [List.getElem?_eq_getElem hlt] at hv'; exact Option.some.inj hv'
      refine Classical.byContradiction fun zG => ?_
      obtain ⟨e0, hlt, hrest, hpt, htk, x, tx, hx, hget⟩ := zH
      refine zG ?_
      clear zG
      have ho' : s'.heap.get? D = some o := e0 ▸ ho
      dsimp only
      refine wpAny_bind (wpAny_seqItems ho' hd ?_)
      dsimp only
      rw [if_neg (by
        rw [Bool.not_eq_true, Bool.or_eq_false_iff]
        refine ⟨rfl, ?_⟩
        rw [List.any_eq_false]
        intro p hp'; rw [(htk p hp').2]; decide), hget]
      refine wpAny_bind (wpAny_holding (wpAny_of_eq takeQ_eq ?_))
      dsimp only
      refine wpAny_bind (wpAny_seqItems ho' hd ?_)
      dsimp only
      rw [if_neg (by simp)]
      refine wpAny_pure ⟨e0, j + 1, hlt, hrest, ?_, ?_⟩
      · have e1 : xs.take (j + 1) = xs.take j ++ [x] := by rw [List.take_add_one, hx]; rfl
        rw [e1, Array.toList_push, hpt]
      · intro p hp'
        rcases List.mem_append.mp hp' with h' | h'
        · exact htk p h'
        · rw [List.mem_singleton.mp h']; exact ⟨rfl, rfl⟩
    case fin =>
      rintro ⟨parts, taken⟩ s' hI
      have zH : s' = s ∧ parts = xs.toArray ∧ ∀ p ∈ taken, p.2 = none ∧ p.1.onHeap = false := by
        refine Classical.byContradiction fun zG => ?_
        obtain ⟨e, i, hi, hr, hpt, htk⟩ := hI
        refine zG ?_
        clear zG
        have hin : i = us.length := by
          rcases Nat.lt_or_ge i us.length with h | h
          · obtain ⟨m, hm⟩ : ∃ m, us.length - i = m + 1 := ⟨us.length - i - 1, by lia -abstractProof⟩
            rw [hm, List.range'_succ] at hr; cases hr
          · lia -abstractProof
        subst hin
        rw [List.take_of_length_le (by lia -abstractProof)] at hpt
        exact ⟨e, by rw [← hpt], htk⟩
      refine Classical.byContradiction fun zG => ?_
      obtain ⟨e0, hparts, htk⟩ := zH
      refine zG ?_
      clear zG
      dsimp only
      rw [hparts]
      refine wpAny_bind (wpAny_of_eq (a := sep) rfl ?_)
      have hsum : ∀ (l : List (Array UInt8)) (n : Nat), l.foldl (fun x1 x2 => x1 + x2.size) n = n + (l.map (·.size)).sum := by
        intro l
        induction l with
        | nil => intro n; simp
        | cons c r ih => intro n; rw [List.foldl_cons, ih, List.map_cons, List.sum_cons]; lia -abstractProof
      have hmul : sep.size * (xs.length - 1) ≤ xs.length * sep.size := by
        rw [Nat.mul_comm]; exact Nat.mul_le_mul_right _ (by lia -abstractProof)
      have hz : Bytes.tooLong (Array.foldl (fun x1 x2 => x1 + x2.size) (sep.size * (xs.toArray.size - 1)) xs.toArray) = false := by
        apply KBy.tooLong_not
        rw [List.foldl_toArray, hsum]
        have e5 : xs.toArray.size = xs.length := List.size_toArray ..
        have e6 : sep.size * (xs.toArray.size - 1) = sep.size * (xs.length - 1) := by rw [e5]
        have e3 : sep.toList.length = sep.size := Array.length_toList ..
        have e4 : sep.size * (xs.length - 1) = sep.toList.length * (xs.length - 1) := by rw [e3]
        lia -abstractProof
      rw [if_neg (by rw [hz]; decide)]
      refine wpAny_bind (m := mkBytes _) (wpAny_mkBytes ?_ ?_)
      · refine wpAny_bind (wpAny_holding (wpAny_point (wpAny_bind (join_letGo _ _ _ _ (fun p hp' => (htk p hp').1) (wpAny_pure ⟨_, rfl, e0 ▸ Keeps.tok _ _, _, rfl⟩)))))
      · rw [sizeLine_eq]; exact Nat.le_trans (joined_size sep xs) (by lia -abstractProof)
end
end Mine.Internal
end
section
open PySem PySem.Calls PySem.SeqAt
set_option maxRecDepth 100000
namespace Mine.Internal
open PySem.W PySem.Builtin
section
variable {prog : Program} {w : World} {M : Model} {A : Around} {E : Value → Shared → Prop}

theorem bIsi_c {x : Array UInt8} : ConB prog w A (.builtin "isinstance") [⟨rBytes, x⟩, ⟨rIs (.type "bytes"), ()⟩] rBool true := by
  intro X s vs hX hv E
  refine Classical.byContradiction fun zG => ?_
  obtain ⟨a, b, rfl, ⟨t, rfl⟩, hb⟩ := vals2 hv
  refine zG ?_
  clear zG
  have e : b = .type "bytes" := hb
  subst e
  exact call_isinstance (isinstance_true (Tx := "bytes") (by kernel_rfl) (by rw [isSubtype_type]; kernel_rfl)) ⟨rfl, Keeps.refl _, rfl⟩

theorem gives_bytes_lt (b c : Array UInt8) (t u : Tok) : Gives («bytes.__lt__» ⟨[.bytes b t, .bytes c u], []⟩) (.val (.bool (bLt b c))) := by
  refine .of_wp fun M A E s Q hq => ?_
  show wpAny M A (isInstance (.bytes c u) (.type "bytes") >>= fun r => _) _ E s
  refine wpAny_bind (wpAny_isInstance (typeIs_bytes s c u) F.sub_bytes_bytes ?_)
  exact wpAny_pure ⟨_, rfl, hq⟩
theorem gives_bytes_gt (b c : Array UInt8) (t u : Tok) : Gives («bytes.__gt__» ⟨[.bytes b t, .bytes c u], []⟩) (.val (.bool (bLt c b))) := by
  refine .of_wp fun M A E s Q hq => ?_
  show wpAny M A (isInstance (.bytes c u) (.type "bytes") >>= fun r => _) _ E s
  refine wpAny_bind (wpAny_isInstance (typeIs_bytes s c u) F.sub_bytes_bytes ?_)
  have e : bLt c b = (Bytes.order b.toList c.toList == .gt) := (order_swap _ _).symm
  rw [e] at hq
  exact wpAny_pure ⟨_, rfl, hq⟩

theorem eqAt_bytes {s : Shared} (a : Array UInt8) (t : Tok) (b : Array UInt8) (u : Tok) : EqAt A s (.bytes a t) (.bytes b u) (decide (a = b)) := fun prog w E Q h => by
  unfold eqBool
  refine wpAny_holding ?_
  refine wpAny_ite_split (fun hab => ?_) (fun _ => ?_)
  · have : a = b := by have := eq_of_beq hab; injection this
    rw [decide_eq_true this] at h
    exact wpAny_bind (wpAny_rule (wpAny_pure h))
  · have e : decide (a = b) = (a.toList == b.toList) := by
      rw [Bool.eq_iff_iff, decide_eq_true_eq, beq_iff_eq, Array.toList_inj]
    rw [e] at h
    exact wpAny_bind (eq_bytes (A := A) (wpAny_truthy_bool h))

noncomputable def tkBytes : TK (Array UInt8) where
  K := kBytes
  fl := flBytes
  len := Array.size
  sep := bSep
  cur := bDot
  emp := #[]
  isB := true
  split := bSplit
  starts := bStarts
  lt := bLt
  join := fun xs => Bytes.joined bSep xs
  add := fun x y => x ++ y
  pa := FB.plainAttrs_bytes
  idSplit := "bytes.split"
  slotSplit := slot_bytes_split
  tySplit := type_bytes_split
  cSplit := fun h => @bSplit_c _ _ _ _ h
  idStarts := "bytes.startswith"
  slotStarts := FB.slot_bytes_startswith
  tyStarts := FB.type_bytes_startswith
  cStarts := fun _ => bStarts_c
  idJoin := "bytes.join"
  slotJoin := slot_bytes_join
  tyJoin := type_bytes_join
  cJoin := fun {prog w A n xs} _ h => @bJoin_c _ _ _ _ _ (by have h' : (xs.map (fun x => x.size)).sum + xs.length ≤ 100000 := h; show _ + xs.length * 1 ≤ _; lia -abstractProof) (by lia -abstractProof)
  isi := bIsi_c
  tru := fun {prog w A x X s v E} hx hv => by
    obtain ⟨t, rfl⟩ := hv
    refine truthy_bytes (by lia -abstractProof) ⟨Keeps.tok _ _, ?_⟩
    rw [Bool.eq_iff_iff]
    simp only [bne_iff_ne, ne_eq, decide_eq_true_eq]
    constructor
    · rintro h rfl; exact h rfl
    · intro h e
      apply h
      have : x.size = 0 := by lia -abstractProof
      exact Array.eq_empty_of_size_eq_zero this
  ne := fun {prog w A x y X s a b} ha hb E => by
    obtain ⟨t, rfl⟩ := ha
    obtain ⟨u, rfl⟩ := hb
    refine ne_bytes ⟨Keeps.refl _, ?_⟩
    show Value.bool _ = Value.bool _
    congr 1
    rw [Bool.eq_iff_iff]
    simp only [bne_iff_ne, ne_eq, decide_eq_true_eq, Array.toList_inj]
  eqAt := fun {A x y s a b} ha hb => by
    obtain ⟨t, rfl⟩ := ha [] s.heap
    obtain ⟨u, rfl⟩ := hb [] s.heap
    exact eqAt_bytes _ _ _ _
  ltC := fun {prog w A x y s a b E Q} ha hb hq => by
    obtain ⟨t, rfl⟩ := ha [] s.heap
    obtain ⟨u, rfl⟩ := hb [] s.heap
    exact compareOp_gives (op := .Lt) (typeIs_bytes s x t) (typeIs_bytes s y u) slot_bytes_lt entry_bytes_lt (args_bytes_lt _ _) (gives_bytes_lt x y t u) (fun e => nomatch e) hq
  gtC := fun {prog w A x y s a b E Q} ha hb hq => by
    obtain ⟨t, rfl⟩ := ha [] s.heap
    obtain ⟨u, rfl⟩ := hb [] s.heap
    exact compareOp_gives (op := .Gt) (typeIs_bytes s x t) (typeIs_bytes s y u) slot_bytes_gt entry_bytes_gt (args_bytes_gt _ _) (gives_bytes_gt x y t u) (fun e => nomatch e) hq
  cut0 := fun {prog w A X s a b} ha hb E => by
    obtain ⟨t, rfl⟩ := ha
    refine Classical.byContradiction fun zG => ?_
    obtain ⟨d, vl, vu, rfl, _, hs, hl, hu⟩ := hb
    refine zG ?_
    clear zG
    have e : KBy.picked bSep none (some 0) = #[] := by decide
    refine PySem.getItem_meets (typeIs_bytes _ _ _) (by decide) FB.slot_bytes_getitem FB.entry_bytes_getitem (FB.args_bytes_getitem_2 _ _) (KBy.meets_slice bSep t d hl hu (by decide)) ⟨hs, ?_, ?_⟩
    · show (KBy.picked bSep none (some 0)).size ≤ sizeLine
      rw [e]; exact Nat.zero_le _
    · exact ⟨Keeps.tok _ _, _, congrArg (fun z => Value.bytes z s.toks) e⟩
  getSlot := ⟨_, FB.slot_bytes_getitem.lookup⟩
  addC := fun {prog w A x y X s a b} hX hz ha hb E => by
    obtain ⟨t, rfl⟩ := ha
    obtain ⟨u, rfl⟩ := hb
    exact KBy.add_bytes (by have : x.size + y.size ≤ 1000000 := hz; lia -abstractProof) (fun t' k => ⟨Keeps.tok _ _, t', rfl⟩)
end
end Mine.Internal
end
section
open PySem PySem.Calls PySem.SeqAt
open PySem.AutoSeq1 (wpAny_loadPart')
open PySem.MeetsSeq PySem.MeetsSeq2 PySem.MeetsSeq3 PySem.SeqRoads2
set_option maxRecDepth 100000
namespace Mine.Internal

noncomputable def lexLt {α : Type} [DecidableEq α] (lt : α → α → Bool) : List α → List α → Bool
  | [], [] => false
  | [], _ :: _ => true
  | _ :: _, [] => false
  | x :: xs, y :: ys => if x = y then lexLt lt xs ys else lt x y
theorem lexLt_cons {α : Type} [DecidableEq α] (lt : α → α → Bool) (x y : α) (xs ys : List α) : lexLt lt (x :: xs) (y :: ys) = if x = y then lexLt lt xs ys else lt x y := rfl

-- the choice of a loop that keeps the better
noncomputable def best {α : Type} (bt : α → α → Bool) : α → List α → α
  | x, [] => x
  | x, y :: r => best bt (if bt y x then y else x) r
theorem best_cons {α : Type} (bt : α → α → Bool) (x y : α) (r : List α) : best bt x (y :: r) = best bt (if bt y x then y else x) r := rfl

section
variable {prog : Program} {w : World} {A : Around} {α : Type} [DecidableEq α]

theorem lt_loop (T : TK α) {l b : Addr} {o o' : Obj} {us vs : List Value} {n n' : Nat} {xs ys : List α} {s : Shared} (hl : s.heap.get? l = some o) (hc : o.cls = .type "list") (hd : o.data = .seq us.toArray n)
    (hb : s.heap.get? b = some o') (hc' : o'.cls = .type "list") (hd' : o'.data = .seq vs.toArray n') (hp : Paired T.K.Is us xs) (hq : Paired T.K.Is vs ys) {R : Result → Shared → Prop} :
    ∀ (k i : Nat), us.length - i = k → i ≤ us.length → i ≤ vs.length → R (.ok (.ret (.bool (lexLt T.lt (xs.drop i) (ys.drop i))))) s →
      codeAny (model prog w) A (.builtin "list.__eq__.loop" ⟨[.ref l, .ref b, rawInt i, rawInt 0], []⟩) R s := by
  have hlu := hp.length
  have hlv := hq.length
  have size : ∀ (i : Nat), i ≤ us.length → i ≤ vs.length → (¬ i < us.length ∨ ¬ i < vs.length) → decide (us.length < vs.length) = lexLt T.lt (xs.drop i) (ys.drop i) := by
    intro i h1 h2 h3
    rcases Nat.lt_or_ge i us.length with h4 | h4
    · have h5 : ¬ i < vs.length := by lia -abstractProof
      have e1 : ys.drop i = [] := List.drop_of_length_le (by lia -abstractProof)
      obtain ⟨z, r, e2⟩ : ∃ z r, xs.drop i = z :: r := by
        cases e : xs.drop i with
        | nil => have := congrArg List.length e; simp at this; lia -abstractProof
        | cons z r => exact ⟨z, r, rfl⟩
      rw [e1, e2]
      show _ = false
      simp; lia -abstractProof
    · have e1 : xs.drop i = [] := List.drop_of_length_le (by lia -abstractProof)
      rcases Nat.lt_or_ge i vs.length with h5 | h5
      · obtain ⟨z, r, e2⟩ : ∃ z r, ys.drop i = z :: r := by
          cases e : ys.drop i with
          | nil => have := congrArg List.length e; simp at this; lia -abstractProof
          | cons z r => exact ⟨z, r, rfl⟩
        rw [e1, e2]
        show _ = true
        simp; lia -abstractProof
      · have e2 : ys.drop i = [] := List.drop_of_length_le (by lia -abstractProof)
        rw [e1, e2]
        show _ = false
        simp; lia -abstractProof
  refine Classical.byContradiction fun zG => ?_
  obtain ⟨hp0, g0, d0, tk0, os0⟩ := s
  refine zG ?_
  clear zG
  refine Classical.byContradiction fun zG => ?_
  obtain ⟨ocl, odi, oda, osl⟩ := o
  refine zG ?_
  clear zG
  refine Classical.byContradiction fun zG => ?_
  obtain ⟨ocl', odi', oda', osl'⟩ := o'
  refine zG ?_
  clear zG
  dsimp only at hc hd hc' hd' hl hb
  subst hc hd hc' hd'
  intro k
  induction k with
  | zero =>
    intro i hk hi hi' hR
    refine codeAny_builtin entry_eq_loop ?_
    rw [Around.under_plainId plain_eq_loop _]
    wp_walk using wpAny_loadPart' hl, wpAny_loadPart' hb
    have hi1 : us.toArray[((i : Nat) : Int).toNat]? = none := by simp; lia -abstractProof
    rw [hi1]
    wp_walk using wpAny_loadPart' hl, wpAny_loadPart' hb
    have e := size i hi hi' (by lia -abstractProof)
    rw [← e] at hR
    have e2 : us.toArray.size = us.length := List.size_toArray ..
    have e3 : vs.toArray.size = vs.length := List.size_toArray ..
    show R (.ok (.ret (.bool (decide (us.toArray.size < vs.toArray.size))))) _
    rw [e2, e3]; exact hR
  | succ k ih =>
    intro i hk hi hi' hR
    have hlt : i < us.length := by lia -abstractProof
    refine codeAny_builtin entry_eq_loop ?_
    rw [Around.under_plainId plain_eq_loop _]
    obtain ⟨u, hu⟩ := getElem?_of_lt hlt
    refine Classical.byContradiction fun zG => ?_
    obtain ⟨x, hx, hux⟩ := Paired.get hp hu
    refine zG ?_
    clear zG
    have hi1 : us.toArray[((i : Nat) : Int).toNat]? = some u := by simpa using hu
    rcases Nat.lt_or_ge i vs.length with hlt' | hge
    · obtain ⟨v, hv⟩ := getElem?_of_lt hlt'
      refine Classical.byContradiction fun zG => ?_
      obtain ⟨y, hy, hvy⟩ := Paired.get hq hv
      refine zG ?_
      clear zG
      have hi2 : vs.toArray[((i : Nat) : Int).toNat]? = some v := by simpa using hv
      have dx : xs.drop i = x :: xs.drop (i + 1) := by rw [List.drop_eq_getElem?_toList_append, hx]; rfl
      have dy : ys.drop i = y :: ys.drop (i + 1) := by rw [List.drop_eq_getElem?_toList_append, hy]; rfl
      have hci : ((i : Int) + 1) = ((i + 1 : Nat) : Int) := by push_cast; rfl
      rw [dx, dy] at hR
      wp_walk using wpAny_loadPart' hl, wpAny_loadPart' hb
      rw [hi1, hi2]
      refine wpAny_bind (T.eqAt hux hvy prog w _ _ ?_)
      by_cases he : x = y
      · rw [decide_eq_true he]
        wp_walk
        rw [hci]
        refine ⟨plainId_quiet plain_eq_loop _, ih (i + 1) (by lia -abstractProof) (by lia -abstractProof) (by lia -abstractProof) ?_⟩
        have : lexLt T.lt (x :: xs.drop (i + 1)) (y :: ys.drop (i + 1)) = lexLt T.lt (xs.drop (i + 1)) (ys.drop (i + 1)) := if_pos he
        rw [this] at hR; exact hR
      · rw [decide_eq_false he]
        wp_walk using wpAny_loadPart' hl, wpAny_loadPart' hb
        rw [hi1, hi2]
        have : lexLt T.lt (x :: xs.drop (i + 1)) (y :: ys.drop (i + 1)) = T.lt x y := if_neg he
        rw [this] at hR
        refine wpAny_bind (T.ltC hux hvy ?_)
        wp_walk
        exact hR
    · wp_walk using wpAny_loadPart' hl, wpAny_loadPart' hb
      have hi2 : vs.toArray[((i : Nat) : Int).toNat]? = none := by simp; lia -abstractProof
      rw [hi1, hi2]
      wp_walk using wpAny_loadPart' hl, wpAny_loadPart' hb
      have e := size i hi hi' (by lia -abstractProof)
      rw [← e] at hR
      have e2 : us.toArray.size = us.length := List.size_toArray ..
      have e3 : vs.toArray.size = vs.length := List.size_toArray ..
      show R (.ok (.ret (.bool (decide (us.toArray.size < vs.toArray.size))))) _
      rw [e2, e3]; exact hR

theorem gt_loop (T : TK α) {l b : Addr} {o o' : Obj} {us vs : List Value} {n n' : Nat} {xs ys : List α} {s : Shared} (hl : s.heap.get? l = some o) (hc : o.cls = .type "list") (hd : o.data = .seq us.toArray n)
    (hb : s.heap.get? b = some o') (hc' : o'.cls = .type "list") (hd' : o'.data = .seq vs.toArray n') (hp : Paired T.K.Is us xs) (hq : Paired T.K.Is vs ys) {R : Result → Shared → Prop} :
    ∀ (k i : Nat), us.length - i = k → i ≤ us.length → i ≤ vs.length → R (.ok (.ret (.bool (lexLt T.lt (ys.drop i) (xs.drop i))))) s →
      codeAny (model prog w) A (.builtin "list.__eq__.loop" ⟨[.ref l, .ref b, rawInt i, rawInt 4], []⟩) R s := by
  have hlu := hp.length
  have hlv := hq.length
  have size : ∀ (i : Nat), i ≤ us.length → i ≤ vs.length → (¬ i < us.length ∨ ¬ i < vs.length) → decide (vs.length < us.length) = lexLt T.lt (ys.drop i) (xs.drop i) := by
    intro i h1 h2 h3
    rcases Nat.lt_or_ge i us.length with h4 | h4
    · have h5 : ¬ i < vs.length := by lia -abstractProof
      have e1 : ys.drop i = [] := List.drop_of_length_le (by lia -abstractProof)
      obtain ⟨z, r, e2⟩ : ∃ z r, xs.drop i = z :: r := by
        cases e : xs.drop i with
        | nil => have := congrArg List.length e; simp at this; lia -abstractProof
        | cons z r => exact ⟨z, r, rfl⟩
      rw [e1, e2]
      show _ = true
      simp; lia -abstractProof
    · have e1 : xs.drop i = [] := List.drop_of_length_le (by lia -abstractProof)
      rcases Nat.lt_or_ge i vs.length with h5 | h5
      · obtain ⟨z, r, e2⟩ : ∃ z r, ys.drop i = z :: r := by
          cases e : ys.drop i with
          | nil => have := congrArg List.length e; simp at this; lia -abstractProof
          | cons z r => exact ⟨z, r, rfl⟩
        rw [e1, e2]
        show _ = false
        simp; lia -abstractProof
      · have e2 : ys.drop i = [] := List.drop_of_length_le (by lia -abstractProof)
        rw [e1, e2]
        show _ = false
        simp; lia -abstractProof
  refine Classical.byContradiction fun zG => ?_
  obtain ⟨hp0, g0, d0, tk0, os0⟩ := s
  refine zG ?_
  clear zG
  refine Classical.byContradiction fun zG => ?_
  obtain ⟨ocl, odi, oda, osl⟩ := o
  refine zG ?_
  clear zG
  refine Classical.byContradiction fun zG => ?_
  obtain ⟨ocl', odi', oda', osl'⟩ := o'
  refine zG ?_
  clear zG
  dsimp only at hc hd hc' hd' hl hb
  subst hc hd hc' hd'
  intro k
  induction k with
  | zero =>
    intro i hk hi hi' hR
    refine codeAny_builtin entry_eq_loop ?_
    rw [Around.under_plainId plain_eq_loop _]
    wp_walk using wpAny_loadPart' hl, wpAny_loadPart' hb
    have hi1 : us.toArray[((i : Nat) : Int).toNat]? = none := by simp; lia -abstractProof
    rw [hi1]
    wp_walk using wpAny_loadPart' hl, wpAny_loadPart' hb
    have e := size i hi hi' (by lia -abstractProof)
    rw [← e] at hR
    have e2 : us.toArray.size = us.length := List.size_toArray ..
    have e3 : vs.toArray.size = vs.length := List.size_toArray ..
    show R (.ok (.ret (.bool (decide (vs.toArray.size < us.toArray.size))))) _
    rw [e2, e3]; exact hR
  | succ k ih =>
    intro i hk hi hi' hR
    have hlt : i < us.length := by lia -abstractProof
    refine codeAny_builtin entry_eq_loop ?_
    rw [Around.under_plainId plain_eq_loop _]
    obtain ⟨u, hu⟩ := getElem?_of_lt hlt
    refine Classical.byContradiction fun zG => ?_
    obtain ⟨x, hx, hux⟩ := Paired.get hp hu
    refine zG ?_
    clear zG
    have hi1 : us.toArray[((i : Nat) : Int).toNat]? = some u := by simpa using hu
    rcases Nat.lt_or_ge i vs.length with hlt' | hge
    · obtain ⟨v, hv⟩ := getElem?_of_lt hlt'
      refine Classical.byContradiction fun zG => ?_
      obtain ⟨y, hy, hvy⟩ := Paired.get hq hv
      refine zG ?_
      clear zG
      have hi2 : vs.toArray[((i : Nat) : Int).toNat]? = some v := by simpa using hv
      have dx : xs.drop i = x :: xs.drop (i + 1) := by rw [List.drop_eq_getElem?_toList_append, hx]; rfl
      have dy : ys.drop i = y :: ys.drop (i + 1) := by rw [List.drop_eq_getElem?_toList_append, hy]; rfl
      have hci : ((i : Int) + 1) = ((i + 1 : Nat) : Int) := by push_cast; rfl
      rw [dx, dy] at hR
      wp_walk using wpAny_loadPart' hl, wpAny_loadPart' hb
      rw [hi1, hi2]
      refine wpAny_bind (T.eqAt hux hvy prog w _ _ ?_)
      by_cases he : x = y
      · rw [decide_eq_true he]
        wp_walk
        rw [hci]
        refine ⟨plainId_quiet plain_eq_loop _, ih (i + 1) (by lia -abstractProof) (by lia -abstractProof) (by lia -abstractProof) ?_⟩
        have : lexLt T.lt (y :: ys.drop (i + 1)) (x :: xs.drop (i + 1)) = lexLt T.lt (ys.drop (i + 1)) (xs.drop (i + 1)) := if_pos he.symm
        rw [this] at hR; exact hR
      · rw [decide_eq_false he]
        wp_walk using wpAny_loadPart' hl, wpAny_loadPart' hb
        rw [hi1, hi2]
        have : lexLt T.lt (y :: ys.drop (i + 1)) (x :: xs.drop (i + 1)) = T.lt y x := if_neg (fun q => he q.symm)
        rw [this] at hR
        refine wpAny_bind (T.gtC hux hvy ?_)
        wp_walk
        exact hR
    · wp_walk using wpAny_loadPart' hl, wpAny_loadPart' hb
      have hi2 : vs.toArray[((i : Nat) : Int).toNat]? = none := by simp; lia -abstractProof
      rw [hi1, hi2]
      wp_walk using wpAny_loadPart' hl, wpAny_loadPart' hb
      have e := size i hi hi' (by lia -abstractProof)
      rw [← e] at hR
      have e2 : us.toArray.size = us.length := List.size_toArray ..
      have e3 : vs.toArray.size = vs.length := List.size_toArray ..
      show R (.ok (.ret (.bool (decide (vs.toArray.size < us.toArray.size))))) _
      rw [e2, e3]; exact hR
end
end Mine.Internal
end
section
open PySem PySem.Calls PySem.SeqAt
open PySem.AutoSeq1 (wpAny_loadPart')
open PySem.MeetsSeq PySem.MeetsSeq2 PySem.MeetsSeq3 PySem.SeqRoads2
set_option maxRecDepth 100000
namespace Mine.Internal
section
variable {prog : Program} {w : World} {A : Around} {α : Type} [DecidableEq α]

theorem list_lt (T : TK α) {l b : Addr} {us vs : List Value} {xs ys : List α} {s : Shared} {E : Value → Shared → Prop} {Q : Value → Shared → Prop} (hl : s.heap.IsList l us.toArray) (hb : s.heap.IsList b vs.toArray)
    (hp : Paired T.K.Is us xs) (hq : Paired T.K.Is vs ys) (hu : A.units < cLine) (h : Q (.bool (lexLt T.lt xs ys)) s) : wpAny (model prog w) A (richCompare .Lt (.ref l) (.ref b)) Q E s := by
  refine Classical.byContradiction fun zG => ?_
  obtain ⟨o, ho, hc, n, hd⟩ := id hl
  refine zG ?_
  clear zG
  refine Classical.byContradiction fun zG => ?_
  obtain ⟨o', ho', hc', n', hd'⟩ := id hb
  refine zG ?_
  clear zG
  refine richCompare_meets_room (op := .Lt) (S := fun A R s' => s' = s ∧ R (.ok (.ret (.bool (lexLt T.lt xs ys)))) s) ⟨_, ho, hc⟩ ⟨_, ho', hc'⟩ F.slot_list_lt F.entry_list_lt (F.args_list_lt_2 _ _) ?_
    ⟨rfl, show Value.bool _ ≠ Value.notImplemented ∧ Q (.bool _) s from ⟨(fun x => nomatch x), h⟩⟩ hu
  intro prog w A R s' hs
  obtain ⟨rfl, hR⟩ := hs
  have f3 := AutoSeq1.sub_list_list
  have hT : s'.TypeIs (.ref b) "list" := ⟨_, ho', hc'⟩
  show wpAny _ _ (isInstance (.ref b) (.type "list") >>= fun r => _) _ _ s'
  refine wpAny_bind (wpAny_isInstance hT f3 ?_)
  exact wpAny_pure ⟨plainId_quiet plain_eq_loop _, lt_loop T ho hc hd ho' hc' hd' hp hq _ 0 rfl (Nat.zero_le _) (Nat.zero_le _) (by simpa using hR)⟩

theorem min_loop (T : TK α) {n₀ : Nat} (hR0 : Rm (n₀ + 2) A) {X : List Addr} {hb : Heap} {I : Addr} {fp wr : List Addr} {n : Nat} {P : Nat → Value → Prop} {St : Nat → Heap → Prop} (W : Walks prog w A.in1 I fp wr n P St) {xss : List (List α)} (hn : n = xss.length)
    (hP : ∀ i u, P i u → ∃ z, xss[i]? = some z ∧ (rList T.K.r).rd X hb u z) (hwr : ∀ b ∈ wr, hb.get? b = none) (S : Addr) (hSf : S ∉ fp) (hS0 : hb.get? S = none) {R : Result → Shared → Prop} :
    ∀ (k j : Nat) (s : Shared) (vb : Value) (zb : List α) (c : Nat), n - j = k → j ≤ n → St j s.heap → Keep hb s.heap → (rList T.K.r).rd X hb vb zb →
    s.heap.get? S = some { cls := .type "list", data := .seq #[vb, vb] c } →
    (∀ v h' tk, (rList T.K.r).rd X hb v (best (fun y x => lexLt T.lt y x) zb (xss.drop j)) → Keep hb h' → R (.ok (.ret v)) { s with heap := h', toks := tk }) →
    codeAny (model prog w) A (.builtin "min.loop" ⟨[.ref I, .none, .ref S], []⟩) R s := by
  have hSw : S ∉ wr := fun h => hSf (W.sub _ h)
  have hname : (toString "min" ++ toString ".loop" : String) = "min.loop" := by decide
  intro k
  induction k with
  | zero =>
    intro j s vb zb c hk hj hst hkp hvb hS hR
    have hin : j = n := by lia -abstractProof
    subst hin
    refine codeAny_builtin F.entry_min_loop ?_
    rw [Around.under_plainId F.plain_min_loop _]
    show wpAny _ A.in1 (seqItems? (.ref S) >>= _) _ _ s
    refine wpAny_bind (wpAny_seqItems hS rfl ?_)
    show wpAny _ A.in1 (tryCatch (pyNext (.ref I)) _ >>= _) _ _ s
    refine wpAny_bind (wpAny_tryCatch (W.done s _ _ hst fun h' tk hk' => ?_))
    have hS' := hk' S _ hSw hS
    show wpAny _ A.in1 (updateSeq S (fun _ => #[]) >>= _) _ _ _
    refine wpAny_bind ?_
    refine wpAny_updateSeq hS' rfl (wpAny_bind (wpAny_letGo (wpAny_pure ?_)))
    rw [List.drop_of_length_le (by lia -abstractProof)] at hR
    refine hR vb _ tk hvb fun b o e => (Heap.get?_update_other _ _ (fun q : S = b => by subst q; rw [hS0] at e; cases e)).trans (hk' b o (fun q => by rw [hwr b q] at e; cases e) (hkp b o e))
  | succ k ih =>
    intro j s vb zb c hk hj hst hkp hvb hS hR
    have hlt : j < n := by lia -abstractProof
    refine codeAny_builtin F.entry_min_loop ?_
    rw [Around.under_plainId F.plain_min_loop _]
    show wpAny _ A.in1 (seqItems? (.ref S) >>= _) _ _ s
    refine wpAny_bind (wpAny_seqItems hS rfl ?_)
    show wpAny _ A.in1 (tryCatch (pyNext (.ref I)) _ >>= _) _ _ s
    refine wpAny_bind (wpAny_tryCatch (W.item j s _ _ hlt hst fun v h' tk hPv hst' hk' => ?_))
    have hS' := hk' S _ hSw hS
    have hkp' : Keep hb h' := fun b o e => hk' b o (fun q => by rw [hwr b q] at e; cases e) (hkp b o e)
    refine Classical.byContradiction fun zG => ?_
    obtain ⟨z, hz, hvz⟩ := hP j v hPv
    refine zG ?_
    clear zG
    have dz : xss.drop j = z :: xss.drop (j + 1) := by rw [List.drop_eq_getElem?_toList_append, hz]; rfl
    show wpAny _ A.in1 (tryCatch (holding [v, v] (richCompare .Lt v vb >>= _)) _ >>= _) _ _ _
    refine Classical.byContradiction fun zG => ?_
    obtain ⟨a1, us, rfl, _, ⟨o1, ho1, hr1⟩, hp1⟩ := id hvz
    refine zG ?_
    clear zG
    refine Classical.byContradiction fun zG => ?_
    obtain ⟨a2, vs, rfl, _, ⟨o2, ho2, hr2⟩, hp2⟩ := id hvb
    refine zG ?_
    clear zG
    refine wpAny_bind (wpAny_tryCatch (wpAny_holding (wpAny_bind (list_lt T (s := { s with heap := h', toks := tk }) ⟨o1, hkp' _ _ ho1, hr1⟩ ⟨o2, hkp' _ _ ho2, hr2⟩ (Paired.imp hp1 fun _ _ q => T.fl q) (Paired.imp hp2 fun _ _ q => T.fl q) hR0.in1.units ?_))))
    refine wpAny_bind (wpAny_holding (wpAny_truthy_bool ?_))
    refine wpAny_bind (wpAny_letGo (wpAny_pure ?_))
    rw [dz] at hR
    cases hbt : lexLt T.lt z zb with
    | true =>
      simp only [if_true]
      refine wpAny_bind ?_
      refine wpAny_updateSeq hS' rfl (wpAny_bind (wpAny_letGo ?_))
      rw [hname]
      refine wpAny_pure ⟨plainId_quiet F.plain_min_loop _, ih (j + 1) _ (.ref a1) z _ (by lia -abstractProof) hlt (W.frame _ _ _ hst' fun b hbf o e => ?_) (fun b o e => ?_) hvz (Heap.get?_update_self _ hS' rfl)
        fun v' h'' tk'' hv' hk'' => ?_⟩
      · exact (Heap.get?_update_other _ _ (fun h : S = b => hSf (by rw [h]; exact hbf))).trans e
      · exact (Heap.get?_update_other _ _ (fun q : S = b => by subst q; rw [hS0] at e; cases e)).trans (hkp' b o e)
      · refine hR v' h'' tk'' ?_ hk''
        show (rList T.K.r).rd X hb v' (best _ (if lexLt T.lt z zb then z else zb) _)
        rw [if_pos hbt]; exact hv'
    | false =>
      simp only [Bool.false_eq_true, if_false]
      refine wpAny_bind (wpAny_letGo ?_)
      rw [hname]
      refine wpAny_pure ⟨plainId_quiet F.plain_min_loop _, ih (j + 1) _ (.ref a2) zb c (by lia -abstractProof) hlt hst' hkp' hvb hS' fun v' h'' tk'' hv' hk'' => ?_⟩
      refine hR v' h'' tk'' ?_ hk''
      show (rList T.K.r).rd X hb v' (best _ (if lexLt T.lt z zb then z else zb) _)
      rw [if_neg (by rw [hbt]; decide)]; exact hv'

theorem con_min (T : TK α) {n₀ : Nat} (hR0 : Rm (n₀ + 3) A) {z : List α} {zs : List (List α)} : ConB prog w A (.builtin "min") [⟨rList (rList T.K.r), z :: zs⟩] (rList T.K.r) (best (fun y x => lexLt T.lt y x) z zs) := by
  intro X s vs hX hv E
  refine Classical.byContradiction fun zG => ?_
  obtain ⟨a, rfl, hl⟩ := vals1 hv
  refine zG ?_
  clear zG
  have hname : (toString "min" ++ toString ".loop" : String) = "min.loop" := by decide
  refine call_function_tree F.kind_min F.plain_min F.entry_min (F.args_min1 _) ?_
  show wpAny _ A.in1 (Builtin.Builtins.bindParams "min" ["key", "default"] 0 ⟨[], []⟩ >>= _) _ _ s
  refine wpAny_bind (wpAny_of_eq (show Builtin.Builtins.bindParams "min" ["key", "default"] 0 ⟨[], []⟩ = pure [none, none] from rfl) ?_)
  refine wpAny_bind (wpAny_pure ?_)
  refine wpAny_bind (src_list (A := A.in1) (prog := prog) (w := w) hR0.none hl _ _ fun I fp wr n P St s₂ k₂ W hst hfp hwr hwS hn hP => ?_)
  refine Classical.byContradiction fun zG => ?_
  obtain ⟨H₂, t₂, rfl, hk₂⟩ := k₂
  refine zG ?_
  clear zG
  refine wpAny_bind (wpAny_newObj_type ?_)
  have hSf : H₂.objs.size ∉ fp := fun hm => Nat.lt_irrefl _ (hfp _ hm)
  have hSw : H₂.objs.size ∉ wr := fun h => hSf (W.sub _ h)
  have hS0 : s.heap.get? H₂.objs.size = none := by
    cases e : s.heap.get? H₂.objs.size with
    | none => rfl
    | some o => exact absurd (Heap.lt_size (hk₂ _ _ e)) (Nat.lt_irrefl _)
  rw [hname]
  refine wpAny_pure ⟨plainId_quiet F.plain_min_loop _, ?_⟩
  have hn0 : 0 < n := by rw [hn]; exact Nat.succ_pos _
  -- the first item
  refine codeAny_builtin F.entry_min_loop ?_
  rw [Around.under_plainId F.plain_min_loop _]
  have hS : (H₂.push { cls := .type "list", data := .seq ([] : List Value).toArray }).get? H₂.objs.size = some { cls := .type "list", data := .seq ([] : List Value).toArray } := Heap.get?_push_size _ rfl
  show wpAny _ A.in1 (seqItems? (.ref H₂.objs.size) >>= _) _ _ _
  refine wpAny_bind (wpAny_seqItems hS rfl ?_)
  show wpAny _ A.in1 (tryCatch (pyNext (.ref I)) _ >>= _) _ _ _
  refine wpAny_bind (wpAny_tryCatch (W.item 0 _ _ _ hn0 (W.frame _ _ _ hst fun b _ o e => keep_push _ _ _ _ e) fun v h' tk hPv hst' hk' => ?_))
  have hS' := hk' _ _ hSw hS
  refine Classical.byContradiction fun zG => ?_
  obtain ⟨z', hz', hvz⟩ := hP 0 v hPv
  refine zG ?_
  clear zG
  have ez : z' = z := by simpa using hz'.symm
  subst ez
  show wpAny _ A.in1 (updateSeq H₂.objs.size (fun _ => #[v, v]) >>= _) _ _ _
  refine wpAny_bind ?_
  refine wpAny_updateSeq hS' rfl ?_
  rw [hname]
  refine wpAny_pure ⟨plainId_quiet F.plain_min_loop _, min_loop T (n₀ := n₀) hR0.le W hn hP hwr _ hSf hS0 (n - 1) 1 _ v z' _ (by lia -abstractProof) hn0 (W.frame _ _ _ hst' fun b hbf o e => ?_) (fun b o e => ?_) hvz (Heap.get?_update_self _ hS' rfl) fun v' h'' tk'' hv' hk'' => ?_⟩
  · exact (Heap.get?_update_other _ _ (fun h : H₂.objs.size = b => hSf (by rw [h]; exact hbf))).trans e
  · exact (Heap.get?_update_other _ _ (fun q : H₂.objs.size = b => by subst q; rw [hS0] at e; cases e)).trans (hk' b o (fun q => by rw [hwr b q] at e; cases e) (keep_push _ _ _ _ (hk₂ b o e)))
  · exact ⟨Keeps.of hk'', (rList T.K.r).mono hv' (.of_keep hk'')⟩

theorem list_gt (T : TK α) {l b : Addr} {us vs : List Value} {xs ys : List α} {s : Shared} {E : Value → Shared → Prop} {Q : Value → Shared → Prop} (hl : s.heap.IsList l us.toArray) (hb : s.heap.IsList b vs.toArray)
    (hp : Paired T.K.Is us xs) (hq : Paired T.K.Is vs ys) (hu : A.units < cLine) (h : Q (.bool (lexLt T.lt ys xs)) s) : wpAny (model prog w) A (richCompare .Gt (.ref l) (.ref b)) Q E s := by
  refine Classical.byContradiction fun zG => ?_
  obtain ⟨o, ho, hc, n, hd⟩ := id hl
  refine zG ?_
  clear zG
  refine Classical.byContradiction fun zG => ?_
  obtain ⟨o', ho', hc', n', hd'⟩ := id hb
  refine zG ?_
  clear zG
  refine richCompare_meets_room (op := .Gt) (S := fun A R s' => s' = s ∧ R (.ok (.ret (.bool (lexLt T.lt ys xs)))) s) ⟨_, ho, hc⟩ ⟨_, ho', hc'⟩ F.slot_list_gt F.entry_list_gt (F.args_list_gt_2 _ _) ?_
    ⟨rfl, show Value.bool _ ≠ Value.notImplemented ∧ Q (.bool _) s from ⟨(fun x => nomatch x), h⟩⟩ hu
  intro prog w A R s' hs
  obtain ⟨rfl, hR⟩ := hs
  have f3 := AutoSeq1.sub_list_list
  have hT : s'.TypeIs (.ref b) "list" := ⟨_, ho', hc'⟩
  show wpAny _ _ (isInstance (.ref b) (.type "list") >>= fun r => _) _ _ s'
  refine wpAny_bind (wpAny_isInstance hT f3 ?_)
  exact wpAny_pure ⟨plainId_quiet plain_eq_loop _, gt_loop T ho hc hd ho' hc' hd' hp hq _ 0 rfl (Nat.zero_le _) (Nat.zero_le _) (by simpa using hR)⟩

theorem max_loop (T : TK α) {n₀ : Nat} (hR0 : Rm (n₀ + 2) A) {X : List Addr} {hb : Heap} {I : Addr} {fp wr : List Addr} {n : Nat} {P : Nat → Value → Prop} {St : Nat → Heap → Prop} (W : Walks prog w A.in1 I fp wr n P St) {xss : List (List α)} (hn : n = xss.length)
    (hP : ∀ i u, P i u → ∃ z, xss[i]? = some z ∧ (rList T.K.r).rd X hb u z) (hwr : ∀ b ∈ wr, hb.get? b = none) (S : Addr) (hSf : S ∉ fp) (hS0 : hb.get? S = none) {R : Result → Shared → Prop} :
    ∀ (k j : Nat) (s : Shared) (vb : Value) (zb : List α) (c : Nat), n - j = k → j ≤ n → St j s.heap → Keep hb s.heap → (rList T.K.r).rd X hb vb zb →
    s.heap.get? S = some { cls := .type "list", data := .seq #[vb, vb] c } →
    (∀ v h' tk, (rList T.K.r).rd X hb v (best (fun y x => lexLt T.lt x y) zb (xss.drop j)) → Keep hb h' → R (.ok (.ret v)) { s with heap := h', toks := tk }) →
    codeAny (model prog w) A (.builtin "max.loop" ⟨[.ref I, .none, .ref S], []⟩) R s := by
  have hSw : S ∉ wr := fun h => hSf (W.sub _ h)
  have hname : (toString "max" ++ toString ".loop" : String) = "max.loop" := by decide
  intro k
  induction k with
  | zero =>
    intro j s vb zb c hk hj hst hkp hvb hS hR
    have hin : j = n := by lia -abstractProof
    subst hin
    refine codeAny_builtin F.entry_max_loop ?_
    rw [Around.under_plainId F.plain_max_loop _]
    show wpAny _ A.in1 (seqItems? (.ref S) >>= _) _ _ s
    refine wpAny_bind (wpAny_seqItems hS rfl ?_)
    show wpAny _ A.in1 (tryCatch (pyNext (.ref I)) _ >>= _) _ _ s
    refine wpAny_bind (wpAny_tryCatch (W.done s _ _ hst fun h' tk hk' => ?_))
    have hS' := hk' S _ hSw hS
    show wpAny _ A.in1 (updateSeq S (fun _ => #[]) >>= _) _ _ _
    refine wpAny_bind ?_
    refine wpAny_updateSeq hS' rfl (wpAny_bind (wpAny_letGo (wpAny_pure ?_)))
    rw [List.drop_of_length_le (by lia -abstractProof)] at hR
    refine hR vb _ tk hvb fun b o e => (Heap.get?_update_other _ _ (fun q : S = b => by subst q; rw [hS0] at e; cases e)).trans (hk' b o (fun q => by rw [hwr b q] at e; cases e) (hkp b o e))
  | succ k ih =>
    intro j s vb zb c hk hj hst hkp hvb hS hR
    have hlt : j < n := by lia -abstractProof
    refine codeAny_builtin F.entry_max_loop ?_
    rw [Around.under_plainId F.plain_max_loop _]
    show wpAny _ A.in1 (seqItems? (.ref S) >>= _) _ _ s
    refine wpAny_bind (wpAny_seqItems hS rfl ?_)
    show wpAny _ A.in1 (tryCatch (pyNext (.ref I)) _ >>= _) _ _ s
    refine wpAny_bind (wpAny_tryCatch (W.item j s _ _ hlt hst fun v h' tk hPv hst' hk' => ?_))
    have hS' := hk' S _ hSw hS
    have hkp' : Keep hb h' := fun b o e => hk' b o (fun q => by rw [hwr b q] at e; cases e) (hkp b o e)
    refine Classical.byContradiction fun zG => ?_
    obtain ⟨z, hz, hvz⟩ := hP j v hPv
    refine zG ?_
    clear zG
    have dz : xss.drop j = z :: xss.drop (j + 1) := by rw [List.drop_eq_getElem?_toList_append, hz]; rfl
    show wpAny _ A.in1 (tryCatch (holding [v, v] (richCompare .Gt v vb >>= _)) _ >>= _) _ _ _
    refine Classical.byContradiction fun zG => ?_
    obtain ⟨a1, us, rfl, _, ⟨o1, ho1, hr1⟩, hp1⟩ := id hvz
    refine zG ?_
    clear zG
    refine Classical.byContradiction fun zG => ?_
    obtain ⟨a2, vs, rfl, _, ⟨o2, ho2, hr2⟩, hp2⟩ := id hvb
    refine zG ?_
    clear zG
    refine wpAny_bind (wpAny_tryCatch (wpAny_holding (wpAny_bind (list_gt T (s := { s with heap := h', toks := tk }) ⟨o1, hkp' _ _ ho1, hr1⟩ ⟨o2, hkp' _ _ ho2, hr2⟩ (Paired.imp hp1 fun _ _ q => T.fl q) (Paired.imp hp2 fun _ _ q => T.fl q) hR0.in1.units ?_))))
    refine wpAny_bind (wpAny_holding (wpAny_truthy_bool ?_))
    refine wpAny_bind (wpAny_letGo (wpAny_pure ?_))
    rw [dz] at hR
    cases hbt : lexLt T.lt zb z with
    | true =>
      simp only [if_true]
      refine wpAny_bind ?_
      refine wpAny_updateSeq hS' rfl (wpAny_bind (wpAny_letGo ?_))
      rw [hname]
      refine wpAny_pure ⟨plainId_quiet F.plain_max_loop _, ih (j + 1) _ (.ref a1) z _ (by lia -abstractProof) hlt (W.frame _ _ _ hst' fun b hbf o e => ?_) (fun b o e => ?_) hvz (Heap.get?_update_self _ hS' rfl)
        fun v' h'' tk'' hv' hk'' => ?_⟩
      · exact (Heap.get?_update_other _ _ (fun h : S = b => hSf (by rw [h]; exact hbf))).trans e
      · exact (Heap.get?_update_other _ _ (fun q : S = b => by subst q; rw [hS0] at e; cases e)).trans (hkp' b o e)
      · refine hR v' h'' tk'' ?_ hk''
        show (rList T.K.r).rd X hb v' (best _ (if lexLt T.lt zb z then z else zb) _)
        rw [if_pos hbt]; exact hv'
    | false =>
      simp only [Bool.false_eq_true, if_false]
      refine wpAny_bind (wpAny_letGo ?_)
      rw [hname]
      refine wpAny_pure ⟨plainId_quiet F.plain_max_loop _, ih (j + 1) _ (.ref a2) zb c (by lia -abstractProof) hlt hst' hkp' hvb hS' fun v' h'' tk'' hv' hk'' => ?_⟩
      refine hR v' h'' tk'' ?_ hk''
      show (rList T.K.r).rd X hb v' (best _ (if lexLt T.lt zb z then z else zb) _)
      rw [if_neg (by rw [hbt]; decide)]; exact hv'

theorem con_max (T : TK α) {n₀ : Nat} (hR0 : Rm (n₀ + 3) A) {z : List α} {zs : List (List α)} : ConB prog w A (.builtin "max") [⟨rList (rList T.K.r), z :: zs⟩] (rList T.K.r) (best (fun y x => lexLt T.lt x y) z zs) := by
  intro X s vs hX hv E
  refine Classical.byContradiction fun zG => ?_
  obtain ⟨a, rfl, hl⟩ := vals1 hv
  refine zG ?_
  clear zG
  have hname : (toString "max" ++ toString ".loop" : String) = "max.loop" := by decide
  refine call_function_tree F.kind_max F.plain_max F.entry_max (F.args_max1 _) ?_
  show wpAny _ A.in1 (Builtin.Builtins.bindParams "max" ["key", "default"] 0 ⟨[], []⟩ >>= _) _ _ s
  refine wpAny_bind (wpAny_of_eq (show Builtin.Builtins.bindParams "max" ["key", "default"] 0 ⟨[], []⟩ = pure [none, none] from rfl) ?_)
  refine wpAny_bind (wpAny_pure ?_)
  refine wpAny_bind (src_list (A := A.in1) (prog := prog) (w := w) hR0.none hl _ _ fun I fp wr n P St s₂ k₂ W hst hfp hwr hwS hn hP => ?_)
  refine Classical.byContradiction fun zG => ?_
  obtain ⟨H₂, t₂, rfl, hk₂⟩ := k₂
  refine zG ?_
  clear zG
  refine wpAny_bind (wpAny_newObj_type ?_)
  have hSf : H₂.objs.size ∉ fp := fun hm => Nat.lt_irrefl _ (hfp _ hm)
  have hSw : H₂.objs.size ∉ wr := fun h => hSf (W.sub _ h)
  have hS0 : s.heap.get? H₂.objs.size = none := by
    cases e : s.heap.get? H₂.objs.size with
    | none => rfl
    | some o => exact absurd (Heap.lt_size (hk₂ _ _ e)) (Nat.lt_irrefl _)
  rw [hname]
  refine wpAny_pure ⟨plainId_quiet F.plain_max_loop _, ?_⟩
  have hn0 : 0 < n := by rw [hn]; exact Nat.succ_pos _
  -- the first item
  refine codeAny_builtin F.entry_max_loop ?_
  rw [Around.under_plainId F.plain_max_loop _]
  have hS : (H₂.push { cls := .type "list", data := .seq ([] : List Value).toArray }).get? H₂.objs.size = some { cls := .type "list", data := .seq ([] : List Value).toArray } := Heap.get?_push_size _ rfl
  show wpAny _ A.in1 (seqItems? (.ref H₂.objs.size) >>= _) _ _ _
  refine wpAny_bind (wpAny_seqItems hS rfl ?_)
  show wpAny _ A.in1 (tryCatch (pyNext (.ref I)) _ >>= _) _ _ _
  refine wpAny_bind (wpAny_tryCatch (W.item 0 _ _ _ hn0 (W.frame _ _ _ hst fun b _ o e => keep_push _ _ _ _ e) fun v h' tk hPv hst' hk' => ?_))
  have hS' := hk' _ _ hSw hS
  refine Classical.byContradiction fun zG => ?_
  obtain ⟨z', hz', hvz⟩ := hP 0 v hPv
  refine zG ?_
  clear zG
  have ez : z' = z := by simpa using hz'.symm
  subst ez
  show wpAny _ A.in1 (updateSeq H₂.objs.size (fun _ => #[v, v]) >>= _) _ _ _
  refine wpAny_bind ?_
  refine wpAny_updateSeq hS' rfl ?_
  rw [hname]
  refine wpAny_pure ⟨plainId_quiet F.plain_max_loop _, max_loop T (n₀ := n₀) hR0.le W hn hP hwr _ hSf hS0 (n - 1) 1 _ v z' _ (by lia -abstractProof) hn0 (W.frame _ _ _ hst' fun b hbf o e => ?_) (fun b o e => ?_) hvz (Heap.get?_update_self _ hS' rfl) fun v' h'' tk'' hv' hk'' => ?_⟩
  · exact (Heap.get?_update_other _ _ (fun h : H₂.objs.size = b => hSf (by rw [h]; exact hbf))).trans e
  · exact (Heap.get?_update_other _ _ (fun q : H₂.objs.size = b => by subst q; rw [hS0] at e; cases e)).trans (hk' b o (fun q => by rw [hwr b q] at e; cases e) (keep_push _ _ _ _ (hk₂ b o e)))
  · exact ⟨Keeps.of hk'', (rList T.K.r).mono hv' (.of_keep hk'')⟩
end
end Mine.Internal
end
section
open PySem PySem.Calls
set_option maxRecDepth 100000
namespace Mine.Internal

theorem owner_setiter : Manifest.owners.lookup (String.ofList "rotareti_tes".toList.reverse) = some Manifest.sig_set_iterator := (PySem.W.Fast.tree_find PySem.W.Fast.ownersT_ok _).trans (by kernel_rfl)
theorem slot_setiter_next : Slot "set_iterator" "__next__" "set_iterator.__next__" :=
  .of (owner := "set_iterator") (n := "__next__") (by rw [typeLookup_type, builtinLookup_eq_fast]; kernel_rfl) (by decide +kernel) (by decide +kernel) (by decide +kernel)
    (by first | exact .inl (by decide +kernel) | exact .inr (by decide +kernel)) (by rw [isSubtype_type]; kernel_rfl)
theorem entry_setiter_next : entryFor table "set_iterator.__next__" = some Builtin.«set_iterator.__next__» := entryFor_of_tree (by kernel_rfl)
theorem args_setiter_next (a : Value) : argsOk "set_iterator.__next__" ⟨[a], []⟩ := by
  unfold argsOk; rw [signature?_of (id := "set_iterator.__next__") (n := ['_', '_', 't', 'x', 'e', 'n', '_', '_']) (o := "rotareti_tes".toList) (by kernel_rfl) owner_setiter]; kernel_rfl
theorem entry_set_iter : entryFor table "set.__iter__" = some Builtin.«frozenset.__iter__» :=
  entryFor_alias (id' := "frozenset.__iter__") (by rw [fastTable_eq_tree]; kernel_rfl) rfl (by rw [PySem.W.Fast.canonicalQ_eq]; kernel_rfl) (by rw [fastTable_eq_tree]; kernel_rfl)

noncomputable def bHash (b : Bool) : Int := if b then 1 else 0
noncomputable def isB (k : Bool) : Value → Bool
  | .bool b => b == k
  | _ => false
theorem isB_shape {k : Bool} {v : Value} (h : isB k v = true) : v = .bool k := by
  cases v <;> simp_all [isB]

section
variable {prog : Program} {w : World} {A : Around} {E : Value → Shared → Prop} {s : Shared}
theorem pyHash_bool {k : Bool} {Q : Int → Shared → Prop} (h : Q (bHash k) { s with toks := s.toks + 1 }) : wpAny (model prog w) A (pyHash (.bool k)) Q E s := by
  unfold pyHash
  have hv : [Value.bool k].any Value.onHeap = false := rfl
  refine wpAny_bind ?_
  rw [cRoomFor, if_neg (by rw [hv]; exact Bool.false_ne_true)]; refine wpAny_pure ?_
  refine wpAny_bind (wpAny_specialOf (T := "bool") rfl F.slot_bool_hash.lookup ?_)
  show wpAny _ _ (if (some (Value.builtin "int.__hash__") == some Value.none) = true then _ else _) Q E s
  rw [if_neg (by rw [beq_builtin_none]; exact Bool.false_ne_true)]
  refine wpAny_bind (wpAny_specialOf (T := "bool") rfl F.slot_bool_hash.lookup ?_)
  show wpAny _ _ (callSpecialIfBoundUnlessNone? (.bool k) "__hash__" _ >>= _) Q E s
  refine wpAny_bind (wpAny_callSpecialIfBoundUnlessNone?_slot (T := "bool") rfl F.slot_bool_hash
    (wpAny_call_entry (T := "bool") F.slot_bool_hash rfl F.entry_int_hash
      (show wpAny _ _ (do ret (← mkInt (rawHash (bHash k)))) _ _ s from wpAny_ret_mkInt ?_) (F.args_int_hash_1 _)))
  have hr := rawHash_range (bHash k)
  show wpAny _ _ (if (decide (-(2 : Int) ^ 63 ≤ rawHash (bHash k)) && decide (rawHash (bHash k) < 2 ^ 63)) = true then _ else _) Q E _
  rw [if_pos (by rw [decide_eq_true hr.1, decide_eq_true hr.2]; rfl)]
  have e : (if (rawHash (bHash k) == -1) = true then -2 else rawHash (bHash k)) = bHash k := by cases k <;> rfl
  refine wpAny_pure ?_
  rw [e]; exact h
end

noncomputable def boolKind (prog : Program) (w : World) : KeyKind prog w Bool where
  is := isB
  hash := bHash
  inj := fun v a b ha hb => by have := isB_shape ha; subst this; have := isB_shape hb; injection this
  byValue := fun k v h => by obtain rfl := isB_shape h; rfl
  pyHash := fun hv h => by obtain rfl := isB_shape hv; exact pyHash_bool h
  eqBool := fun {A E s a b u v Q} hu hv h => by
    obtain rfl := isB_shape hu
    obtain rfl := isB_shape hv
    have : (a == b) = decide (a = b) := by cases a <;> cases b <;> rfl
    exact SeqAt.EqAt.bool_bool a b prog w E Q (this ▸ h)
  «strs» := fun k x t v h => by simp [isB] at h

-- the four states of a set of bools: whether False is in it, whether True is
noncomputable def tab (led : Bool) : Bool → Bool → Array (Int × Value) × SetTable
  | false, false => (#[], .fresh 0 0 led)
  | false, true => (#[(1, .bool true)], { mask := 7, place := #[1], dummies := #[], finger := 0, led := led, moves := 0, plain := true })
  | true, false => (#[(0, .bool false)], { mask := 7, place := #[0], dummies := #[], finger := 0, led := led, moves := 0, plain := true })
  | true, true => (#[(0, .bool false), (1, .bool true)], { mask := 7, place := #[0, 1], dummies := #[], finger := 0, led := led, moves := 0, plain := true })
noncomputable def eps : Bool → Bool → Nat
  | false, false => 0
  | true, true => 2
  | _, _ => 1
noncomputable def BSet (led : Bool) (h : Heap) (a : Addr) (f t : Bool) : Prop :=
  ∃ o, h.get? a = some o ∧ o.ExactSet ∧ o.data = .set (tab led f t).1 (eps f t) (tab led f t).2

theorem lay_f (led f t : Bool) (h : f = false) : layNew (tab led f t).2 (tab led f t).1 0 (.bool false) = ((tab led true t).1, (tab led true t).2, false, false) := by subst h; cases led <;> cases t <;> rfl
theorem lay_t (led f t : Bool) (h : t = false) : layNew (tab led f t).2 (tab led f t).1 1 (.bool true) = ((tab led f true).1, (tab led f true).2, false, false) := by subst h; cases led <;> cases f <;> rfl
theorem lay_k (led f t k : Bool) (h : (if k then t else f) = false) : layNew (tab led f t).2 (tab led f t).1 (bHash k) (.bool k) = ((tab led (f || !k) (t || k)).1, (tab led (f || !k) (t || k)).2, false, false) := by
  cases k
  · cases h; exact (lay_f led false t rfl).trans (by cases t <;> rfl)
  · cases h; exact (lay_t led f false rfl).trans (by cases f <;> rfl)
theorem tab_fits (led f t : Bool) : (tab led f t).2.fits (tab led f t).1.size = true := by cases led <;> cases f <;> cases t <;> rfl
theorem tab_full (led f t : Bool) : (tab led f t).2.tooFull = false := by cases led <;> cases f <;> cases t <;> rfl
theorem tab_elems (prog : Program) (w : World) (led f t : Bool) : ElemsOf (boolKind prog w) (tab led f t).1.toList := by
  intro e he
  cases f <;> cases t <;> simp [tab] at he
  · subst he; exact ⟨⟨true, rfl, rfl⟩, rfl⟩
  · subst he; exact ⟨⟨false, rfl, rfl⟩, rfl⟩
  · rcases he with rfl | rfl
    · exact ⟨⟨false, rfl, rfl⟩, rfl⟩
    · exact ⟨⟨true, rfl, rfl⟩, rfl⟩
theorem tab_plain (led f t : Bool) : (tab led f t).2.plain = true := by cases f <;> cases t <;> rfl
theorem tab_size (led f t : Bool) : (tab led f t).1.size < scanBound := by cases f <;> cases t <;> (show _ < 4096; simp [tab])

theorem BSet.typeIs {led f t : Bool} {s : Shared} {a : Addr} (h : BSet led s.heap a f t) : s.TypeIs (.ref a) "set" := let ⟨o, ho, hx, _⟩ := h; ⟨o, ho, hx.1⟩
theorem BSet.at {led f t : Bool} {h h' : Heap} {a : Addr} (x : BSet led h a f t) (e : ∀ o, h.get? a = some o → h'.get? a = some o) : BSet led h' a f t := let ⟨o, ho, r⟩ := x; ⟨o, e o ho, r⟩

section
variable {prog : Program} {w : World} {A : Around} {E : Value → Shared → Prop} {s : Shared}

theorem new_set {Q : Value → Shared → Prop} (h : ∀ o : Obj, BSet (!w.params.followText "set-order") (s.heap.push o) s.heap.objs.size false false → Q (.ref s.heap.objs.size) { s with heap := s.heap.push o }) :
    wpAny (model prog w) A (newSet (.type "set")) Q E s := by
  unfold newSet setsByText
  refine wpAny_bind (wpAny_bind (wpAny_askSetting (wpAny_pure ?_)))
  dsimp only
  simp only [newObj]
  exact wpAny_bind (wpAny_alloc (wpAny_pure (h _ ⟨_, Heap.get?_push_size _ rfl, ⟨rfl, rfl, rfl⟩, rfl⟩)))

theorem find_new (led f t k : Bool) (h : (if k then t else f) = false) : List.findIdx? (fun e => (boolKind prog w).is k e.2) (tab led f t).1.toList = none := by
  cases led <;> cases f <;> cases t <;> cases k <;> first | rfl | cases h
theorem find_old (led f t k : Bool) (h : (if k then t else f) = true) : ∃ i, List.findIdx? (fun e => (boolKind prog w).is k e.2) (tab led f t).1.toList = some i := by
  cases led <;> cases f <;> cases t <;> cases k <;> first | exact ⟨_, rfl⟩ | cases h

theorem add_bool {led f t k : Bool} {a : Addr} {Q : Value → Shared → Prop} (hS : BSet led s.heap a f t)
    (h : ∀ h', Heap.SameBut a s.heap h' → BSet led h' a (f || !k) (t || k) → Q .none { s with heap := h', toks := s.toks + 1 }) :
    wpAny (model prog w) A (call (.builtin "set.add") [.ref a, .bool k]) Q E s := by
  refine Classical.byContradiction fun zG => ?_
  obtain ⟨o, ho, hex, hd⟩ := id hS
  refine zG ?_
  clear zG
  refine wpAny_call_entry F.slot_set_add hS.typeIs F.entry_set_add ?_ (F.args_set_add_2 _ _)
  unfold Builtin.«set.add» Builtin.Frozenset.oneOther
  simp only [List.isEmpty_nil, bind_assoc]
  unfold Builtin.Frozenset.addrOf setAdd
  refine wpAny_bind (wpAny_pure ?_)
  try dsimp only
  refine wpAny_bind (wpAny_pure ?_)
  try dsimp only
  refine wpAny_bind ?_
  refine wpAny_holding ?_
  refine wpAny_bind (pyHash_bool ?_)
  unfold setAddHashed setAddHashedIn
  refine wpAny_holding (wpAny_bind (wpAny_setState_of ho hd (tab_fits ..) ?_))
  dsimp only
  have hbs : byScan (.bool k) (tab led f t).1 = true := byScan_of (knd := boolKind prog w) (x := .bool k) rfl (tab_size led f t) (tab_elems prog w led f t)
  rw [hbs]
  simp only [↓reduceIte]
  unfold setAddByScan
  refine wpAny_bind ?_
  refine wpAny_bind (wpAny_rule ?_)
  refine wpAny_bind (wpAny_setScan_of (knd := boolKind prog w) (k := k) (by cases k <;> rfl) ho hd (tab_fits ..) (tab_elems prog w led f t) ?_)
  cases hk : (if k then t else f) with
  | true =>
    obtain ⟨i, hi⟩ := find_old (prog := prog) (w := w) led f t k hk
    rw [hi]
    have e1 : (f || !k) = f := by cases k <;> cases f <;> first | rfl | cases hk
    have e2 : (t || k) = t := by cases k <;> cases t <;> first | rfl | cases hk
    rw [e1, e2] at h
    exact wpAny_pure (wpAny_pure (wpAny_pure ⟨_, rfl, h s.heap (Heap.SameBut.refl a s.heap) hS⟩))
  | false =>
    rw [find_new led f t k hk]
    dsimp only
    rw [lay_k led f t k hk]
    dsimp only
    refine wpAny_bind (wpAny_pure ?_)
    rw [tab_plain]
    try simp only [if_true]
    refine wpAny_bind ?_
    rw [hashByValue_scannable 8 (by rfl)]
    refine wpAny_pure ?_
    simp only [show plainKind (.bool k) = true from rfl, tab_full, Bool.and_false, Bool.false_eq_true, if_false, if_true]
    refine wpAny_bind (wpAny_storeSet_of (s := { s with toks := s.toks + 1 }) ho hd ?_ (fits_of_scanBound (tab_size ..)))
    have e3 : eps (f || !k) (t || k) = eps f t + 1 := by cases k <;> cases f <;> cases t <;> first | rfl | cases hk
    have hg : (s.heap.update a (Obj.putSet (tab led (f || !k) (t || k)).1 (tab led (f || !k) (t || k)).2)).get? a = some { o with data := .set (tab led (f || !k) (t || k)).1 (eps f t + 1) (tab led (f || !k) (t || k)).2 } := by
      have := Heap.get?_update_self (Obj.putSet (tab led (f || !k) (t || k)).1 (tab led (f || !k) (t || k)).2) ho (by rw [putSet_of _ _ hd]; rfl)
      rw [putSet_of _ _ hd] at this; exact this
    exact wpAny_pure (wpAny_pure (wpAny_pure ⟨_, rfl, h _ (Heap.SameBut.update ..) ⟨_, hg, hex, by rw [e3]⟩⟩))
end
end Mine.Internal
end
section
open PySem PySem.Calls
set_option maxRecDepth 100000
namespace Mine.Internal

noncomputable def SIt (h : Heap) (it a : Addr) (slot i n ep : Nat) : Prop :=
  ∃ o, h.get? it = some o ∧ o.cls = .type "set_iterator" ∧ o.data = .fields #[.int slot 0, .int i 0, .ref a, .int n 0, .int ep 0]
theorem SIt.typeIs {s : Shared} {it a : Addr} {x y n e : Nat} (h : SIt s.heap it a x y n e) : s.TypeIs (.ref it) "set_iterator" := let ⟨o, ho, hc, _⟩ := h; ⟨o, ho, hc⟩

section
variable {prog : Program} {w : World} {A : Around} {E : Value → Shared → Prop} {s : Shared}

theorem iter_set {led f t : Bool} {a : Addr} {Q : Value → Shared → Prop} (hS : BSet led s.heap a f t)
    (h : ∀ o : Obj, SIt (s.heap.push o) s.heap.objs.size a 0 0 (tab led f t).1.size (eps f t) → Q (.ref s.heap.objs.size) { s with heap := s.heap.push o }) :
    wpAny (model prog w) A (pyIter (.ref a)) Q E s := by
  refine Classical.byContradiction fun zG => ?_
  obtain ⟨o, ho, hex, hd⟩ := id hS
  refine zG ?_
  clear zG
  refine wpAny_pyIter_slot hS.typeIs F.slot_set_iter (wpAny_call_entry F.slot_set_iter hS.typeIs entry_set_iter ?_ (F.args_set_iter_1 _))
  unfold Builtin.«frozenset.__iter__» Builtin.Frozenset.slot0 slotArgs
  simp only [List.isEmpty_nil, Bool.not_true, Bool.false_eq_true, ↓reduceIte, bind_assoc, List.length_nil, bne_self_eq_false]
  unfold Builtin.Frozenset.addrOf Builtin.Frozenset.sizeOf
  refine wpAny_bind (wpAny_pure ?_)
  try dsimp only
  refine wpAny_bind (wpAny_pure ?_)
  refine wpAny_bind (wpAny_bind (wpAny_setEntries_of ho hd (tab_fits ..) (wpAny_pure ?_)))
  unfold setDrawn setsByText
  simp only [bind_assoc]
  refine wpAny_bind (wpAny_setState_of ho hd (tab_fits ..) ?_)
  refine wpAny_bind (wpAny_askSetting ?_)
  refine wpAny_bind (wpAny_pure ?_)
  refine wpAny_bind (wpAny_pure ?_)
  have e : (!(model prog w).w.params.followText "set-order" && (!(tab led f t).2.plain && decide ((tab led f t).1.size > 1))) = false := by rw [tab_plain]; simp
  rw [if_neg (fun hc => by have := e.symm.trans hc; cases this)]
  refine wpAny_bind (wpAny_pure ?_)
  refine wpAny_bind (wpAny_setEpoch_of ho hd (tab_fits ..) ?_)
  exact wpAny_bind (wpAny_newObj_type (wpAny_pure ⟨_, rfl, "set_iterator", _, ⟨_, Heap.get?_push_size _ rfl, rfl⟩, slot_setiter_next.lookup, h _ ⟨_, Heap.get?_push_size _ rfl, rfl, rfl⟩⟩))

-- what a draw from the set gives
noncomputable def Draws (w : World) (a : Addr) (led f t : Bool) (slot i : Nat) (r : Option (Value × Nat)) : Prop :=
  ∀ (prog : Program) (A : Around) (E : Value → Shared → Prop) (s : Shared) (Q : Option (Value × Nat) → Shared → Prop), BSet led s.heap a f t → Q r s → wpAny (model prog w) A (setNext a slot i (eps f t)) Q E s

theorem draw_text {a : Addr} {led f t : Bool} {slot i : Nat} (hw : w.params.followText "set-order" = true) :
    Draws w a led f t slot i ((pickOrder (w.params.setOrder a (eps f t)) (tab led f t).1)[i]?.map fun e => (e.2, slot)) := by
  intro prog A E s Q hS h
  refine Classical.byContradiction fun zG => ?_
  obtain ⟨o, ho, hex, hd⟩ := id hS
  refine zG ?_
  clear zG
  unfold setNext setWalk setsByText
  refine wpAny_bind (wpAny_setState_of ho hd (tab_fits ..) ?_)
  refine wpAny_bind (wpAny_bind (wpAny_askSetting (wpAny_pure ?_)))
  rw [if_pos (show (model prog w).w.params.followText "set-order" = true from hw)]
  dsimp only
  rw [if_neg (by simp)]
  refine wpAny_bind ?_
  refine wpAny_bind (wpAny_setState_of ho hd (tab_fits ..) ?_)
  refine wpAny_bind (wpAny_bind (wpAny_askSetting (wpAny_pure ?_)))
  rw [if_pos (show (model prog w).w.params.followText "set-order" = true from hw)]
  refine wpAny_bind (wpAny_askSetting ?_)
  exact wpAny_pure (wpAny_pure h)

theorem draw_led {a : Addr} {f t : Bool} {slot i : Nat} (hw : w.params.followText "set-order" = false) :
    Draws w a true f t slot i (match (tab true f t).1[SetTable.below (tab true f t).2.place slot]?, (tab true f t).2.place[SetTable.below (tab true f t).2.place slot]? with | some (_, x), some j => some (x, j + 1) | _, _ => none) := by
  intro prog A E s Q hS h
  refine Classical.byContradiction fun zG => ?_
  obtain ⟨o, ho, hex, hd⟩ := id hS
  refine zG ?_
  clear zG
  unfold setNext setsByText
  refine wpAny_bind (wpAny_setState_of ho hd (tab_fits ..) ?_)
  refine wpAny_bind (wpAny_bind (wpAny_askSetting (wpAny_pure ?_)))
  rw [if_neg (fun hc => by have := hw.symm.trans hc; cases this)]
  dsimp only
  have e : (!(tab true f t).2.plain && decide ((tab true f t).1.size > 1)) = false := by rw [tab_plain]; simp
  rw [if_neg (fun hc => by have := e.symm.trans hc; cases this)]
  have e2 : (!(tab true f t).2.led && !(tab true f t).1.isEmpty) = false := by cases f <;> cases t <;> rfl
  refine wpAny_bind ?_
  show wpAny _ _ (if (!(tab true f t).2.led && !(tab true f t).1.isEmpty) = true then _ else _) _ _ _
  rw [if_neg (by rw [e2]; exact Bool.false_ne_true)]
  refine wpAny_pure (wpAny_pure h)

theorem draws1 (led f t : Bool) (a : Addr) (hled : led = !w.params.followText "set-order") (hft : f = !t) : ∃ n, Draws w a led f t 0 0 (some (.bool t, n)) ∧ Draws w a led f t n 1 none := by
  subst hled hft
  cases hw : w.params.followText "set-order" with
  | true =>
    have h0 := draw_text (w := w) (a := a) (led := !true) (f := !t) (t := t) (slot := 0) (i := 0) hw
    have h1 := draw_text (w := w) (a := a) (led := !true) (f := !t) (t := t) (slot := 0) (i := 1) hw
    refine ⟨0, ?_, ?_⟩
    · cases t <;> simpa [tab, pickOrder, pickOrder.go, Nat.mod_one] using h0
    · cases t <;> simpa [tab, pickOrder, pickOrder.go, Nat.mod_one] using h1
  | false =>
    refine ⟨if t then 2 else 1, ?_, ?_⟩
    · cases t
      · exact draw_led (w := w) (a := a) (f := true) (t := false) (slot := 0) (i := 0) hw
      · exact draw_led (w := w) (a := a) (f := false) (t := true) (slot := 0) (i := 0) hw
    · cases t
      · exact draw_led (w := w) (a := a) (f := true) (t := false) (slot := 1) (i := 1) hw
      · exact draw_led (w := w) (a := a) (f := false) (t := true) (slot := 2) (i := 1) hw

theorem draws2 (led : Bool) (a : Addr) (hled : led = !w.params.followText "set-order") : ∃ n b v, Draws w a led true true 0 0 (some (.bool b, n)) ∧ Draws w a led true true n 1 (some v) := by
  subst hled
  cases hw : w.params.followText "set-order" with
  | true =>
    have h0 := draw_text (w := w) (a := a) (led := !true) (f := true) (t := true) (slot := 0) (i := 0) hw
    have h1 := draw_text (w := w) (a := a) (led := !true) (f := true) (t := true) (slot := 0) (i := 1) hw
    rcases Nat.mod_two_eq_zero_or_one (w.params.setOrder a (eps true true) 0) with e | e
    · exact ⟨0, false, (.bool true, 0), by simpa [tab, pickOrder, pickOrder.go, Nat.mod_one, e] using h0, by simpa [tab, pickOrder, pickOrder.go, Nat.mod_one, e] using h1⟩
    · exact ⟨0, true, (.bool false, 0), by simpa [tab, pickOrder, pickOrder.go, Nat.mod_one, e] using h0, by simpa [tab, pickOrder, pickOrder.go, Nat.mod_one, e] using h1⟩
  | false =>
    exact ⟨1, false, (.bool true, 2), draw_led (w := w) (a := a) (f := true) (t := true) (slot := 0) (i := 0) hw, draw_led (w := w) (a := a) (f := true) (t := true) (slot := 1) (i := 1) hw⟩
end
end Mine.Internal
end
section
open PySem PySem.Calls
set_option maxRecDepth 100000
namespace Mine.Internal
theorem newExc_under {h₀ h h' : Heap} {e : Addr} {c : String} (x : Heap.NewExc h h' e c) (k : Keep h₀ h) : Heap.NewExc h₀ h' e c :=
  ⟨fun b o q => x.keeps b o (k b o q), by
    cases q : h₀.get? e with
    | none => rfl
    | some o => exact absurd x.new (by rw [k _ _ q]; exact fun z => nomatch z), x.there⟩
section
variable {prog : Program} {w : World} {A : Around} {E : Value → Shared → Prop} {s : Shared}

theorem next_set_item {led f t : Bool} {it a : Addr} {slot i m : Nat} {v : Value} {Q : Option Value → Shared → Prop} (hS : BSet led s.heap a f t) (hI : SIt s.heap it a slot i (tab led f t).1.size (eps f t))
    (hD : Draws w a led f t slot i (some (v, m)))
    (h : ∀ h', SIt h' it a m (i + 1) (tab led f t).1.size (eps f t) → Heap.SameBut it s.heap h' → Q (some v) { s with heap := h' }) : wpAny (model prog w) A (pyNext (.ref it)) Q E s := by
  refine Classical.byContradiction fun zG => ?_
  obtain ⟨o, ho, hc, hd⟩ := id hI
  refine zG ?_
  clear zG
  refine Classical.byContradiction fun zG => ?_
  obtain ⟨oS, hoS, hexS, hdS⟩ := id hS
  refine zG ?_
  clear zG
  unfold pyNext
  refine wpAny_bind (wpAny_attempt (wpAny_callSpecial?_slot (name := Str.ofString "__next__") hI.typeIs slot_setiter_next
    (wpAny_call_entry slot_setiter_next hI.typeIs entry_setiter_next ?_ (args_setiter_next _))))
  show wpAny _ _ (fieldsOf (.ref it) >>= _) _ _ s
  refine wpAny_bind (wpAny_fieldsOf ho hd ?_)
  show wpAny _ _ (setEntries a >>= _) _ _ s
  refine wpAny_bind (wpAny_setEntries_of hoS hdS (tab_fits ..) ?_)
  rw [if_neg (by simp)]
  show wpAny _ _ (setNext a slot i (eps f t) >>= _) _ _ s
  refine wpAny_bind (hD _ _ _ _ _ hS ?_)
  show wpAny _ _ (setField (.ref it) 0 (rawInt m) >>= _) _ _ s
  refine wpAny_bind (wpAny_setField ho hd (by simp) ?_)
  have hd1 := Obj.data_mapFields hd (fun vs => vs.setIfInBounds 0 (rawInt m))
  have ho1 : (s.heap.update it (Obj.mapFields (·.setIfInBounds 0 (rawInt m)))).get? it = some (Obj.mapFields (·.setIfInBounds 0 (rawInt m)) o) := Heap.get?_update_self _ ho (Obj.isFreed_of_fields hd1)
  refine wpAny_bind (wpAny_setField ho1 hd1 (by simp) (wpAny_pure ⟨v, rfl, wpAny_pure (h _ ?_ ((Heap.SameBut.update ..).trans (Heap.SameBut.update ..)))⟩))
  have hd2 := Obj.data_mapFields hd1 (fun vs => vs.setIfInBounds 1 (rawInt ((i : Int) + 1)))
  refine ⟨_, Heap.get?_update_self _ ho1 (Obj.isFreed_of_fields hd2), ?_, ?_⟩
  · rw [Obj.cls_mapFields, Obj.cls_mapFields]; exact hc
  · rw [hd2]; simp [rawInt]

theorem next_set_end {led f t : Bool} {it a : Addr} {slot i : Nat} {Q : Option Value → Shared → Prop} (hh : A.handled = none) (hS : BSet led s.heap a f t) (hI : SIt s.heap it a slot i (tab led f t).1.size (eps f t))
    (hD : Draws w a led f t slot i none)
    (h : ∀ h', Heap.ExtBut it s.heap h' → Q none { s with heap := h' }) : wpAny (model prog w) A (pyNext (.ref it)) Q E s := by
  refine Classical.byContradiction fun zG => ?_
  obtain ⟨o, ho, hc, hd⟩ := id hI
  refine zG ?_
  clear zG
  refine Classical.byContradiction fun zG => ?_
  obtain ⟨oS, hoS, hexS, hdS⟩ := id hS
  refine zG ?_
  clear zG
  unfold pyNext
  refine wpAny_bind (wpAny_attempt (wpAny_callSpecial?_slot (name := Str.ofString "__next__") hI.typeIs slot_setiter_next
    (wpAny_call_entry slot_setiter_next hI.typeIs entry_setiter_next ?_ (args_setiter_next _))))
  show wpAny _ _ (fieldsOf (.ref it) >>= _) _ _ s
  refine wpAny_bind (wpAny_fieldsOf ho hd ?_)
  show wpAny _ _ (setEntries a >>= _) _ _ s
  refine wpAny_bind (wpAny_setEntries_of hoS hdS (tab_fits ..) ?_)
  rw [if_neg (by simp)]
  show wpAny _ _ (setNext a slot i (eps f t) >>= _) _ _ s
  refine wpAny_bind (hD _ _ _ _ _ hS ?_)
  show wpAny _ _ (setField (.ref it) 2 .none >>= _) _ _ s
  refine wpAny_bind (wpAny_setField ho hd (by simp) ?_)
  show wpAny _ _ (newExc (.type "StopIteration") [] >>= _) _ _ _
  refine wpAny_bind ?_
  simp only [newExc, newTuple]
  refine wpAny_bind (wpAny_newObj_type ?_ (by size_fits))
  refine wpAny_bind (m := firstArgMember _ _) (wpAny_of_eq (a := Value.none) (by first | rfl | (simp only [firstArgMember]; rfl)) ?_)
  refine wpAny_newObj_type ?_ (by size_fits)
  simp only [raiseNew]
  refine wpAny_bind (wpAny_handled ?_)
  first | rw [show A.in1.handled = none from hh] | rw [hh]
  refine wpAny_bind (wpAny_pure (wpAny_throw ?_))
  refine wpAny_bind (wpAny_isInstance (T := "StopIteration") (b := true) ⟨_, Heap.get?_push_size _ rfl, rfl⟩ isSubtype_stop ?_)
  exact wpAny_pure (h _ (((Heap.SameBut.update ..).extBut.push _).push _))

theorem unpack_one {f t : Bool} {a : Addr} {Q : List Value → Shared → Prop} (hh : A.handled = none) (hS : BSet (!w.params.followText "set-order") s.heap a f t) (hft : f = !t)
    (hQ : ∀ h', Keep s.heap h' → Q [.bool t] { s with heap := h' }) : wpAny (model prog w) A (unpackItems (.ref a) 1 none) Q E s := by
  have hlt : a ≠ s.heap.objs.size := by obtain ⟨o, ho, _⟩ := hS; exact Nat.ne_of_lt (Heap.lt_size ho)
  obtain ⟨n, d1, d2⟩ := draws1 _ f t a rfl hft
  unfold unpackItems
  refine wpAny_bind ?_
  unfold notIterableAtAll
  refine wpAny_bind (wpAny_specialOf hS.typeIs F.slot_set_iter.lookup ?_)
  refine wpAny_pure ?_
  simp only [Bool.false_eq_true, if_false]
  refine wpAny_bind (wpAny_holding (iter_set hS fun o hI => ?_))
  have hS1 : BSet (!w.params.followText "set-order") (s.heap.push o) a f t := hS.at fun o' e => Heap.get?_push_of_some _ e
  refine wpAny_bind (wpAny_holding ?_)
  show wpAny _ _ (pyNext _ >>= _) _ _ _
  refine wpAny_bind (next_set_item (s := { s with heap := s.heap.push o }) hS1 hI d1 fun h₁ hI1 hs1 => ?_)
  show wpAny _ _ (holding _ (pure []) >>= _) _ _ _
  refine wpAny_bind (wpAny_holding (wpAny_pure (wpAny_pure ?_)))
  rw [if_neg (by simp)]
  have hS2 : BSet (!w.params.followText "set-order") h₁ a f t := hS1.at fun o' e => hs1.extBut _ _ hlt e
  refine wpAny_bind (wpAny_holding (next_set_end (s := { s with heap := h₁ }) hh hS2 hI1 d2 fun h₂ he => ?_))
  simp only [Option.isSome_none, Bool.false_eq_true, if_false]
  refine wpAny_pure (hQ h₂ fun b o' e => ?_)
  have hb : b ≠ s.heap.objs.size := Nat.ne_of_lt (Heap.lt_size e)
  exact he b o' hb (hs1.extBut b o' hb (Heap.get?_push_of_some _ e))

theorem unpack_two {a : Addr} {Q : List Value → Shared → Prop} (hS : BSet (!w.params.followText "set-order") s.heap a true true)
    (hh : A.handled = none) (hQ : ∀ h' tk e, Heap.NewExc s.heap h' e "ValueError" → E (.ref e) { s with heap := h', toks := tk }) : wpAny (model prog w) A (unpackItems (.ref a) 1 none) Q E s := by
  have hlt : a ≠ s.heap.objs.size := by obtain ⟨o, ho, _⟩ := hS; exact Nat.ne_of_lt (Heap.lt_size ho)
  refine Classical.byContradiction fun zG => ?_
  obtain ⟨n, b, ⟨v, m⟩, d1, d2⟩ := draws2 (w := w) _ a rfl
  refine zG ?_
  clear zG
  unfold unpackItems
  refine wpAny_bind ?_
  unfold notIterableAtAll
  refine wpAny_bind (wpAny_specialOf hS.typeIs F.slot_set_iter.lookup ?_)
  refine wpAny_pure ?_
  simp only [Bool.false_eq_true, if_false]
  refine wpAny_bind (wpAny_holding (iter_set hS fun o hI => ?_))
  have hS1 : BSet (!w.params.followText "set-order") (s.heap.push o) a true true := hS.at fun o' e => Heap.get?_push_of_some _ e
  refine wpAny_bind (wpAny_holding ?_)
  show wpAny _ _ (pyNext _ >>= _) _ _ _
  refine wpAny_bind (next_set_item (s := { s with heap := s.heap.push o }) hS1 hI d1 fun h₁ hI1 hs1 => ?_)
  show wpAny _ _ (holding _ (pure []) >>= _) _ _ _
  refine wpAny_bind (wpAny_holding (wpAny_pure (wpAny_pure ?_)))
  rw [if_neg (by simp)]
  have hS2 : BSet (!w.params.followText "set-order") h₁ a true true := hS1.at fun o' e => hs1.extBut _ _ hlt e
  refine wpAny_bind (wpAny_holding (next_set_item (s := { s with heap := h₁ }) hS2 hI1 d2 fun h₂ _ hs2 => ?_))
  simp only [Option.isSome_some, if_true]
  refine wpAny_bind (wpAny_rule ?_)
  have hkp : Keep s.heap h₂ := fun b o' e => by
    have hb : b ≠ s.heap.objs.size := Nat.ne_of_lt (Heap.lt_size e)
    exact hs2.extBut b o' hb (hs1.extBut b o' hb (Heap.get?_push_of_some _ e))
  refine wpAny_bind (wpAny_raiseErrorMade (s := { s with heap := h₂ }) plainExc_ValueError hh (fun h' tk e hN => hQ h' tk e (newExc_under hN hkp)) ?_)
  decide +kernel
end
end Mine.Internal
end
section
open PySem PySem.Calls
namespace Mine.Internal

section
variable {prog : Program} {w : World} {mg mb : Str → Option Value} {A : Around} {env : Env} {R : Result → Shared → Prop} {s : Shared}

theorem codeAny_compStart_set {elt target iter : Expr} {scope : Scope} {pos : Pos} {it acc : Value} {env : Env}
    (h0 : codeAny (model prog w) A (.compLoop (.SetComp elt [⟨target, iter, [], 0⟩] scope pos) 0 it acc env) R s)
    (h : wpAny (model prog w) A (pyIter it) (fun it' s' => codeAny (model prog w) A (.compLoop (.SetComp elt [⟨target, iter, [], 0⟩] scope pos) 0 it' acc env) R s')
      (notedBy (model prog w) A env fun x s' => R (.error x) s') s) :
    codeAny (model prog w) A (.compStart (.SetComp elt [⟨target, iter, [], 0⟩] scope pos) 0 it acc env) R s := by
  refine codeAny_of_tree ?_
  show wpAny _ _ ((compStart (.SetComp elt [⟨target, iter, [], 0⟩] scope pos) 0 it acc env).onRaise (fun x => do noteFrame x env; standAt theWindowsPlace)) _ _ s
  refine wpAny_notedAt ?_
  unfold compStart
  show wpAny _ _ (ask >>= _) _ _ s
  refine wpAny_bind (wpAny_askSetting (wpAny_ite ?_))
  split
  · exact wpAny_pure (And.intro rfl h0)
  · refine wpAny_bind (wpAny_rule ?_)
    show wpAny _ _ (standAt iter.pos >>= _) _ _ s
    exact wpAny_bind (wpAny_standAt (wpAny_bind (wpAny_mono h (fun it' s' h' => wpAny_pure (And.intro rfl h')) fun _ _ x => x)))

theorem compTurn_set1 (elt target iter : Expr) (scope : Scope) (pos : Pos) (it acc : Value) (env : Env) :
    compTurn (.SetComp elt [⟨target, iter, [], 0⟩] scope pos) 0 it acc env = (standAt iter.pos >>= fun _ => pyNext it >>= fun r => match r with
      | none => pure (.done .next)
      | some v => letOwnedTupleGo target it v >>= fun _ => assign target env v >>= fun _ =>
        (eval elt env >>= fun x => standAt elt.pos >>= fun _ => call (.builtin "set.add") [acc, x] >>= fun _ => pure ()) >>= fun _ =>
          again (.compLoop (.SetComp elt [⟨target, iter, [], 0⟩] scope pos) 0 it acc env)) := by rfl

theorem codeAny_setLoop {elt target iter : Expr} {scope : Scope} {pos : Pos} {it acc : Value} {env : Env} (I : Nat → Shared → Prop)
    (turn : ∀ n s, I n s → wpAny (model prog w) A (pyNext it) (fun r s₁ => match r with
      | none => R (.ok .next) s₁
      | some v => wpAny (model prog w) A (assign target env v) (fun _ s₂ => wpAny (model prog w) A (eval elt env) (fun x s₃ =>
          wpAny (model prog w) A (call (.builtin "set.add") [acc, x]) (fun _ s₄ => ∃ m, m < n ∧ I m s₄) (notedBy (model prog w) A env fun e s' => R (.error e) s') s₃)
          (notedBy (model prog w) A env fun e s' => R (.error e) s') s₂) (notedBy (model prog w) A env fun e s' => R (.error e) s') s₁) (notedBy (model prog w) A env fun e s' => R (.error e) s') s)
    (n : Nat) (h : I n s) (ht : ∀ v, letOwnedTupleGo target it v = pure () := by intro _; rfl) :
    codeAny (model prog w) A (.compLoop (.SetComp elt [⟨target, iter, [], 0⟩] scope pos) 0 it acc env) R s := by
  refine codeAny_loop rfl I (fun n s hI => ?_) n h
  show wpAny _ _ ((compTurn (.SetComp elt [⟨target, iter, [], 0⟩] scope pos) 0 it acc env).onRaise (fun x => do noteFrame x env; theTreesLotGoes x)) _ _ s
  refine wpAny_noted ?_
  rw [compTurn_set1]
  refine wpAny_bind (wpAny_standAt (wpAny_bind (wpAny_mono (turn n s hI) (fun r s₁ h₁ => ?_) fun _ _ h' => h')))
  cases r with
  | none => exact wpAny_pure h₁
  | some v =>
    refine wpAny_bind (wpAny_of_eq (ht v) ?_)
    exact wpAny_bind (wpAny_mono h₁ (fun _ s₂ h₂ => wpAny_bind (wpAny_bind (wpAny_mono h₂ (fun x s₃ h₃ => wpAny_bind (wpAny_standAt (wpAny_bind (wpAny_mono h₃
      (fun _ s₄ h₄ => wpAny_pure (wpAny_pure ⟨rfl, h₄⟩)) fun _ _ h' => h')))) fun _ _ h' => h'))) fun _ _ h' => h')

theorem setcomp_core {α : Type} {elt iter : Expr} {x : Str} {px : Pos} {scope : Scope} {pos : Pos} {r : Rep α} {xs : List α} {f : α → Bool} {ρ ρ' : Vs} {X : List Addr} {s₁ : Shared} {v : Value}
    {cl : List (Str × Addr)} {g : Str → Addr} {RR : Value → Addr → Result → Shared → Prop} {E : Value → Shared → Prop}
    (hsrc : Src prog w A X s₁ v r xs) (hI : In mg mb X env ρ s₁) (hclg : ∀ n c, (n, c) ∈ cl → c = g n) (hclf : ∀ y ∈ scope.names, y.2 = .free → ∃ c, (y.1, c) ∈ cl)
    (hk : scope.kind = .function) (hx : scope.names.lookup x = some .local ∨ scope.names.lookup x = some .cell)
    (hρ : ∀ y U, ρ'.lookup y = some U → scope.names.lookup y = some .free ∧ (∀ k, (y, k) ∈ scope.names → k ≠ .cell) ∧ ∃ u, s₁.heap.IsCell (g y) (some u) ∧ U.r.rd X s₁.heap u U.x)
    (helt : ∀ z ∈ xs, ∀ cenv, CEnv scope env cenv → Ev prog w mg mb A cenv ((x, ⟨r, z⟩) :: ρ') elt rBool (f z))
    (hRR : ∀ D C h' tk m', s₁.heap.get? D = none → s₁.heap.get? C = none → D ≠ C → h'.Ns C m' → BSet (!w.params.followText "set-order") h' D (xs.any fun z => !f z) (xs.any f) → Keep s₁.heap h' →
      RR (.ref D) C (.ok .next) { s₁ with heap := h', toks := tk }) :
    wpAny (model prog w) A (pyIter v) (fun it s₂ => wpAny (model prog w) A (newSet (.type "set")) (fun acc s₃ => wpAny (model prog w) A (newFunctionEnv scope env.globals cl [] env.qual none .none (some env)) (fun cenv s₄ =>
      codeAny (model prog w) A (.compStart (.SetComp elt [⟨.Name x px, iter, [], 0⟩] scope pos) 0 it acc { cenv with scope := relabel scope env }) (RR acc cenv.locals) s₄) E s₃) E s₂) E s₁ := by
  refine hsrc _ E fun I fp wr n P St s₂ k₂ W hst hfp hwr hwS hn hP => ?_
  refine Classical.byContradiction fun zG => ?_
  obtain ⟨H₂, t₂, rfl, hk₂⟩ := k₂
  refine zG ?_
  clear zG
  refine new_set fun oD hBD => (newCompEnv fun h₁ _ eh₁ => ?_)
  dsimp only at eh₁ hst hfp ⊢
  generalize hH2 : H₂.push oD = H2 at eh₁ hBD ⊢
  revert H2; refine held ?_; intro H2 hH2 eh₁ hBD
  have hCs : H2.objs.size = H₂.objs.size + 1 := by rw [← hH2, Heap.size_push]
  have ok := cellsFrom_ok scope.names (H2.push { cls := .type "dict", data := .dict #[] }) (H2.objs.size + 1) [] ⟨fun _ _ hm => (nomatch hm), List.Pairwise.nil⟩ (by rw [Heap.size_push]; exact Nat.le_refl _)
  rw [Heap.size_push, ← eh₁] at ok
  generalize hown : cellsFrom (H2.objs.size + 1) scope.names [] = own at ok
  revert own; refine held ?_; intro own hown ok
  have hcells : cellsFrom (H2.objs.size + 1) scope.names cl = own ++ cl := by rw [cellsFrom_append, hown]
  rw [hcells]
  generalize hD : H₂.objs.size = D at hCs hfp hBD ⊢
  revert D; refine held ?_; intro D hD hCs hfp hBD
  generalize hC : H2.objs.size = C at hCs ok hown ⊢
  revert C; refine held ?_; intro C hC hCs ok hown
  generalize hcenv : ({ scope := relabel scope env, locals := C, globals := env.globals, cells := own ++ cl, qual := env.qual, func := none, code := env.code, frame := env.frame, builtins := env.builtins } : Env) = cenv
  revert cenv; refine held ?_; intro cenv hcenv
  have ce : CEnv scope env cenv := ⟨by rw [← hcenv], by rw [← hcenv]; exact ⟨hI.en.1, hI.en.2.1, hk⟩⟩
  have hcl' : cenv.cells = own ++ cl := by rw [← hcenv]
  have hloc : cenv.locals = C := by rw [← hcenv]
  have hknd : cenv.scope.kind = .function := by rw [← hcenv]; exact hk
  have oldD : ∀ b o, H₂.get? b = some o → h₁.get? b = some o := fun b o e => by
    rw [eh₁]; exact pushCells_keeps _ _ b o (Heap.get?_push_of_some _ (hH2 ▸ Heap.get?_push_of_some _ e))
  have old : Keep s₁.heap h₁ := fun b o e => oldD b o (hk₂ b o e)
  have fresh : ∀ a, D ≤ a → s₁.heap.get? a = none := fun a ha => by
    cases e : s₁.heap.get? a with
    | none => rfl
    | some o' => exact absurd (Heap.lt_size (hk₂ _ _ e)) (by rw [hD]; exact Nat.not_lt.mpr ha)
  have hownge : ∀ m c, (m, c) ∈ own → C + 1 ≤ c := fun m c hm => (ok.empty m c hm).2
  have hCo : ∀ m c, (m, c) ∈ own → c ≠ C := fun m c hm => Nat.ne_of_gt (hownge m c hm)
  have hacc₁ : BSet (!w.params.followText "set-order") h₁ D false false := hBD.at fun o e => by rw [eh₁]; exact pushCells_keeps _ _ _ _ (Heap.get?_push_of_some _ e)
  have htg₁ : Tg C own h₁ := ⟨⟨fun _ => none, by rw [eh₁, ← hC]; exact (Heap.Ns.new _ _).keeps (pushCells_keeps _ _)⟩, fun m c hm => ⟨_, (ok.empty m c hm).1⟩⟩
  have hst₁ : St 0 h₁ := W.frame _ _ _ hst fun b _ o e => oldD b o e
  have hxk : cenv.kindOf x = some .local ∨ (cenv.kindOf x = some .cell ∧ ∃ c, own.lookup x = some c) := by
    rcases hx with hx | hx
    · exact .inl (ce.kind hx)
    · refine .inr ⟨ce.kind hx, ?_⟩
      obtain ⟨c, hc⟩ := cellsFrom_has scope.names (C + 1) [] (.inl (mem_of_lookup hx))
      rw [hown] at hc
      exact lookup_some_of_mem hc
  have hDfp : D ∉ fp := fun h => Nat.lt_irrefl _ (hfp _ h)
  have hYfp : ∀ a ∈ C :: own.map (·.2), a ∉ fp := fun a ha h => by
    have hDC : D < C := Nat.lt_of_lt_of_eq (Nat.lt_succ_self D) hCs.symm
    have h1 := hfp a h
    rcases List.mem_cons.mp ha with rfl | ha
    · exact Nat.lt_asymm h1 hDC
    · obtain ⟨⟨m, c⟩, hm, rfl⟩ := List.mem_map.mp ha
      exact Nat.lt_asymm h1 (Nat.lt_trans hDC (hownge m c hm))
  have hYD : ∀ a ∈ C :: own.map (·.2), a ≠ D := fun a ha => by
    have hDC : D < C := Nat.lt_of_lt_of_eq (Nat.lt_succ_self D) hCs.symm
    rcases List.mem_cons.mp ha with rfl | ha
    · exact Nat.ne_of_gt hDC
    · obtain ⟨⟨m, c⟩, hm, rfl⟩ := List.mem_map.mp ha
      exact Nat.ne_of_gt (Nat.lt_trans hDC (hownge m c hm))
  have hYn : ∀ a ∈ C :: own.map (·.2), s₁.heap.get? a = none := fun a ha => by
    have hDC : D < C := Nat.lt_of_lt_of_eq (Nat.lt_succ_self D) hCs.symm
    refine fresh a ?_
    rcases List.mem_cons.mp ha with rfl | ha
    · exact Nat.le_of_lt hDC
    · obtain ⟨⟨m, c⟩, hm, rfl⟩ := List.mem_map.mp ha
      exact Nat.le_of_lt (Nat.lt_trans hDC (hownge m c hm))
  -- what the turns may write
  generalize hY : D :: C :: (own.map (·.2) ++ wr) = Y
  revert Y; refine held ?_; intro Y hY
  have hYnone : ∀ a ∈ Y, s₁.heap.get? a = none := fun a ha => by
    rw [← hY] at ha
    rcases List.mem_cons.mp ha with rfl | ha
    · exact fresh _ (Nat.le_refl _)
    · rcases List.mem_cons.mp ha with rfl | ha
      · exact hYn _ List.mem_cons_self
      · rcases List.mem_append.mp ha with ha | ha
        · exact hYn _ (List.mem_cons_of_mem _ ha)
        · exact hwr _ ha
  have inY : ∀ a ∈ C :: own.map (·.2), a ∈ Y ++ X := fun a ha => by
    rw [← hY]
    rcases List.mem_cons.mp ha with rfl | ha
    · exact List.mem_append_left _ (List.mem_cons_of_mem _ List.mem_cons_self)
    · exact List.mem_append_left _ (List.mem_cons_of_mem _ (List.mem_cons_of_mem _ (List.mem_append_left _ ha)))
  have DY : D ∈ Y ++ X := by rw [← hY]; exact List.mem_append_left _ List.mem_cons_self
  have wrY : ∀ a ∈ wr, a ∈ Y ++ X := fun a ha => by
    rw [← hY]; exact List.mem_append_left _ (List.mem_cons_of_mem _ (List.mem_cons_of_mem _ (List.mem_append_right _ ha)))
  have mkIn : ∀ (s₃ : Shared) i u z, Keep s₁.heap s₃.heap → Tg C own s₃.heap → St i s₃.heap → (∃ f t, BSet (!w.params.followText "set-order") s₃.heap D f t) → NameIs s₃.heap cenv x u → r.rd X s₁.heap u z →
      In mg mb (Y ++ X) cenv ((x, ⟨r, z⟩) :: ρ') s₃ := by
    intro s₃ i u z hkp htg hst hpl hnm hrd
    refine ⟨hI.gl.keeps hkp, ce.gl, ?_, ?_⟩
    · intro y U hy
      by_cases e : y = x
      · subst e
        rw [lookup_cons_self] at hy; cases hy
        exact ⟨u, hnm, r.mono (r.adds hrd Y hYnone) (.of_keep hkp)⟩
      · rw [lookup_cons_ne e] at hy
        refine Classical.byContradiction fun zG => ?_
        obtain ⟨h1, h2, u', h3, h4⟩ := hρ y U hy
        refine zG ?_
        clear zG
        refine ⟨u', .inr ⟨ce.kindFree h1, g y, ?_, h3.keeps hkp⟩, U.r.mono (U.r.adds h4 Y hYnone) (.of_keep hkp)⟩
        rw [hcl', lookup_append, lookup_none (l := own) (fun c hc => ?_)]
        · obtain ⟨c, hc⟩ := hclf (y, .free) (mem_of_lookup h1) rfl
          obtain ⟨c', hc'⟩ := lookup_some_of_mem hc
          show cl.lookup y = some (g y)
          rw [hc', hclg y c' (mem_of_lookup hc')]
        · rw [← hown] at hc
          rcases cellsFrom_only _ _ _ hc with hc | hc
          · exact h2 _ hc rfl
          · cases hc
    · intro a ha
      rcases List.mem_append.mp ha with ha | ha
      · rw [← hY] at ha
        rcases List.mem_cons.mp ha with rfl | ha
        · obtain ⟨_, _, o, hp, _⟩ := hpl; exact ⟨o, hp⟩
        · rcases List.mem_cons.mp ha with rfl | ha
          · obtain ⟨⟨m, o, _, _, ho, _⟩, _⟩ := htg; exact ⟨o, ho⟩
          · rcases List.mem_append.mp ha with ha | ha
            · obtain ⟨⟨m, c⟩, hm, rfl⟩ := List.mem_map.mp ha
              refine Classical.byContradiction fun zG => ?_
              obtain ⟨_, o, ho, _⟩ := htg.2 m c hm
              refine zG ?_
              clear zG
              exact ⟨o, ho⟩
            · exact hwS _ _ hst a ha
      · obtain ⟨o, ho⟩ := hI.here a ha
        exact ⟨o, hkp _ _ ho⟩
  have loop : ∀ s₃ : Shared, s₃ = { s₁ with heap := h₁, toks := t₂ } →
      codeAny (model prog w) A (.compLoop (.SetComp elt [⟨.Name x px, iter, [], 0⟩] scope pos) 0 (.ref I) (.ref D) cenv) (RR (.ref D) C) s₃ := by
    rintro s₃ rfl
    refine codeAny_setLoop
      (fun k s' => ∃ h' tk i, s' = { s₁ with heap := h', toks := tk } ∧ All6 (St i h') (BSet (!w.params.followText "set-order") h' D ((xs.take i).any fun z => !f z) ((xs.take i).any f)) (Tg C own h') (i ≤ n) (k = n + 1 - i) (Keep s₁.heap h')) ?_ (n + 1)
      ⟨h₁, t₂, 0, rfl, hst₁, by simpa using hacc₁, htg₁, Nat.zero_le _, rfl, old⟩
    intro k s' zI
    refine Classical.byContradiction fun zG => ?_
    obtain ⟨H, tk, i, rfl, hst', hacc', htg', hi, rfl, hkp⟩ := zI
    refine zG ?_
    clear zG
    by_cases hlt : i < n
    · refine W.item i _ _ _ hlt hst' fun u h₁' tk₁ hPu hst₁' hk₁' => ?_
      refine Classical.byContradiction fun zG => ?_
      obtain ⟨z, hz, hrd⟩ := hP i u hPu
      refine zG ?_
      clear zG
      have hzm : z ∈ xs := List.mem_of_getElem? hz
      have kwr : ∀ b o, b ∉ wr → H.get? b = some o → h₁'.get? b = some o := hk₁'
      have ykeep : ∀ a ∈ C :: own.map (·.2), a ∉ wr := fun a ha h => hYfp a ha (W.sub _ h)
      have hkp₁ : Keep s₁.heap h₁' := fun b o e => kwr b o (fun h => by rw [hwr b h] at e; cases e) (hkp b o e)
      have htg₁' : Tg C own h₁' := by
        refine Classical.byContradiction fun zG => ?_
        obtain ⟨⟨m, hm⟩, ho⟩ := htg'
        refine zG ?_
        clear zG
        refine ⟨⟨m, hm.at' fun o e => kwr _ o (ykeep C List.mem_cons_self) e⟩, fun m' c hc => ?_⟩
        refine Classical.byContradiction fun zG => ?_
        obtain ⟨u', o, ho', hd⟩ := ho m' c hc
        refine zG ?_
        clear zG
        exact ⟨u', o, kwr c o (ykeep c (List.mem_cons_of_mem _ (List.mem_map.mpr ⟨_, hc, rfl⟩))) ho', hd⟩
      refine wpAny_assign_Name (cstore hloc hcl' hknd hCo htg₁' hxk fun h₂ tk₂ a htg₂ hnm₂ hs₂ haY => ?_)
      have hkp₂ : Keep s₁.heap h₂ := fun b o e => hs₂.extBut b o (fun q => by subst q; rw [hYn b haY] at e; cases e) (hkp₁ b o e)
      have hst₂ : St (i + 1) h₂ := W.frame _ _ _ hst₁' fun b hb o e => hs₂.extBut b o (fun q => hYfp a haY (q ▸ hb)) e
      have hDw : D ∉ wr := fun h => hDfp (W.sub _ h)
      have hacc₂ := (hacc'.at fun o e => kwr _ o hDw e).at fun o e => hs₂.extBut _ o (Ne.symm (hYD a haY)) e
      have in₂ := mkIn { s₁ with heap := h₂, toks := tk₂ } (i + 1) u z hkp₂ htg₂ hst₂ ⟨_, _, hacc₂⟩ hnm₂ hrd
      refine Tr.gos (helt z hzm cenv ce) in₂ fun y h₄ t₄ hk₄ hy => ?_
      rw [show y = .bool (f z) from hy]
      have htk : xs.take (i + 1) = xs.take i ++ [z] := by rw [List.take_add_one, hz]; rfl
      refine add_bool (s := { s₁ with heap := h₄, toks := t₄ }) (hacc₂.at fun o e => hk₄ _ o e) fun h₅ hs₅ hl₅ => ?_
      refine ⟨n + 1 - (i + 1), turn_lt hlt, h₅, t₄ + 1, i + 1, rfl, W.frame _ _ _ hst₂ (fun b hb o e => hs₅.extBut b o (fun q => hDfp (q ▸ hb)) (hk₄ b o e)), ?_, ?_, hlt, rfl,
        fun b o e => hs₅.extBut b o (fun q => by subst q; rw [fresh _ (Nat.le_refl _)] at e; cases e) (hk₄ b o (hkp₂ b o e))⟩
      · rw [htk]; simpa using hl₅
      · refine ⟨let ⟨m, hm⟩ := htg₂.1; ⟨m, (hm.keeps hk₄).sameBut hs₅ (hYD C List.mem_cons_self)⟩, fun m c hc => ?_⟩
        obtain ⟨u', hu⟩ := htg₂.2 m c hc
        exact ⟨u', (hu.keeps hk₄).sameBut hs₅ (hYD c (List.mem_cons_of_mem _ (List.mem_map.mpr ⟨_, hc, rfl⟩)))⟩
    · have hin : i = n := at_end hi hlt
      subst hin
      refine W.done _ _ _ hst' fun h₁' tk₁ hk₁' => ?_
      have hDw : D ∉ wr := fun h => hDfp (W.sub _ h)
      refine Classical.byContradiction fun zG => ?_
      obtain ⟨⟨m, hm⟩, ho⟩ := htg'
      refine zG ?_
      clear zG
      have hpl := hacc'.at fun o e => hk₁' _ o hDw e
      have e1 : xs.take i = xs := List.take_of_length_le (by lia -abstractProof)
      rw [e1] at hpl
      exact hRR D C h₁' tk₁ m (fresh _ (Nat.le_refl _)) (hYn _ List.mem_cons_self) (Ne.symm (hYD C List.mem_cons_self)) (hm.at' fun o e => hk₁' _ o (fun h => hYfp C List.mem_cons_self (W.sub _ h)) e) hpl
        fun b o e => hk₁' b o (fun h => by rw [hwr b h] at e; cases e) (hkp b o e)
  exact codeAny_compStart_set (loop _ rfl) (W.self 0 _ _ _ hst₁ (loop _ rfl))

-- a set of bools
noncomputable def rBSet (w : World) : Rep (Bool × Bool) where
  rd := fun X h v p => ∃ a, v = .ref a ∧ a ∉ X ∧ BSet (!w.params.followText "set-order") h a p.1 p.2
  mono := fun zh k => by
    refine Classical.byContradiction fun zG => ?_
    obtain ⟨a, e, ha, p⟩ := zh
    exact zG ⟨a, e, ha, p.at fun o ho => k _ _ ha ho⟩
  add := fun zh hn => by
    refine Classical.byContradiction fun zG => ?_
    obtain ⟨a, e, ha, p⟩ := zh
    exact zG ⟨a, e, by
        intro hm
        rcases List.mem_cons.mp hm with rfl | hm
        · obtain ⟨o, ho, _⟩ := p; rw [hn] at ho; cases ho
        · exact ha hm, p⟩
  weak := fun zh hs => by
    refine Classical.byContradiction fun zG => ?_
    obtain ⟨a, e, ha, p⟩ := zh
    exact zG ⟨a, e, fun hm => ha (hs _ hm), p⟩
  dict := fun zh hn => by
    refine Classical.byContradiction fun zG => ?_
    obtain ⟨a, e, ha, p⟩ := zh
    exact zG ⟨a, e, by
        intro hm
        rcases List.mem_cons.mp hm with rfl | hm
        · obtain ⟨o, ho, _, hd⟩ := p
          refine Classical.byContradiction fun zG => ?_
          obtain ⟨o', es, ep, ho', hd', _⟩ := hn
          refine zG ?_
          clear zG
          rw [ho] at ho'; cases ho'
          rw [hd] at hd'; cases hd'
        · exact ha hm, p⟩

theorem ev_setcomp {α : Type} {elt iter : Expr} {x : Str} {px : Pos} {scope : Scope} {pos : Pos} {r : Rep α} {xs : List α} {f : α → Bool} {ρ ρ' : Vs}
    (hit : EvS prog w mg mb A env ρ iter r xs) (F : Frees scope env ρ ρ')
    (helt : ∀ z ∈ xs, ∀ cenv, CEnv scope env cenv → Ev prog w mg mb A cenv ((x, ⟨r, z⟩) :: ρ') elt rBool (f z))
    (hk : scope.kind = .function) (hx : scope.names.lookup x = some .local ∨ scope.names.lookup x = some .cell)
    (hnames : ∀ y ∈ scope.names, y.2 = .local → scope.names.lookup y.1 = some .local)
    (hs : ∀ x, foldedSetIterable iter env x = pure x := by intro _; rfl) :
    Ev prog w mg mb A env ρ (.SetComp elt [⟨.Name x px, iter, [], 0⟩] scope pos) (rBSet w) (xs.any (fun z => !f z), xs.any f) := by
  intro X s i E
  have hg : ∀ y ∈ scope.names, y.2 = .free → env.cells.lookup y.1 = some ((env.cells.lookup y.1).getD 0) := fun y hy e => by
    obtain ⟨U, hU⟩ := F.all y hy e
    refine Classical.byContradiction fun zG => ?_
    obtain ⟨c, u, hc, _⟩ := frees_cell F i hU
    refine zG ?_
    clear zG
    rw [hc]; rfl
  refine Classical.byContradiction fun zG => ?_
  obtain ⟨cl, hcl, hclg, hclf⟩ := closureFor_eq (fun y => (env.cells.lookup y).getD 0) hg
  refine zG ?_
  clear zG
  rw [arm_eval_SetComp]
  refine wpAny_comprehension_free (use := none) rfl hs hcl hk hnames (wpAny_mono (hit X s E i) (fun v s₁ h₁ => ?_) fun _ _ e => e)
  obtain ⟨k₁, hsrc⟩ := h₁
  have i₁ := i.keeps k₁
  refine setcomp_core (RR := fun acc C => compPost (model prog w) A E none _ acc C) hsrc i₁ hclg hclf hk hx ?_ helt ?_
  · intro y U hU
    refine Classical.byContradiction fun zG => ?_
    obtain ⟨h1, h2, h3, h4⟩ := F.here y U hU
    refine zG ?_
    clear zG
    refine Classical.byContradiction fun zG => ?_
    obtain ⟨c, u, hc, hu, hr⟩ := frees_cell F i₁ hU
    refine zG ?_
    clear zG
    refine ⟨h1, h2, u, ?_, hr⟩
    rw [hc]; exact hu
  · intro D C h' tk m' hD hC hDC hn hpl hkp
    refine ⟨m', hn, fun h'' hs'' => ⟨Keeps.trans k₁ (Keeps.of fun b o e => hs''.extBut b o (fun q => by subst q; rw [hC] at e; cases e) (hkp b o e)), ?_⟩⟩
    have hDX : D ∉ X := fun h => by obtain ⟨o, ho⟩ := i₁.here D h; rw [hD] at ho; cases ho
    exact ⟨D, rfl, hDX, hpl.at fun o e => hs''.extBut D _ hDC e⟩
end
end Mine.Internal
end
section
open PySem PySem.Calls
set_option maxRecDepth 100000
namespace Mine.Internal
section
variable {prog : Program} {w : World} {mg mb : Str → Option Value} {A : Around} {env : Env} {s₀ : Shared} {X : List Addr} {ρ : Vs} {rest : List Stmt} {Q : Flow → Shared → Prop} {E : Value → Shared → Prop}

theorem exec_unpack (x px) (c) (pt pos : Pos) (e : Expr) (env : Env) (hs : swapsWith e (some (.Tuple [.Name x px] c pt)) pos.line env = pure false) (hst : swappedStores [.Tuple [.Name x px] c pt] e env = pure none) :
    exec (.Assign [.Tuple [.Name x px] c pt] e pos) env = (do
      standAt pos
      let v ← eval e env
      assign (.Tuple [.Name x px] c pt) env v
      pure .next) := by
  have e : exec (.Assign [.Tuple [.Name x px] c pt] e pos) env = (do
      standAt pos
      if ← swapsWith e (some (.Tuple [.Name x px] c pt)) pos.line env then do
        evalThenUse e env fun v => assignAll v ((assignEach [.Tuple [.Name x px] c pt] env).map (·.2))
        pure .next
      else do
        let v ← eval e env
        assignStores env v (← swappedStores [.Tuple [.Name x px] c pt] e env) ((assignEach [.Tuple [.Name x px] c pt] env).map (·.2))) := rfl
  rw [e, hs, hst]; rfl

theorem blk_unpack1 {e : Expr} {x : Str} {px : Pos} {c} {pt pos : Pos} {f t : Bool} (hh : A.handled = none) (he : Ev prog w mg mb A env ρ e (rBSet w) (f, t)) (hft : f = !t)
    (hx : env.kindOf x = some .local ∨ (env.kindOf x = some .cell ∧ ∃ c, env.cells.lookup x = some c))
    (h : Blk prog w mg mb A s₀ env X ((x, ⟨rBool, t⟩) :: ρ) rest Q E)
    (hs : swapsWith e (some (.Tuple [.Name x px] c pt)) pos.line env = pure false := by rfl) (hst : swappedStores [.Tuple [.Name x px] c pt] e env = pure none := by rfl) :
    Blk prog w mg mb A s₀ env X ρ (.Assign [.Tuple [.Name x px] c pt] e pos :: rest) Q E := by
  intro s F
  refine wpAny_execs_cons ?_
  rw [exec_unpack x px c pt pos e env hs hst]
  refine wpAny_bind (wpAny_standAt (wpAny_bind (wpAny_mono (he X s F.inn E) (fun v s₁ h₁ => ?_) fun _ _ e => e)))
  refine Classical.byContradiction fun zG => ?_
  obtain ⟨k₁, a, rfl, haX, hS⟩ := h₁
  refine zG ?_
  clear zG
  show wpAny _ _ (assign (.Tuple [.Name x px] c pt) env (.ref a) >>= _) _ _ _
  refine wpAny_bind ?_
  show wpAny _ _ (standAt pt >>= fun _ => unpack (.ref a) (assignEach [.Name x px] env)) _ _ _
  refine wpAny_bind (wpAny_standAt ?_)
  unfold unpack
  refine wpAny_bind (wpAny_holding ?_)
  show wpAny _ _ (unpackItems (.ref a) 1 none) _ _ _
  refine unpack_one hh hS hft fun h₂ hk₂ => ?_
  show wpAny _ _ (holding [] (assign (.Name x px) env (.bool t)) >>= fun _ => pure ()) _ _ _
  refine wpAny_bind (wpAny_holding ?_)
  have F₂ := F.keeps (Keeps.trans k₁ (Keeps.of (s := s₁) (t := s₁.toks) hk₂))
  refine wpAny_assign_Name (store (U := ⟨rBool, t⟩) F₂ hx rfl fun s' F' _ => ?_)
  exact wpAny_pure (wpAny_pure (h s' F'))

theorem blk_unpack2 {e : Expr} {x : Str} {px : Pos} {c} {pt pos : Pos} (hh : A.handled = none) (he : Ev prog w mg mb A env ρ e (rBSet w) (true, true))
    (h : ∀ s, Fm mg mb s₀ env X ρ s → ∀ h' tk e, Heap.NewExc s.heap h' e "ValueError" → E (.ref e) { s with heap := h', toks := tk })
    (hs : swapsWith e (some (.Tuple [.Name x px] c pt)) pos.line env = pure false := by rfl) (hst : swappedStores [.Tuple [.Name x px] c pt] e env = pure none := by rfl) :
    Blk prog w mg mb A s₀ env X ρ (.Assign [.Tuple [.Name x px] c pt] e pos :: rest) Q E := by
  intro s F
  refine wpAny_execs_cons ?_
  rw [exec_unpack x px c pt pos e env hs hst]
  refine wpAny_bind (wpAny_standAt (wpAny_bind (wpAny_mono (he X s F.inn E) (fun v s₁ h₁ => ?_) fun _ _ e => e)))
  refine Classical.byContradiction fun zG => ?_
  obtain ⟨k₁, a, rfl, haX, hS⟩ := h₁
  refine zG ?_
  clear zG
  show wpAny _ _ (assign (.Tuple [.Name x px] c pt) env (.ref a) >>= _) _ _ _
  refine wpAny_bind ?_
  show wpAny _ _ (standAt pt >>= fun _ => unpack (.ref a) (assignEach [.Name x px] env)) _ _ _
  refine wpAny_bind (wpAny_standAt ?_)
  unfold unpack
  refine wpAny_bind (wpAny_holding ?_)
  show wpAny _ _ (unpackItems (.ref a) 1 none) _ _ _
  exact unpack_two hS hh fun h' tk e hN => h s₁ (F.keeps k₁) h' tk e hN
end
end Mine.Internal
end
section
open PySem PySem.Calls
set_option maxRecDepth 100000
namespace Mine.Internal
section
variable {prog : Program} {w : World} {mg mb : Str → Option Value} {A : Around} {E : Value → Shared → Prop}
end
-- a frame, and what stands since hb
structure Lm (mg mb : Str → Option Value) (s₀ : Shared) (env : Env) (X : List Addr) (ρ : Vs) (Z : List Addr) (hb : Heap) (s : Shared) : Prop where
  fm : Fm mg mb s₀ env X ρ s
  kb : ∀ b o, b ∉ Z → hb.get? b = some o → s.heap.get? b = some o
  lZ : env.locals ∈ Z
  cZ : ∀ n c, env.cells.lookup n = some c → c ∈ Z
  zX : ∀ a ∈ Z, a ∈ X

noncomputable def LBlk (prog : Program) (w : World) (mg mb : Str → Option Value) (A : Around) (s₀ : Shared) (env : Env) (X : List Addr) (ρ : Vs) (Z : List Addr) (hb : Heap) (b : List Stmt) (Q : Flow → Shared → Prop) (E : Value → Shared → Prop) : Prop :=
  ∀ s, Lm mg mb s₀ env X ρ Z hb s → wpAny (model prog w) A (execs b env) Q E s

section
variable {prog : Program} {w : World} {mg mb : Str → Option Value} {A : Around} {env : Env} {s₀ : Shared} {X : List Addr} {ρ : Vs} {rest : List Stmt} {Q : Flow → Shared → Prop} {E : Value → Shared → Prop} {Z : List Addr} {hb : Heap}

theorem Lm.keeps {s s' : Shared} (p : Lm mg mb s₀ env X ρ Z hb s) (k : Keeps s s') : Lm mg mb s₀ env X ρ Z hb s' :=
  ⟨p.fm.keeps k, fun b o hz e => Keeps.keep k b o (p.kb b o hz e), p.lZ, p.cZ, p.zX⟩

theorem Fm.sub {s : Shared} {ρ' : Vs} (F : Fm mg mb s₀ env X ρ s) (h : ∀ y U, ρ'.lookup y = some U → ρ.lookup y = some U) : Fm mg mb s₀ env X ρ' s :=
  ⟨F.gl0, ⟨F.inn.gl, F.inn.en, fun y U hy => F.inn.vars y U (h y U hy), F.inn.here⟩, F.fr, F.lX, F.cX⟩
theorem Lm.sub {s : Shared} {ρ' : Vs} (F : Lm mg mb s₀ env X ρ Z hb s) (h : ∀ y U, ρ'.lookup y = some U → ρ.lookup y = some U) : Lm mg mb s₀ env X ρ' Z hb s := ⟨F.fm.sub h, F.kb, F.lZ, F.cZ, F.zX⟩

theorem lstore {s : Shared} {x : Str} {U : V} {v : Value} {Q : Unit → Shared → Prop} (L : Lm mg mb s₀ env X ρ Z hb s)
    (hx : env.kindOf x = some .local ∨ (env.kindOf x = some .cell ∧ ∃ c, env.cells.lookup x = some c)) (hv : U.r.rd X s.heap v U.x)
    (h : ∀ s', Lm mg mb s₀ env X ((x, U) :: ρ) Z hb s' → (∃ a, (a = env.locals ∨ ∃ n, env.cells.lookup n = some a) ∧ Heap.SameBut a s.heap s'.heap) → Q () s') : wpAny (model prog w) A (storeName env x v) Q E s := by
  refine store2 L.fm hx hv fun s' F' hs => h s' ⟨F', fun b o hz e => ?_, L.lZ, L.cZ, L.zX⟩ hs
  refine Classical.byContradiction fun zG => ?_
  obtain ⟨a, ha, hs⟩ := hs
  refine zG ?_
  clear zG
  refine hs.extBut b o (fun q => ?_) (L.kb b o hz e)
  subst q
  rcases ha with rfl | ⟨n, hn⟩
  · exact hz L.lZ
  · exact hz (L.cZ _ _ hn)

theorem lb_assign {α : Type} {e : Expr} {x : Str} {px pos : Pos} {r : Rep α} {y : α} (he : Ev prog w mg mb A env ρ e r y)
    (hx : env.kindOf x = some .local ∨ (env.kindOf x = some .cell ∧ ∃ c, env.cells.lookup x = some c))
    (h : LBlk prog w mg mb A s₀ env X ((x, ⟨r, y⟩) :: ρ) Z hb rest Q E)
    (hsw : swapsWith e (some (.Name x px)) pos.line env = pure false := by rfl) : LBlk prog w mg mb A s₀ env X ρ Z hb (.Assign [.Name x px] e pos :: rest) Q E := by
  intro s F
  refine wpAny_execs_cons (wpAny_Assign_Name (wpAny_mono (he X s F.fm.inn E) (fun v s₁ h₁ => ?_) fun _ _ e => e) hsw)
  exact lstore (U := ⟨r, y⟩) (F.keeps h₁.1) hx h₁.2 fun s' F' _ => h s' F'
theorem lb_nil (h : ∀ s, Lm mg mb s₀ env X ρ Z hb s → Q .next s) : LBlk prog w mg mb A s₀ env X ρ Z hb [] Q E := fun s F => wpAny_execs_nil (h s F)
theorem lb_break {pos : Pos} (h : ∀ s, Lm mg mb s₀ env X ρ Z hb s → Q .brk s) : LBlk prog w mg mb A s₀ env X ρ Z hb (.Break pos :: rest) Q E := fun s F => by
  exact wpAny_execs_cons (wpAny_Break (h s F))
theorem lb_fall (h : LBlk prog w mg mb A s₀ env X ρ Z hb rest Q E) : LBlk prog w mg mb A s₀ env X ρ Z hb [] (Then prog w A env rest Q E) E := fun s F => wpAny_execs_nil (h s F)
theorem lb_if {t : Expr} {b o : List Stmt} {pos : Pos} {c : Bool} (ht : Tst prog w mg mb A env ρ t c) (h1 : c = true → LBlk prog w mg mb A s₀ env X ρ Z hb b (Then prog w A env rest Q E) E)
    (h2 : c = false → LBlk prog w mg mb A s₀ env X ρ Z hb o (Then prog w A env rest Q E) E) : LBlk prog w mg mb A s₀ env X ρ Z hb (.If t b o pos :: rest) Q E := by
  intro s F
  refine wpAny_execs_cons (wpAny_If (wpAny_mono (ht X s E F.fm.inn) (fun c' s₁ h₁ => ?_) fun _ _ e => e))
  obtain ⟨k, rfl⟩ := h₁
  cases c' with
  | true => exact h1 rfl s₁ (F.keeps k)
  | false => exact h2 rfl s₁ (F.keeps k)
end
end Mine.Internal
end
section
open PySem PySem.Calls
set_option maxRecDepth 100000
namespace Mine.Internal

-- a walk over v yields what stands for xs, away from X
noncomputable def LSrc {α : Type} (prog : Program) (w : World) (A : Around) (X : List Addr) (s₁ : Shared) (v : Value) (r : Rep α) (xs : List α) : Prop :=
  ∀ (Q : Value → Shared → Prop) (E : Value → Shared → Prop), (∀ I fp wr n P St s₂, Keeps s₁ s₂ → Walks prog w A I fp wr n P St → St 0 s₂.heap → (∀ b ∈ wr, s₁.heap.get? b = none) → (∀ b ∈ fp, b ∉ X) →
    (∀ i h, St i h → ∀ b ∈ wr, ∃ o, h.get? b = some o) → n = xs.length → (∀ i u, P i u → ∃ z, xs[i]? = some z ∧ r.rd X s₁.heap u z) → Q (.ref I) s₂) → wpAny (model prog w) A (pyIter v) Q E s₁

section
variable {prog : Program} {w : World} {mg mb : Str → Option Value} {A : Around} {env : Env} {s₀ : Shared} {X : List Addr} {ρ : Vs} {rest : List Stmt} {Q : Flow → Shared → Prop} {E : Value → Shared → Prop}

theorem lsrc_list {α : Type} {s : Shared} {v : Value} {r : Rep α} {xs : List α} (hh : A.handled = none) (hX : ∀ a ∈ X, ∃ o, s.heap.get? a = some o) (h : (rList r).rd X s.heap v xs) : LSrc prog w A X s v r xs := by
  refine Classical.byContradiction fun zG => ?_
  obtain ⟨a, vs, rfl, ha, hl, hp⟩ := h
  refine zG ?_
  clear zG
  intro Q E hQ
  have hl' : s.heap.IsList a vs.toArray := hl
  refine Classical.byContradiction fun zG => ?_
  obtain ⟨o, ho, hr⟩ := id hl
  refine zG ?_
  clear zG
  have hne : a ≠ s.heap.objs.size := Nat.ne_of_lt (Heap.lt_size ho)
  have hsz : s.heap.get? s.heap.objs.size = none := Heap.get?_none_of_le (Nat.le_refl _)
  refine wpAny_pyIter_list hl' (hQ _ [s.heap.objs.size, a] [s.heap.objs.size] _ _ _ _ (Keeps.of (keep_push _ _)) (Walks.list hh s.heap.objs.size a hne vs.toArray) ?_ ?_ ?_ ?_ ?_ ?_)
  · exact ⟨⟨_, Heap.get?_push_size _ rfl, rfl, rfl⟩, hl'.push _⟩
  · intro b hb; simp at hb; subst hb; exact hsz
  · intro b hb hx
    simp at hb
    rcases hb with rfl | rfl
    · obtain ⟨o', ho'⟩ := hX _ hx; rw [hsz] at ho'; cases ho'
    · exact ha hx
  · rintro i h ⟨⟨o, ho, _⟩, _⟩ b hb; simp at hb; subst hb; exact ⟨o, ho⟩
  · simpa using hp.length
  · intro i u hu
    exact Paired.get hp (by simpa using hu)

theorem Fm.other {s : Shared} {h' : Heap} {tk : Nat} {Y : List Addr} (F : Fm mg mb s₀ env X ρ s) (hk : ∀ b o, b ∉ Y → s.heap.get? b = some o → h'.get? b = some o) (hY : ∀ a ∈ Y, a ∈ X) (h0 : ∀ a ∈ Y, s₀.heap.get? a = none)
    (hL : env.locals ∉ Y) (hC : ∀ n c, env.cells.lookup n = some c → c ∉ Y) (hh : ∀ a ∈ Y, ∃ o, h'.get? a = some o) : Fm mg mb s₀ env X ρ { s with heap := h', toks := tk } := by
  refine Classical.byContradiction fun zG => ?_
  obtain ⟨m, cm, fr⟩ := F.fr
  refine zG ?_
  clear zG
  have fr' : InCallC s₀ env.locals m env.cells cm { s with heap := h', toks := tk } := by
    refine ⟨⟨?_, fr.toInCall.ns.at' fun o e => hk _ _ hL e, fun b o e => ?_, fr.toInCall.fresh⟩, fun k c hc => ?_, fr.apart, fr.above⟩
    · obtain ⟨h₁, tk₁, e⟩ := fr.toInCall.same
      rw [e]; exact ⟨h', _, rfl⟩
    · exact hk b o (fun q => by rw [h0 b q] at e; cases e) (fr.toInCall.keep b o e)
    · obtain ⟨o, ho, hd⟩ := fr.cell k c hc
      exact ⟨o, hk _ _ (hC k c hc) ho, hd⟩
  refine ⟨F.gl0, ⟨F.gl0.keeps fr'.toInCall.keep, F.inn.en, ?_, ?_⟩, ⟨_, _, fr'⟩, F.lX, F.cX⟩
  · intro y W hy
    refine Classical.byContradiction fun zG => ?_
    obtain ⟨u, hu, hr⟩ := F.inn.vars y W hy
    refine zG ?_
    clear zG
    refine ⟨u, ?_, W.r.mono hr fun b o hb e => hk b o (fun q => hb (hY _ q)) e⟩
    rcases hu with ⟨a, m', b, d⟩ | ⟨a, c, b, o, ho, hd⟩
    · exact .inl ⟨a, m', b.at' fun o e => hk _ _ hL e, d⟩
    · exact .inr ⟨a, c, b, o, hk _ _ (hC y c b) ho, hd⟩
  · intro a ha
    by_cases q : a ∈ Y
    · exact hh a q
    · obtain ⟨o, ho⟩ := F.inn.here a ha
      exact ⟨o, hk a o q ho⟩

theorem Fm.otherX {s : Shared} {h' : Heap} {tk : Nat} {Y : List Addr} (F : Fm mg mb s₀ env (Y ++ X) ρ s) (hk : ∀ b o, b ∉ Y → s.heap.get? b = some o → h'.get? b = some o) (h0 : ∀ a ∈ Y, s₀.heap.get? a = none)
    (hL : env.locals ∉ Y) (hC : ∀ n c, env.cells.lookup n = some c → c ∉ Y) (hXY : ∀ a ∈ X, a ∉ Y) (hl : env.locals ∈ X) (hc : ∀ n c, env.cells.lookup n = some c → c ∈ X) : Fm mg mb s₀ env X ρ { s with heap := h', toks := tk } := by
  refine Classical.byContradiction fun zG => ?_
  obtain ⟨m, cm, fr⟩ := F.fr
  refine zG ?_
  clear zG
  have fr' : InCallC s₀ env.locals m env.cells cm { s with heap := h', toks := tk } := by
    refine ⟨⟨?_, fr.toInCall.ns.at' fun o e => hk _ _ hL e, fun b o e => ?_, fr.toInCall.fresh⟩, fun k c hc => ?_, fr.apart, fr.above⟩
    · obtain ⟨h₁, tk₁, e⟩ := fr.toInCall.same
      rw [e]; exact ⟨h', _, rfl⟩
    · exact hk b o (fun q => by rw [h0 b q] at e; cases e) (fr.toInCall.keep b o e)
    · obtain ⟨o, ho, hd⟩ := fr.cell k c hc
      exact ⟨o, hk _ _ (hC k c hc) ho, hd⟩
  refine ⟨F.gl0, ⟨F.gl0.keeps fr'.toInCall.keep, F.inn.en, ?_, ?_⟩, ⟨_, _, fr'⟩, hl, hc⟩
  · intro y W hy
    refine Classical.byContradiction fun zG => ?_
    obtain ⟨u, hu, hr⟩ := F.inn.vars y W hy
    refine zG ?_
    clear zG
    refine ⟨u, ?_, W.r.weak (W.r.mono hr fun b o hb e => hk b o (fun q => hb (List.mem_append_left _ q)) e) fun a ha => List.mem_append_right _ ha⟩
    rcases hu with ⟨a, m', b, d⟩ | ⟨a, c, b, o, ho, hd⟩
    · exact .inl ⟨a, m', b.at' fun o e => hk _ _ hL e, d⟩
    · exact .inr ⟨a, c, b, o, hk _ _ (hC y c b) ho, hd⟩
  · intro a ha
    obtain ⟨o, ho⟩ := F.inn.here a (List.mem_append_right _ ha)
    exact ⟨o, hk a o (hXY a ha) ho⟩

-- new addresses are nobody's
theorem Fm.grow {s s' : Shared} {Y : List Addr} (F : Fm mg mb s₀ env X ρ s) (k : Keeps s s') (hn : ∀ a ∈ Y, s.heap.get? a = none) (hh : ∀ a ∈ Y, ∃ o, s'.heap.get? a = some o) : Fm mg mb s₀ env (Y ++ X) ρ s' := by
  have F' := F.keeps k
  refine ⟨F.gl0, ⟨F'.inn.gl, F.inn.en, ?_, ?_⟩, F'.fr, List.mem_append_right _ F.lX, fun n c hc => List.mem_append_right _ (F.cX n c hc)⟩
  · intro y W hy
    refine Classical.byContradiction fun zG => ?_
    obtain ⟨u, hu, hr⟩ := F.inn.vars y W hy
    refine zG ?_
    clear zG
    exact ⟨u, hu.keeps (Keeps.keep k), W.r.mono (W.r.adds hr Y hn) (.of_keep (Keeps.keep k))⟩
  · intro a ha
    rcases List.mem_append.mp ha with h | h
    · exact hh a h
    · exact F'.inn.here a h
theorem Fm.shrink {s : Shared} {X' : List Addr} (F : Fm mg mb s₀ env X' ρ s) (hs : ∀ a ∈ X, a ∈ X') (hl : env.locals ∈ X) (hc : ∀ n c, env.cells.lookup n = some c → c ∈ X) : Fm mg mb s₀ env X ρ s :=
  ⟨F.gl0, ⟨F.inn.gl, F.inn.en, fun y W hy => let ⟨u, hu, hr⟩ := F.inn.vars y W hy; ⟨u, hu, W.r.weak hr hs⟩, fun a ha => F.inn.here a (hs a ha)⟩, F.fr, hl, hc⟩
theorem Fm.lm {s : Shared} {Z : List Addr} (F : Fm mg mb s₀ env X ρ s) (hl : env.locals ∈ Z) (hc : ∀ n c, env.cells.lookup n = some c → c ∈ Z) (hz : ∀ a ∈ Z, a ∈ X) : Lm mg mb s₀ env X ρ Z s.heap s :=
  ⟨F, fun _ _ _ e => e, hl, hc, hz⟩

-- a value that no heap bears
noncomputable def Flat {α : Type} (r : Rep α) : Prop := ∀ X X' h h' v z, r.rd X h v z → r.rd X' h' v z
theorem flat_flat {α : Type} (f : Value → α → Prop) : Flat (flat f) := fun _ _ _ _ _ _ p => p

theorem for_core {α : Type} {x : Str} {px : Pos} {body : List Stmt} {r : Rep α} {xs : List α} {ρ' : Nat → Vs} {P : List Addr → Nat → Shared → Prop} {Dl : List Addr} {Qe : Shared → Prop} {s : Shared} {v : Value} {E₁ : Value → Shared → Prop}
    {RE : Value → Shared → Prop} (hflat : Flat r) (hsrc : LSrc prog w A X s v r xs) (F : Fm mg mb s₀ env X (ρ' 0) s)
    (hx : env.kindOf x = some .local ∨ (env.kindOf x = some .cell ∧ ∃ c, env.cells.lookup x = some c))
    (hD : ∀ a ∈ Dl, a ∈ X ∧ a ≠ env.locals ∧ ∀ n, env.cells.lookup n ≠ some a)
    (hP0 : ∀ Y s', Keeps s s' → (∀ a ∈ Y, s.heap.get? a = none) → P (Y ++ X) 0 s')
    (hP : ∀ X' i s h' tk, P X' i s → (∀ b o, (b ∉ X' ∨ b ∈ Dl) → s.heap.get? b = some o → h'.get? b = some o) → P X' i { s with heap := h', toks := tk })
    (hstep : ∀ wr i z hb E, xs[i]? = some z → ∀ s, Lm mg mb s₀ env (wr ++ X) ((x, ⟨r, z⟩) :: ρ' i) X hb s → P (wr ++ X) i s →
      wpAny (model prog w) A (execs body env) (fun f s' => (f = .next ∧ Lm mg mb s₀ env (wr ++ X) (ρ' (i + 1)) X hb s' ∧ P (wr ++ X) (i + 1) s') ∨ (f = .brk ∧ Qe s')) E s)
    (hend : ∀ wr s, Fm mg mb s₀ env X (ρ' xs.length) s → P (wr ++ X) xs.length s → Qe s) :
    wpAny (model prog w) A (pyIter v) (fun it s₂ => codeAny (model prog w) A (.forLoop (.Name x px) it body [] env) (fun r s' => match r with | .ok f => f = .next ∧ Qe s' | .error e => RE e s') s₂) E₁ s := by
  refine hsrc _ E₁ fun I fp wr n Pv St s₂ k₂ W hst hwr hfpX hwS hn hPv => ?_
  have hX : ∀ a ∈ X, a ∉ wr := fun a ha q => by obtain ⟨o, ho⟩ := F.inn.here a ha; rw [hwr a q] at ho; cases ho
  have F₂ : Fm mg mb s₀ env (wr ++ X) (ρ' 0) s₂ := F.grow k₂ hwr (hwS 0 _ hst)
  have h0 : ∀ a ∈ wr, s₀.heap.get? a = none := fun a ha => by
    cases e : s₀.heap.get? a with
    | none => rfl
    | some o => have := Keeps.keep F.done a o e; rw [hwr a ha] at this; cases this
  refine codeAny_forLoop_any
    (fun k s' => ∃ i, i ≤ n ∧ k = n + 1 - i ∧ St i s'.heap ∧ Fm mg mb s₀ env (wr ++ X) (ρ' i) s' ∧ P (wr ++ X) i s') ?_ (n + 1) ⟨0, Nat.zero_le _, rfl, hst, F₂, hP0 wr s₂ k₂ hwr⟩
  intro k s' zI
  refine Classical.byContradiction fun zG => ?_
  obtain ⟨i, hi, rfl, hst', F', hp'⟩ := zI
  refine zG ?_
  clear zG
  by_cases hlt : i < n
  · refine W.item i _ _ _ hlt hst' fun u h₁ tk₁ hPu hst₁ hk₁ => ?_
    refine Classical.byContradiction fun zG => ?_
    obtain ⟨z, hz, hrd⟩ := hPv i u hPu
    refine zG ?_
    clear zG
    dsimp only
    refine wpAny_of_eq (a := ()) rfl ?_
    have F₁ : Fm mg mb s₀ env (wr ++ X) (ρ' i) { s' with heap := h₁, toks := tk₁ } :=
      F'.other hk₁ (fun a ha => List.mem_append_left _ ha) h0 (hX _ F.lX) (fun n c hc => hX _ (F.cX n c hc)) (hwS _ _ hst₁)
    have hp₁ := hP _ _ _ h₁ tk₁ hp' fun b o hb e => hk₁ b o (fun q => by
      rcases hb with hb | hb
      · exact hb (List.mem_append_left _ q)
      · exact hX _ (hD b hb).1 q) e
    refine wpAny_assign_Name (store2 (U := ⟨r, z⟩) F₁ hx (hflat _ _ _ _ _ _ hrd) fun s₃ F₃ hs₃ => ?_)
    refine Classical.byContradiction fun zG => ?_
    obtain ⟨a, ha, hs₃⟩ := hs₃
    refine zG ?_
    clear zG
    have haX : a ∈ X := by
      rcases ha with rfl | ⟨n, hn⟩
      · exact F.lX
      · exact F.cX _ _ hn
    have hp₃ : P (wr ++ X) i s₃ := by
      have hs := F₃.done
      refine Classical.byContradiction fun zG => ?_
      obtain ⟨hh, tt, e3, _⟩ := hs
      refine zG ?_
      clear zG
      refine Classical.byContradiction fun zG => ?_
      obtain ⟨hh1, tt1, e1, _⟩ := F₁.done
      refine zG ?_
      clear zG
      have := hP _ _ _ s₃.heap s₃.toks hp₁ fun b o hb e => hs₃.extBut b o (fun q => by
        subst q
        rcases hb with hb | hb
        · exact hb (List.mem_append_right _ haX)
        · rcases ha with q | ⟨n, hn⟩
          · exact (hD b hb).2.1 q
          · exact (hD b hb).2.2 n hn) e
      have e : { s' with heap := s₃.heap, toks := s₃.toks } = s₃ := by
        rw [e3]
        dsimp only at e1 ⊢
        have := congrArg Shared.gens e1; have := congrArg Shared.drawn e1; have := congrArg Shared.os e1
        simp_all
      rw [← e]; exact this
    have hst₃ : St (i + 1) s₃.heap := W.frame _ _ _ hst₁ fun b hb o e => hs₃.extBut b o (fun q => hfpX b hb (q ▸ haX)) e
    refine wpAny_mono (hstep wr i z s₃.heap _ hz s₃ (F₃.lm F.lX F.cX fun a ha => List.mem_append_right _ ha) hp₃) (fun f s₄ h₄ => ?_) fun _ _ e => e
    rcases h₄ with ⟨rfl, L₄, hp₄⟩ | ⟨rfl, hq⟩
    · exact ⟨n + 1 - (i + 1), turn_lt hlt, i + 1, hlt, rfl, W.frame _ _ _ hst₃ fun b hb o e => L₄.kb b o (hfpX b hb) e, L₄.fm, hp₄⟩
    · exact ⟨rfl, hq⟩
  · have hin : i = n := at_end hi hlt
    subst hin
    refine W.done _ _ _ hst' fun h₁ tk₁ hk₁ => ?_
    refine wpAny_execs_nil ⟨rfl, ?_⟩
    subst hn
    refine hend wr _ (F'.otherX hk₁ h0 (hX _ F.lX) (fun n c hc => hX _ (F.cX n c hc)) hX F.lX F.cX) (hP _ _ _ h₁ tk₁ hp' fun b o hb e => hk₁ b o (fun q => ?_) e)
    rcases hb with hb | hb
    · exact hb (List.mem_append_left _ q)
    · exact hX _ (hD b hb).1 q

-- for x in a list: no list of its own is written
theorem blk_for {α : Type} {x : Str} {px pos : Pos} {iter : Expr} {body : List Stmt} {r : Rep α} {xs : List α} {ρ' : Nat → Vs} (hflat : Flat r) (hh : A.handled = none) (hit : Ev prog w mg mb A env (ρ' 0) iter (rList r) xs)
    (hx : env.kindOf x = some .local ∨ (env.kindOf x = some .cell ∧ ∃ c, env.cells.lookup x = some c))
    (hstep : ∀ X' i z hb E, xs[i]? = some z → LBlk prog w mg mb A s₀ env X' ((x, ⟨r, z⟩) :: ρ' i) X hb body (fun f s' => f = .next ∧ Lm mg mb s₀ env X' (ρ' (i + 1)) X hb s') E)
    (hrest : Blk prog w mg mb A s₀ env X (ρ' xs.length) rest Q E)
    (hs : ∀ x, foldedSetIterable iter env x = pure x := by intro _; rfl) :
    Blk prog w mg mb A s₀ env X (ρ' 0) (.For (.Name x px) iter body [] pos :: rest) Q E := by
  intro s F
  refine wpAny_execs_cons (wpAny_For (wpAny_mono (hit X s F.inn E) (fun v s₁ h₁ => ?_) fun _ _ e => e) hs)
  have F₁ := F.keeps h₁.1
  refine wpAny_mono (for_core (E₁ := E) (RE := fun e s' => cameBackBy (model prog w) A env E e s') (P := fun _ _ _ => True) (Dl := []) (Qe := fun s' => Fm mg mb s₀ env X (ρ' xs.length) s') hflat (lsrc_list hh F₁.inn.here h₁.2) F₁ hx
    (fun _ h => nomatch h) (fun _ _ _ _ => trivial) (fun _ _ _ _ _ _ _ => trivial) (fun wr i z hb E hz s L _ => ?_) (fun _ _ F _ => F)) (fun it s₂ h₂ => codeAny_mono h₂ fun r s' h' => ?_) fun _ _ e => e
  · exact wpAny_mono (hstep (wr ++ X) i z hb E hz s L) (fun f s' h => .inl ⟨h.1, h.2, trivial⟩) fun _ _ e => e
  · cases r with
    | ok f => obtain ⟨rfl, F'⟩ := h'; exact hrest s' F'
    | error e => exact h'
end
end Mine.Internal
end
section
open PySem PySem.Calls
set_option maxRecDepth 100000
namespace Mine.Internal
theorem Paired.append {α β : Type} {F : α → β → Prop} {l : List α} {m : List β} (p : Paired F l m) : ∀ {l' : List α} {m' : List β}, Paired F l' m' → Paired F (l ++ l') (m ++ m') := by
  induction p with
  | nil => exact fun q => q
  | cons h _ ih => exact fun q => .cons h (ih q)
theorem Paired.take {α β : Type} {F : α → β → Prop} {l : List α} {m : List β} (p : Paired F l m) : ∀ k, Paired F (l.take k) (m.take k) := by
  induction p with
  | nil => intro k; simp; exact .nil
  | cons h _ ih => intro k; cases k with
    | zero => exact .nil
    | succ k => exact .cons h (ih k)
theorem Paired.drop {α β : Type} {F : α → β → Prop} {l : List α} {m : List β} (p : Paired F l m) : ∀ k, Paired F (l.drop k) (m.drop k) := by
  induction p with
  | nil => intro k; simp; exact .nil
  | cons h t ih => intro k; cases k with
    | zero => exact .cons h t
    | succ k => exact ih k
section
variable {prog : Program} {w : World} {mg mb : Str → Option Value} {A : Around} {env : Env} {ρ : Vs}

theorem op_list {α : Type} {r : Rep α} {xs ys : List α} (hz : xs.length + ys.length ≤ sizeLine) : ∀ X s a b, Hr X s → (rList r).rd X s.heap a xs → (rList r).rd X s.heap b ys → Sv prog w A (binaryOp .Add a b) X s (rList r) (xs ++ ys) := by
  intro X s a b hX ⟨l, vs, e, hl, ho, hp⟩ ⟨l', ws, e', hl', ho', hp'⟩ E
  subst e e'
  refine Classical.byContradiction fun zG => ?_
  obtain ⟨⟨cls, dd, data, sl⟩, ho, hc, n, hd⟩ := id ho
  refine zG ?_
  clear zG
  refine Classical.byContradiction fun zG => ?_
  obtain ⟨⟨cls2, dd2, data2, sl2⟩, ho2, hc2, n2, hd2⟩ := id ho'
  refine zG ?_
  clear zG
  simp only at hc hd hc2 hd2
  subst hc hd hc2 hd2
  have e : vs.toArray ++ ws.toArray = (vs ++ ws).toArray := by simp
  have hz' : vs.toArray.size + ws.toArray.size ≤ sizeLine := by
    have h1 := hp.length; have h2 := hp'.length
    simp; lia -abstractProof
  refine concat_meets ⟨_, ho, rfl⟩ ⟨_, ho2, rfl⟩ noFill_list_add seq_list_add PySem.F.slot_list_add PySem.F.entry_list_add (PySem.F.args_list_add_2 _ _) (PyProof.Rows.list_addW l l' vs.toArray ws.toArray n n2 dd dd2 sl sl2 hz') ⟨ho, ho2, ?_⟩
  rw [e]
  refine ⟨Keeps.of (keep_push _ _), _, vs ++ ws, rfl, not_in_X hX, ⟨_, Heap.get?_push_size _ rfl, rfl, _, rfl⟩, ?_⟩
  exact Paired.append (Paired.imp hp fun _ _ q => r.mono q (.of_keep (keep_push _ _))) (Paired.imp hp' fun _ _ q => r.mono q (.of_keep (keep_push _ _)))

theorem subTail {s : Shared} {E : Value → Shared → Prop} {value slice : Expr} {o i : Value} {T id : String} {vs : List Value} {Q : Value → Shared → Prop} (hT : s.TypeIs o T)
    (hl : typeLookup (.type T) "__getitem__" = pure (some (.builtin id))) (h : wpAny (model prog w) A (getItem o i) Q E s) (hs : subscripted slice false o i = operate vs (getItem o i)) :
    wpAny (model prog w) A (PyProof.Rows.subscriptTail value slice o i) Q E s := by
  unfold PyProof.Rows.subscriptTail
  refine wpAny_bind ?_
  rw [getitemInPython_of_ne hT.not_modules]
  refine wpAny_bind (wpAny_specialOf hT hl ?_)
  have fin : wpAny (model prog w) A (subscripted slice false o i) (fun r s₃ => wpAny (model prog w) A (letTemporaryGo value o r >>= fun _ => pure r) Q E s₃) E s := by
    rw [hs]
    exact wpAny_operating (wpAny_mono h (fun r s₃ h₃ => wpAny_bind (wpAny_letTemporaryGo (wpAny_pure h₃))) fun _ _ x => x)
  first
    | exact wpAny_pure (wpAny_bind fin)
    | exact wpAny_bind (wpAny_pure (wpAny_bind fin))
    | exact wpAny_bind fin

theorem ev_item {α : Type} {value slice : Expr} {pos : Pos} {r : Rep α} {xs : List α} {k : Int} {z : α} (h1 : Ev prog w mg mb A env ρ value (rList r) xs) (h2 : Ev prog w mg mb A env ρ slice rInt k)
    (h0 : 0 ≤ k) (hfit : k < 2 ^ 63) (hz : xs[k.toNat]? = some z)
    (hs : ∀ o u, subscripted slice false (.ref o) (.int k u) = operate [.ref o, .int k u] (getItem (.ref o) (.int k u)) := by intro _ _; with_unfolding_all rfl) :
    Ev prog w mg mb A env ρ (.Subscript value slice pos) r z := by
  refine @ev_sub _ _ _ _ _ _ _ _ _ _ _ _ _ _ _ _ _ _ _ h1 h2 ?_
  rintro X s a b hX ⟨l, vs, rfl, hl, ho, hp⟩ ⟨u, rfl⟩ E
  refine Classical.byContradiction fun zG => ?_
  obtain ⟨v, hv, hr⟩ := Paired.get' hp hz
  refine zG ?_
  clear zG
  have hl' : s.heap.IsList l vs.toArray := ho
  exact subTail hl'.typeIs F.slot_list_getitem.lookup (wpAny_getItem_list hl' h0 hfit (by simpa using hv) ⟨Keeps.refl _, hr⟩) (hs l u)

theorem ev_itemT {α : Type} {value slice : Expr} {pos : Pos} {r : Rep α} {xs : List α} {k : Int} {z : α} (h1 : Ev prog w mg mb A env ρ value (rTup r) xs) (h2 : Ev prog w mg mb A env ρ slice rInt k)
    (h0 : 0 ≤ k) (hfit : k < 2 ^ 63) (hz : xs[k.toNat]? = some z)
    (hs : ∀ o u, subscripted slice false (.ref o) (.int k u) = operate [.ref o, .int k u] (getItem (.ref o) (.int k u)) := by intro _ _; with_unfolding_all rfl) :
    Ev prog w mg mb A env ρ (.Subscript value slice pos) r z := by
  refine @ev_sub _ _ _ _ _ _ _ _ _ _ _ _ _ _ _ _ _ _ _ h1 h2 ?_
  rintro X s a b hX ⟨l, vs, rfl, hl, ho, hp⟩ ⟨u, rfl⟩ E
  refine Classical.byContradiction fun zG => ?_
  obtain ⟨v, hv, hr⟩ := Paired.get' hp hz
  refine zG ?_
  clear zG
  have hlt : k.toNat < vs.length := by
    have := hp.length; have := (List.getElem?_eq_some_iff.mp hz).1; lia -abstractProof
  exact subTail (PyProof.Rows.IsTup.typeIs (items := vs.toArray) ho) F.slot_tuple_getitem.lookup (PyProof.Rows.getItem_tuple (items := vs.toArray) (j := k.toNat) ho (by lia -abstractProof) hfit (by unfold seqIndex?; simp; lia -abstractProof) (by simpa using hv) ⟨Keeps.refl _, hr⟩) (hs l u)

theorem ev_len {α : Type} {r : Rep α} {xs : List α} (hfit : xs.length < 2 ^ 63) : ConB prog w A (.builtin "len") [⟨rList r, xs⟩] rInt xs.length := by
  intro X s vs hX hv E
  cases hv with
  | @cons v _ vs _ hv hvs =>
    cases hvs
    refine Classical.byContradiction fun zG => ?_
    obtain ⟨l, ws, rfl, hl, ho, hp⟩ := hv
    refine zG ?_
    clear zG
    have e : ws.length = xs.length := hp.length
    refine call_len_list (items := ws.toArray) ho (by simp; lia -abstractProof) ⟨Keeps.tok _ _, s.toks + 1, ?_⟩
    simp [e]

theorem ev_cut {α : Type} {value : Expr} {lo hi : Option Expr} {p pos : Pos} {r : Rep α} {xs ys : List α} {x y : Option Int} (h1 : Ev prog w mg mb A env ρ value (rList r) xs) (h2 : EvP prog w mg mb A env ρ lo x) (h3 : EvP prog w mg mb A env ρ hi y)
    (hc : ∀ {F : Value → α → Prop} {vs : List Value}, Paired F vs xs → Paired F (slicePick vs.toArray x y none).toList ys) (hlen : xs.length ≤ sizeLine)
    :
    Ev prog w mg mb A env ρ (.Subscript value (.Slice lo hi none p) pos) (rList r) ys := by
  refine @ev_sub _ _ _ _ _ _ _ _ _ _ _ _ _ _ _ _ _ _ _ h1 (@ev_slice _ _ _ _ _ _ _ _ _ _ _ _ h2 h3) ?_
  rintro X s a b hX ⟨l, vs, rfl, hl, ho, hp⟩ ⟨u, vl, vu, rfl, hu, hsl, p1, p2⟩ E
  have hl' : s.heap.IsList l vs.toArray := ho
  refine subTail hl'.typeIs F.slot_list_getitem.lookup (wpAny_getItem_list_slice hl' hsl p1 p2 .none (by simp) ?_ (by have := hp.length; simp; lia -abstractProof)) (vs := [.ref u, .ref l]) rfl
  refine ⟨Keeps.of (keep_push _ _), _, (slicePick vs.toArray x y none).toList, rfl, not_in_X hX, ⟨_, Heap.get?_push_size _ rfl, rfl, _, rfl⟩, ?_⟩
  exact hc (Paired.imp hp fun _ _ q => r.mono q (.of_keep (keep_push _ _)))

theorem cut_upto {α : Type} {xs : List α} (k : Nat) {F : Value → α → Prop} {vs : List Value} (h : Paired F vs xs) : Paired F (slicePick vs.toArray none (some (k : Int)) none).toList (xs.take k) := by
  rw [slicePick_upto']; simpa using Paired.take h k
theorem run_eq {α : Type} (l : List α) (a b n : Nat) (hn : l.length = n) : (l.drop (min a n)).take (min b n - min a n) = (l.drop a).take (b - a) := by
  rcases Nat.le_total a n with h | h
  · rw [Nat.min_eq_left h]
    rcases Nat.le_total b n with h' | h'
    · rw [Nat.min_eq_left h']
    · rw [Nat.min_eq_right h', List.take_of_length_le (by simp; lia -abstractProof), List.take_of_length_le (by simp; lia -abstractProof)]
  · rw [Nat.min_eq_right h, List.drop_of_length_le (by lia -abstractProof), List.drop_of_length_le (by lia -abstractProof)]; simp
theorem cut_run {α : Type} {xs : List α} (a b : Nat) {F : Value → α → Prop} {vs : List Value} (h : Paired F vs xs) : Paired F (slicePick vs.toArray (some (a : Int)) (some (b : Int)) none).toList ((xs.drop a).take (b - a)) := by
  rw [slicePick_plain]
  simp only [Option.elim, clipAt_nat]
  rw [run_eq _ _ _ _ (by simp)]
  simpa using Paired.take (Paired.drop h a) (b - a)

theorem log2_small {n : Nat} (h : n < 1000) : n.log2 < 9000 := by
  by_cases e : n = 0
  · subst e; decide
  · exact Nat.lt_of_lt_of_le ((Nat.log2_lt e).mpr (Nat.lt_of_lt_of_le h (by decide : 1000 ≤ 2 ^ 10))) (by decide)
theorem ev_mod {l rr : Expr} {pos : Pos} {x y : Int} (h1 : Ev prog w mg mb A env ρ l rInt x) (h2 : Ev prog w mg mb A env ρ rr rInt y) (hy : 0 < y) : Ev prog w mg mb A env ρ (.BinOp l .Mod rr pos) rInt (x % y) :=
  @ev_binop _ _ _ _ _ _ _ _ _ _ _ _ _ _ _ _ _ _ _ _ h1 h2 (op_int fun s t u Q E h => AutoIntOps.mod_1 (by simp; lia -abstractProof) (by rw [Int.fmod_eq_emod_of_nonneg _ (by lia -abstractProof)]; exact h _))
theorem ev_fdiv {l rr : Expr} {pos : Pos} {x y : Int} (h1 : Ev prog w mg mb A env ρ l rInt x) (h2 : Ev prog w mg mb A env ρ rr rInt y) (hy : 0 < y) (hb : y < 1000) : Ev prog w mg mb A env ρ (.BinOp l .FloorDiv rr pos) rInt (x / y) :=
  @ev_binop _ _ _ _ _ _ _ _ _ _ _ _ _ _ _ _ _ _ _ _ h1 h2 (op_int fun s t u Q E h => AutoIntOps.floordiv_1 (by simp; lia -abstractProof) (by rw [PyProof.noPylong_of_log2 (log2_small (by lia -abstractProof))]; exact Bool.false_ne_true) (by rw [Int.fdiv_eq_ediv_of_nonneg _ (by lia -abstractProof)]; exact h _))
theorem ev_sub_int {l rr : Expr} {pos : Pos} {x y : Int} (h1 : Ev prog w mg mb A env ρ l rInt x) (h2 : Ev prog w mg mb A env ρ rr rInt y) : Ev prog w mg mb A env ρ (.BinOp l .Sub rr pos) rInt (x - y) :=
  @ev_binop _ _ _ _ _ _ _ _ _ _ _ _ _ _ _ _ _ _ _ _ h1 h2 (op_int fun s t u Q E h => AutoIntOps.sub_0 (h _))
theorem ev_add_int {l rr : Expr} {pos : Pos} {x y : Int} (h1 : Ev prog w mg mb A env ρ l rInt x) (h2 : Ev prog w mg mb A env ρ rr rInt y) : Ev prog w mg mb A env ρ (.BinOp l .Add rr pos) rInt (x + y) :=
  @ev_binop _ _ _ _ _ _ _ _ _ _ _ _ _ _ _ _ _ _ _ _ h1 h2 (op_int fun s t u Q E h => AutoIntOps.add_0 (h _))
end
end Mine.Internal
end
section
open PySem PySem.Calls
set_option maxRecDepth 100000
namespace Mine.Internal
noncomputable def isStar (e : Expr) : Bool := decide (xT e = 4)
noncomputable def xSpec (e : Expr) (n : Nat) : Prop := if n = 1 then ∃ j p, e = .Constant (xC e) j p else if n = 2 then ∃ p, e = .List (xX e) p else if n = 3 then ∃ j p, e = .Tuple (xX e) j p else True
theorem xSpec_all (e : Expr) : xSpec e (xT e) := by
  cases e <;> first | exact True.intro | exact ⟨_, _, rfl⟩ | exact ⟨_, rfl⟩
theorem starEach_plain (env : Env) : ∀ es : List Expr, (∀ e ∈ es, isStar e = false) → starEach es env = es.map fun e => (false, eval e env)
  | [], _ => rfl
  | e :: es, h => by
    have ih := starEach_plain env es fun e' he => h e' (List.mem_cons_of_mem _ he)
    have hs := h e List.mem_cons_self
    rw [List.map_cons, ← ih]
    cases e <;> first | rfl | exact Bool.noConfusion (show true = false from hs)
theorem backTo_plain (env : Env) (pos : Pos) (es : List Expr) (h : ∀ e ∈ es, isStar e = false) : backTo pos (starEach es env) = (es.map fun e => eval e env).map fun t => (false, t) := by
  rw [starEach_plain env es h, backTo, List.map_map, List.map_map]
  rfl

theorem cInt_some {c : Const} {k : Int} (h : cInt c = some k) : c = .int k := by
  cases c <;> cases h <;> rfl
theorem cStr_some {c : Const} {x : Str} (h : cStr c = some x) : c = .str x := by
  cases c <;> cases h <;> rfl
noncomputable def litCon {α : Type} (f : Const → Option α) (e : Expr) : Option α := if xT e = 1 then f (xC e) else none
theorem litCon_some {α : Type} {f : Const → Option α} {e : Expr} {x : α} (h : litCon f e = some x) : (∃ j p, e = .Constant (xC e) j p) ∧ f (xC e) = some x := by
  unfold litCon at h
  by_cases hc : xT e = 1
  · rw [if_pos hc] at h
    have sp := xSpec_all e
    rw [hc] at sp
    exact ⟨sp, h⟩
  · rw [if_neg hc] at h; cases h
noncomputable def litInt : Expr → Option Int := litCon cInt
theorem litInt_some {e : Expr} {k : Int} (h : litInt e = some k) : ∃ j p, e = .Constant (.int k) j p := by
  refine Classical.byContradiction fun zG => ?_
  obtain ⟨⟨j, p, he⟩, hc⟩ := litCon_some h
  refine zG ?_
  clear zG
  rw [cInt_some hc] at he
  exact ⟨j, p, he⟩
noncomputable def litEach {α : Type} (f : Expr → Option α) : List Expr → Option (List α)
  | [] => some []
  | e :: es => (f e).bind fun x => (litEach f es).map fun xs => x :: xs
noncomputable def litList {α : Type} (f : Expr → Option α) (e : Expr) : Option (List α) := if xT e = 2 then litEach f (xX e) else none
noncomputable def litTup {α : Type} (f : Expr → Option α) (e : Expr) : Option (List α) := if xT e = 3 then litEach f (xX e) else none

section
variable {prog : Program} {w : World} {mg mb : Str → Option Value} {A : Around} {env : Env} {ρ : Vs}
-- a literal's value
noncomputable def Lits {α : Type} (prog : Program) (w : World) (mg mb : Str → Option Value) (A : Around) (env : Env) (ρ : Vs) (f : Expr → Option α) (r : Rep α) : Prop := ∀ e x, f e = some x → isStar e = false ∧ Ev prog w mg mb A env ρ e r x
theorem lits_int : Lits prog w mg mb A env ρ litInt rInt := by
  intro e x h
  refine Classical.byContradiction fun zG => ?_
  obtain ⟨j, p, rfl⟩ := litInt_some h
  refine zG ?_
  clear zG
  exact ⟨rfl, ev_int⟩
theorem lits_each {α : Type} {f : Expr → Option α} {r : Rep α} (hf : Lits prog w mg mb A env ρ f r) : ∀ es xs, litEach f es = some xs → (∀ e ∈ es, isStar e = false) ∧ ArgsEv prog w mg mb A env ρ (es.map fun e => eval e env) (xs.map fun x => ⟨r, x⟩)
  | [], xs, h => by cases h; exact ⟨fun _ h => absurd h List.not_mem_nil, .nil⟩
  | e :: es, xs, h => by
    refine Classical.byContradiction fun zG => ?_
    obtain ⟨x, hx, h'⟩ := Option.bind_eq_some_iff.mp (show (f e).bind (fun x => (litEach f es).map fun xs => x :: xs) = some xs from h)
    refine zG ?_
    clear zG
    refine Classical.byContradiction fun zG => ?_
    obtain ⟨xs', hxs, e'⟩ := Option.map_eq_some_iff.mp h'
    refine zG ?_
    clear zG
    rw [← e']
    obtain ⟨h1, h2⟩ := lits_each hf es xs' hxs
    obtain ⟨h3, h4⟩ := hf e x hx
    exact ⟨fun e' he => by
      rcases List.mem_cons.mp he with rfl | he
      · exact h3
      · exact h1 e' he, .cons (U := ⟨r, x⟩) h4 h2⟩
noncomputable def Short {α : Type} (f : Expr → Option (List α)) (e : Expr) : Option (List α) := (f e).bind fun l => if l.length ≤ 1000 then some l else none
theorem short_some {α : Type} {f : Expr → Option (List α)} {e : Expr} {x : List α} (h : Short f e = some x) : f e = some x ∧ x.length ≤ 1000 := by
  refine Classical.byContradiction fun zG => ?_
  obtain ⟨l, h1, h2⟩ := Option.bind_eq_some_iff.mp h
  refine zG ?_
  clear zG
  by_cases hl : l.length ≤ 1000
  · rw [if_pos hl] at h2; cases h2; exact ⟨h1, hl⟩
  · rw [if_neg hl] at h2; cases h2
theorem lits_list {α : Type} {f : Expr → Option α} {r : Rep α} (hf : Lits prog w mg mb A env ρ f r) : Lits prog w mg mb A env ρ (Short (litList f)) (rList r) := by
  intro e x h
  obtain ⟨hl, hlen⟩ := short_some h
  unfold litList at hl
  by_cases hc : xT e = 2
  · rw [if_pos hc] at hl
    have sp := xSpec_all e
    rw [hc] at sp
    obtain ⟨p, he⟩ := (show ∃ p, e = .List (xX e) p from sp)
    obtain ⟨h1, h2⟩ := lits_each hf (xX e) x hl
    rw [he]
    exact ⟨rfl, @ev_list _ _ _ _ _ _ _ _ _ _ ((xX e).map fun e => eval e env) _ _ (backTo_plain env p (xX e) h1) h2 (Nat.le_trans hlen (by decide))⟩
  · rw [if_neg hc] at hl; cases hl
theorem lits_tup {α : Type} {f : Expr → Option α} {r : Rep α} (hf : Lits prog w mg mb A env ρ f r) : Lits prog w mg mb A env ρ (Short (litTup f)) (rTup r) := by
  intro e x h
  obtain ⟨hl, hlen⟩ := short_some h
  unfold litTup at hl
  by_cases hc : xT e = 3
  · rw [if_pos hc] at hl
    have sp := xSpec_all e
    rw [hc] at sp
    refine Classical.byContradiction fun zG => ?_
    obtain ⟨k, p, he⟩ := (show ∃ k p, e = .Tuple (xX e) k p from sp)
    refine zG ?_
    clear zG
    obtain ⟨h1, h2⟩ := lits_each hf (xX e) x hl
    rw [he]
    exact ⟨rfl, @ev_tup _ _ _ _ _ _ _ _ _ (k) _ ((xX e).map fun e => eval e env) _ _ (backTo_plain env p (xX e) h1) h2 (Nat.le_trans hlen (by decide))⟩
  · rw [if_neg hc] at hl; cases hl
theorem ev_ints {e : Expr} {l : List Int} (h : Short (litList litInt) e = some l) : Ev prog w mg mb A env ρ e (rList rInt) l := (lits_list lits_int e l h).2
theorem ev_intsT {e : Expr} {l : List (List Int)} (h : Short (litTup (Short (litList litInt))) e = some l) : Ev prog w mg mb A env ρ e (rTup (rList rInt)) l := (lits_tup (lits_list lits_int) e l h).2
theorem ev_intsTT {e : Expr} {l : List (List (List Int))} (h : Short (litTup (Short (litList (Short (litList litInt))))) e = some l) : Ev prog w mg mb A env ρ e (rTup (rList (rList rInt))) l := (lits_tup (lits_list (lits_list lits_int)) e l h).2
end
end Mine.Internal
end
section
open PySem PySem.Calls
set_option maxRecDepth 100000
namespace Mine.Internal
noncomputable def spell : List (List (List Int)) := [[[47], [47, 46, 47]], [[1], [94, 65]], [[129], [33, 94, 65], [33, 1]], [[175], [33, 47]], [[174], [33, 46]], [[127], [94, 63]], [[97]]]
noncomputable def endsL : List (List Int) := [[], [98], [47, 98], [33], [47, 46, 46]]
noncomputable def cStep (p : List Int × Int) (kind : Int) : List Int × Int := (p.1 ++ (spell.getD kind.toNat []).getD (p.2 % 6 % ((spell.getD kind.toNat []).length : Int)).toNat [], p.2 / 6)
noncomputable def cRow (row : List Int) (draw : Int) : List Int := row.take (row.length - (draw % 4).toNat)
noncomputable def cStart (draw : Int) : List Int := if draw % 7 = 6 then [47] else []
noncomputable def codesF (row : List Int) (draw : Int) : List Int := ((cRow row draw).foldl cStep (cStart draw, draw / 4)).1 ++ endsL.getD (draw % 5).toNat []

theorem beq_eq_decide (a b : Int) : (a == b) = decide (a = b) := by by_cases h : a = b <;> simp [h]
theorem spell_len : ∀ i, i < 7 → 1 ≤ ((spell.getD i []).length : Int) ∧ ((spell.getD i []).length : Int) ≤ 3 := by decide
theorem spell_get : ∀ i, i < 7 → spell[i]? = some (spell.getD i []) := by decide
theorem spell_item : ∀ i, i < 7 → ∀ j, j < (spell.getD i []).length → (spell.getD i [])[j]? = some ((spell.getD i []).getD j []) ∧ ((spell.getD i []).getD j []).length ≤ 3 := by decide
theorem ends_get : ∀ i, i < 5 → endsL[i]? = some (endsL.getD i []) ∧ (endsL.getD i []).length ≤ 3 := by decide

theorem spell_at {k : Nat} (hk : k < 7) (m : Int) : 0 ≤ m % ((spell.getD k []).length : Int) ∧ m % ((spell.getD k []).length : Int) < 2 ^ 63 ∧ (m % ((spell.getD k []).length : Int)).toNat < (spell.getD k []).length ∧ 0 < ((spell.getD k []).length : Int) := by
  obtain ⟨h1, h2⟩ := spell_len k hk
  have h3 := Int.emod_nonneg m (show ((spell.getD k []).length : Int) ≠ 0 from fun e => by rw [e] at h1; exact absurd h1 (by decide))
  have h4 := Int.emod_lt_of_pos m (show 0 < ((spell.getD k []).length : Int) from Int.lt_of_lt_of_le (show (0 : Int) < 1 by decide) h1)
  exact ⟨h3, Int.lt_trans (Int.lt_of_lt_of_le h4 h2) (by decide), (Int.toNat_lt h3).mpr h4, Int.lt_of_lt_of_le (show (0 : Int) < 1 by decide) h1⟩
theorem cStep_len (p : List Int × Int) (k : Int) : (cStep p k).1.length ≤ p.1.length + 3 := by
  unfold cStep
  rw [List.length_append]
  have : ∀ (l : List (List Int)), (∀ x ∈ l, x.length ≤ 3) → ∀ j, (l.getD j []).length ≤ 3 := fun l hl j => by
    rw [List.getD_eq_getElem?_getD]
    cases e : l[j]? with
    | none => simp
    | some x => exact hl x (List.mem_of_getElem? e)
  have h2 : ∀ i, ∀ x ∈ spell.getD i [], x.length ≤ 3 := fun i => by
    rw [List.getD_eq_getElem?_getD]
    cases e : spell[i]? with
    | none => simp
    | some y =>
      have : ∀ y ∈ spell, ∀ x ∈ y, x.length ≤ 3 := by decide
      exact this y (List.mem_of_getElem? e)
  have := this _ (h2 k.toNat) (p.2 % 6 % ((spell.getD k.toNat []).length : Int)).toNat
  lia -abstractProof
theorem fold_len : ∀ (l : List Int) (p : List Int × Int), (l.foldl cStep p).1.length ≤ p.1.length + 3 * l.length
  | [], p => by simp
  | k :: l, p => by
    have h1 := fold_len l (cStep p k)
    have h2 := cStep_len p k
    simp only [List.foldl_cons, List.length_cons]
    lia -abstractProof
theorem cStart_len (draw : Int) : (cStart draw).length ≤ 1 := by unfold cStart; split <;> simp
theorem cRow_len (row : List Int) (draw : Int) : (cRow row draw).length ≤ row.length := List.length_take_le' ..
theorem codes_fit {row : List Int} {draw : Int} {p : List Int × Int} {m n : Nat} (hl : row.length ≤ 1000) (hm : m ≤ (cRow row draw).length) (h : p.1.length ≤ (cStart draw).length + 3 * m) (hn : n ≤ 3) : p.1.length + n ≤ 2 ^ 24 := by
  have h2 := cStart_len draw
  have h3 := cRow_len row draw
  lia -abstractProof

theorem sub_nil {ρ₁ : Vs} : ∀ y (W : V), List.lookup y ([] : Vs) = some W → ρ₁.lookup y = some W := fun _ _ h => nomatch h
theorem sub_cons {ρ₁ ρ₂ : Vs} {x : Str} {U : V} (h : ρ₁.lookup x = some U) (t : ∀ y W, ρ₂.lookup y = some W → ρ₁.lookup y = some W) : ∀ y W, List.lookup y ((x, U) :: ρ₂) = some W → ρ₁.lookup y = some W := fun y W q => by
  by_cases e : y = x
  · subst e; rw [lookup_cons_self] at q; cases q; exact h
  · rw [lookup_cons_ne e] at q; exact t y W q
section
variable {prog : Program} {w : World} {mg mb : Str → Option Value} {A : Around}

noncomputable def spellE : Expr := ex (sX (st (defAt 20).body 0)) 0
noncomputable def spellP : Pos := xP (ex (sX (st (defAt 20).body 0)) 1)
noncomputable def spellQ : Pos := sP (st (defAt 20).body 0)
theorem spell_body : (defAt 20).body = .Assign [.Name "spellings" spellP] spellE spellQ :: (defAt 20).body.drop 1 := rfl
theorem spell_swap (env : Env) : swapsWith spellE (some (.Name "spellings" spellP)) spellQ.line env = pure false := rfl
noncomputable def endsR : Expr := ex (sX (st (defAt 20).body 4)) 0
noncomputable def endsX : Expr × Expr × Expr × Pos × Pos × Pos := (ex (xX endsR) 0, ex (xX (ex (xX endsR) 1)) 0, ex (xX (ex (xX endsR) 1)) 1, xP (ex (xX endsR) 1), xP endsR, sP (st (defAt 20).body 4))
noncomputable def endsE : Expr := endsX.2.1
theorem ends_body : (defAt 20).body.drop 4 = [.Return (some (.BinOp endsX.1 .Add (.Subscript endsE endsX.2.2.1 endsX.2.2.2.1) endsX.2.2.2.2.1)) endsX.2.2.2.2.2] := rfl
theorem ev_ends {env : Env} {ρ : Vs} : Ev prog w mg mb A env ρ endsE (rTup (rList rInt)) endsL := @ev_intsT prog w mg mb A env ρ endsE endsL rfl
theorem ev_spell {env : Env} {ρ : Vs} : Ev prog w mg mb A env ρ spellE (rTup (rList (rList rInt))) spell := @ev_intsTT prog w mg mb A env ρ spellE spell rfl

set_option maxHeartbeats 1000000 in
theorem con_codes {n : Nat} (hR : Rm (n + 1) A) (row : List Int) (draw : Int) (hrow : ∀ x ∈ row, 0 ≤ x ∧ x < 7) (hl0 : 3 ≤ row.length) (hl : row.length ≤ 1000) (h0 : 0 ≤ draw) :
    Con prog w mg mb A 20 [⟨rList rInt, row⟩, ⟨rInt, draw⟩] (rList rInt) (codesF row draw) := by
  refine con2 (k := 20) (p := "row") (p' := "draw") (by decide) hR (by decide) (fun v v' pm cd doc => rfl) (.inl rfl) (.inl rfl) (fun L cells q f cc fr X₁ s₀ hcl hR' E => ?_)
  rw [spell_body]
  have hsp : Ev prog w mg mb (A.deeper (envK 20 L cells q f cc fr)) (envK 20 L cells q f cc fr) [("row", ⟨rList rInt, row⟩), ("draw", ⟨rInt, draw⟩)] spellE (rTup (rList (rList rInt))) spell := @ev_spell prog w mg mb _ _ _
  have hsw := spell_swap (envK 20 L cells q f cc fr)
  generalize spellE = se at hsp hsw
  revert se; refine held ?_; intro se hsp hsw
  refine @blk_assign _ _ _ _ _ _ _ _ _ _ _ _ _ _ _ _ _ (rTup (rList (rList rInt))) (spell) hsp (.inl rfl) ?_ hsw
  refine @blk_assign _ _ _ _ _ _ _ _ _ _ _ _ _ _ _ _ _ (rList rInt) (cStart draw) (@ev_ifexp _ _ _ _ _ _ _ _ _ _ _ _ _ _ (decide (draw % 7 = 6)) (@tst_cmp _ _ _ _ _ _ _ _ _ _ _ _ _ _ _ _ _ _ (@ev_mod _ _ _ _ _ _ _ _ _ _ _ _ (@ev_name _ _ _ _ _ _ _ _ _ _ _ _ rfl (by decide) (by decide)) ev_int (by decide)) ev_int (cmp_int fun s t u Q E h => PyProof.Rows.eq_int (by rw [beq_eq_decide]; exact h)) (by with_unfolding_all rfl)) (fun hc => ?_) (fun hc => ?_)) (.inl rfl) ?_ (by rfl)
  · have e : cStart draw = [47] := if_pos (of_decide_eq_true hc)
    rw [e]; exact @ev_ints _ _ _ _ _ _ _ _ _ rfl
  · have e : cStart draw = [] := if_neg (of_decide_eq_false hc)
    rw [e]; exact @ev_ints _ _ _ _ _ _ _ _ _ rfl
  refine @blk_assign _ _ _ _ _ _ _ _ _ _ _ _ _ _ _ _ _ _ _ (@ev_fdiv _ _ _ _ _ _ _ _ _ _ _ _ (@ev_name _ _ _ _ _ _ _ _ _ _ _ _ rfl (by decide) (by decide)) ev_int (by decide) (by decide)) (.inl rfl) ?_ (by rfl)
  have hm4 : 0 ≤ draw % 4 ∧ draw % 4 < 4 := ⟨Int.emod_nonneg _ (by decide), Int.emod_lt_of_pos _ (by decide)⟩
  have hm5 : 0 ≤ draw % 5 ∧ draw % 5 < 5 := ⟨Int.emod_nonneg _ (by decide), Int.emod_lt_of_pos _ (by decide)⟩
  refine @blk_for _ _ _ _ _ _ _ _ _ _ _ _ ("kind") _ _ _ _ (rInt) (cRow row draw) (fun i => [("rest", ⟨rInt, (((cRow row draw).take i).foldl cStep (cStart draw, draw / 4)).2⟩), ("codes", ⟨rList rInt, (((cRow row draw).take i).foldl cStep (cStart draw, draw / 4)).1⟩), ("spellings", ⟨rTup (rList (rList rInt)), spell⟩), ("row", ⟨rList rInt, row⟩), ("draw", ⟨rInt, draw⟩)]) (flat_flat _) hR'.none ?_ (.inl rfl) ?_ ?_ (by intro _; rfl)
  · refine @ev_cut _ _ _ _ _ _ _ _ _ _ _ _ _ _ _ _ (none) (some ((row.length - (draw % 4).toNat : Nat) : Int)) (@ev_name _ _ _ _ _ _ _ _ _ _ _ _ rfl (by decide) (by decide)) evp_none (@evp_some _ _ _ _ _ _ _ _ _ ?_) (fun h => cut_upto _ h) (Nat.le_trans hl (by decide))
    have e : ((row.length - (draw % 4).toNat : Nat) : Int) = (row.length : Int) - draw % 4 := by lia -abstractProof
    rw [e]
    exact @ev_sub_int _ _ _ _ _ _ _ _ _ _ _ _ (@ev_bcall _ _ _ _ _ _ _ _ ("len") _ _ _ _ ([_]) _ _ _ (by decide) (by decide +kernel) rfl rfl (.cons (@ev_name _ _ _ _ _ _ _ _ _ _ _ _ rfl (by decide) (by decide)) .nil) (@ev_len _ _ _ _ _ _ (Nat.lt_of_le_of_lt hl (by decide))) (by decide)) (@ev_mod _ _ _ _ _ _ _ _ _ _ _ _ (@ev_name _ _ _ _ _ _ _ _ _ _ _ _ rfl (by decide) (by decide)) ev_int (by decide))
  · intro X' i z hb E hz
    have hzr : z ∈ row := List.mem_of_mem_take (List.mem_of_getElem? hz)
    obtain ⟨hz0, hz7⟩ := hrow z hzr
    have hk : z.toNat < 7 := (Int.toNat_lt hz0).mpr hz7
    have htk : (cRow row draw).take (i + 1) = (cRow row draw).take i ++ [z] := by rw [List.take_add_one, hz]; rfl
    have hfold : ((cRow row draw).take (i + 1)).foldl cStep (cStart draw, draw / 4) = cStep (((cRow row draw).take i).foldl cStep (cStart draw, draw / 4)) z := by rw [htk, List.foldl_append]; rfl
    have hlen := fold_len ((cRow row draw).take i) (cStart draw, draw / 4)
    have hlen3 : ((cRow row draw).take i).length ≤ (cRow row draw).length := List.length_take_le' ..
    try dsimp only
    generalize hp : ((cRow row draw).take i).foldl cStep (cStart draw, draw / 4) = p at hfold hlen
    revert p; refine held ?_; intro p hp hfold hlen
    refine Classical.byContradiction fun zG => ?_
    obtain ⟨hj0, hjl, hj, hjp⟩ := spell_at hk (p.2 % 6)
    refine zG ?_
    clear zG
    obtain ⟨hi1, hi2⟩ := spell_item _ hk _ hj
    rw [hfold]
    refine @lb_assign _ _ _ _ _ _ _ _ _ _ _ _ _ _ _ _ _ _ _ _ ((cStep p z).1) (@ev_binop _ _ _ _ _ _ _ _ _ _ _ _ _ _ _ _ _ _ _ _ (@ev_name _ _ _ _ _ _ _ _ _ _ _ _ rfl (by decide) (by decide)) (@ev_item _ _ _ _ _ _ _ _ _ _ _ _ _ (p.2 % 6 % ((spell.getD z.toNat []).length : Int)) _ (@ev_itemT _ _ _ _ _ _ _ _ _ _ _ _ _ _ _ (@ev_name _ _ _ _ _ _ _ _ _ _ _ _ rfl (by decide) (by decide)) (@ev_name _ _ _ _ _ _ _ _ _ _ _ _ rfl (by decide) (by decide)) hz0 (Int.lt_trans hz7 (by decide)) (spell_get _ hk) (by intro _ _; with_unfolding_all rfl)) (@ev_mod _ _ _ _ _ _ _ _ _ _ _ _ (@ev_mod _ _ _ _ _ _ _ _ _ _ _ _ (@ev_name _ _ _ _ _ _ _ _ _ _ _ _ rfl (by decide) (by decide)) ev_int (by decide)) (@ev_bcall _ _ _ _ _ _ _ _ ("len") _ _ _ _ ([_]) _ _ _ (by decide) (by decide +kernel) rfl rfl (.cons (@ev_itemT _ _ _ _ _ _ _ _ _ _ _ _ _ _ _ (@ev_name _ _ _ _ _ _ _ _ _ _ _ _ rfl (by decide) (by decide)) (@ev_name _ _ _ _ _ _ _ _ _ _ _ _ rfl (by decide) (by decide)) hz0 (Int.lt_trans hz7 (by decide)) (spell_get _ hk) (by intro _ _; with_unfolding_all rfl)) .nil) (@ev_len _ _ _ _ _ _ (Int.ofNat_lt.mp (Int.lt_of_le_of_lt (spell_len _ hk).2 (by decide)))) (by decide)) hjp) hj0 hjl hi1 (by intro _ _; with_unfolding_all rfl)) (op_list (codes_fit hl hlen3 hlen hi2))) (.inl rfl) ?_ (by rfl)
    refine @lb_assign _ _ _ _ _ _ _ _ _ _ _ _ _ _ _ _ _ _ _ _ ((cStep p z).2) (@ev_fdiv _ _ _ _ _ _ _ _ _ _ _ _ (@ev_name _ _ _ _ _ _ _ _ _ _ _ _ rfl (by decide) (by decide)) ev_int (by decide) (by decide)) (.inl rfl) ?_ (by rfl)
    refine lb_nil fun s hL => ⟨rfl, hL.sub ?_⟩
    exact sub_cons rfl (sub_cons rfl (sub_cons rfl (sub_cons rfl (sub_cons rfl sub_nil))))
  · have hlen := fold_len ((cRow row draw).take (cRow row draw).length) (cStart draw, draw / 4)
    have hlen3 : ((cRow row draw).take (cRow row draw).length).length ≤ (cRow row draw).length := List.length_take_le' ..
    have he := ends_get (draw % 5).toNat ((Int.toNat_lt hm5.1).mpr hm5.2)
    have e : codesF row draw = (((cRow row draw).take (cRow row draw).length).foldl cStep (cStart draw, draw / 4)).1 ++ endsL.getD (draw % 5).toNat [] := by rw [List.take_length]; rfl
    rw [e]
    show Blk _ _ _ _ _ _ _ _ _ ((defAt 20).body.drop 4) _ _
    rw [ends_body]
    have hen := fun ρ => @ev_ends prog w mg mb (A.deeper (envK 20 L cells q f cc fr)) (envK 20 L cells q f cc fr) ρ
    generalize endsE = ee at hen
    revert ee; refine held ?_; intro ee hen
    exact @blk_ret _ _ _ _ _ _ _ _ _ _ _ _ _ _ _ _ _ (@ev_binop _ _ _ _ _ _ _ _ _ _ _ _ _ _ _ _ _ _ _ _ (@ev_name _ _ _ _ _ _ _ _ _ _ _ _ rfl (by decide) (by decide)) (@ev_itemT _ _ _ _ _ _ _ _ _ _ _ _ (endsL) _ _ (hen _) (@ev_mod _ _ _ _ _ _ _ _ _ _ _ _ (@ev_name _ _ _ _ _ _ _ _ _ _ _ _ rfl (by decide) (by decide)) ev_int (by decide)) hm5.1 (Int.lt_trans hm5.2 (by decide)) he.1 (by intro _ _; with_unfolding_all rfl)) (op_list (codes_fit hl hlen3 hlen he.2))) (fun v s' k hr => ⟨v, rfl, k, hr⟩)
end
end Mine.Internal
end
section
open PySem PySem.Calls
set_option maxRecDepth 100000
namespace Mine.Internal
-- a list that the frame itself writes
noncomputable def Own {α : Type} (D : Addr) (r : Rep α) (X : List Addr) (h : Heap) (xs : List α) : Prop := ∃ ys, h.PlainList D (ys : List Value).toArray ∧ Paired (r.rd X h) ys xs
theorem Own.mono {α : Type} {D : Addr} {r : Rep α} {X : List Addr} {h h' : Heap} {xs : List α} (p : Own D r X h xs) (hk : ∀ b o, (b ∉ X ∨ b ∈ [D]) → h.get? b = some o → h'.get? b = some o) : Own D r X h' xs := by
  refine Classical.byContradiction fun zG => ?_
  obtain ⟨ys, hp, hy⟩ := p
  refine zG ?_
  clear zG
  exact ⟨ys, hp.at fun o e => hk _ _ (.inr (by simp)) e, Paired.imp hy fun _ _ q => r.mono q fun b o hb e => hk b o (.inl hb) e⟩
theorem Own.keeps {α : Type} {D : Addr} {r : Rep α} {X : List Addr} {h h' : Heap} {xs : List α} (p : Own D r X h xs) (hk : Keep h h') : Own D r X h' xs := p.mono fun b o _ e => hk b o e
theorem Own.grow {α : Type} {D : Addr} {r : Rep α} {X Y : List Addr} {h h' : Heap} {xs : List α} (p : Own D r X h xs) (hk : Keep h h') (hn : ∀ a ∈ Y, h.get? a = none) : Own D r (Y ++ X) h' xs := by
  refine Classical.byContradiction fun zG => ?_
  obtain ⟨ys, hp, hy⟩ := p
  refine zG ?_
  clear zG
  exact ⟨ys, hp.at fun o e => hk _ _ e, Paired.imp hy fun _ _ q => r.mono (r.adds q Y hn) (.of_keep hk)⟩

section
variable {prog : Program} {w : World} {mg mb : Str → Option Value} {A : Around} {env : Env} {s₀ : Shared} {X : List Addr} {ρ : Vs} {rest : List Stmt} {Q : Flow → Shared → Prop} {E : Value → Shared → Prop} {Z : List Addr} {hb : Heap}

-- D is the frame's own
structure OwnAt (s₀ : Shared) (env : Env) (Z : List Addr) (D : Addr) : Prop where
  z : D ∈ Z
  new : s₀.heap.get? D = none
  loc : D ≠ env.locals
  cell : ∀ n, env.cells.lookup n ≠ some D

theorem Lm.wrote {s : Shared} {h' : Heap} {tk : Nat} {D : Addr} (L : Lm mg mb s₀ env X ρ Z hb s) (o : OwnAt s₀ env Z D) (hs : Heap.SameBut D s.heap h') (hh : ∃ ob, h'.get? D = some ob) : Lm mg mb s₀ env X ρ Z hb { s with heap := h', toks := tk } := by
  refine ⟨L.fm.other (Y := [D]) (fun b ob hb e => hs.extBut b ob (by simpa using hb) e) ?_ ?_ ?_ ?_ ?_, fun b ob hz e => hs.extBut b ob (fun q => hz (q ▸ o.z)) (L.kb b ob hz e), L.lZ, L.cZ, L.zX⟩
  · intro a ha; simp at ha; subst ha; exact L.zX _ o.z
  · intro a ha; simp at ha; subst ha; exact o.new
  · simpa using Ne.symm o.loc
  · intro n c hc q; simp at q; subst q; exact o.cell n hc
  · intro a ha; simp at ha; subst ha; exact hh

theorem own_append {α : Type} {D : Addr} {r : Rep α} {xs : List α} {x : Str} {px apos pos p : Pos} {e : Expr} {z : α} {s : Shared} {Q : Flow → Shared → Prop} (o : OwnAt s₀ env Z D) (L : Lm mg mb s₀ env X ρ Z hb s) (hO : Own D r X s.heap xs)
    (hx : ρ.lookup x = some ⟨rIs (.ref D), ()⟩) (hz : Ev prog w mg mb A env ρ e r z) (hlen : xs.length ≤ 1000) (hline : (apos.endLine == pos.line) = true)
    (htrees : backTo pos (starEach [e] env) = [e].map fun e => (false, eval e env)) (hbase : attributeBase (.Name x px) "append" env (eval (.Name x px) env) = eval (.Name x px) env)
    (hd : (x == ("__debug__" : Str)) = false) (hc : (x == ("__classdict__" : Str)) = false) (hi : interactive env = false)
    (h : ∀ s', Lm mg mb s₀ env X ρ Z hb s' → Own D r X s'.heap (xs ++ [z]) → Q .next s') :
    wpAny (model prog w) A (exec (.Expr (.Call (.Attribute (.Name x px) "append" apos) [e] [] pos) p) env) Q E s := by
  refine wpAny_Expr_any (wpAny_Call_method hbase ?_ hline F.plainAttrs_list slot_list_append type_list_append (wpAny_mono (ev_name hx hd hc X s L.fm.inn E) (fun ov s₁ q₁ => ?_) fun _ _ e => e)) hi rfl
  · rw [htrees]; rfl
  · obtain ⟨k₁, hv⟩ := q₁
    cases (show ov = .ref D from hv)
    have O₁ := hO.keeps (Keeps.keep k₁)
    refine Classical.byContradiction fun zG => ?_
    obtain ⟨ys, ⟨n, hget⟩, _⟩ := id O₁
    refine zG ?_
    clear zG
    refine ⟨⟨_, hget, rfl⟩, fun a e => by cases e; exact ⟨_, hget, rfl⟩, ?_⟩
    rw [htrees]
    have L₁ := L.keeps k₁
    refine callWith_builtin rfl (wpAny_mono (evalArgs_ev (ts := [eval e env]) (.cons (U := ⟨r, z⟩) hz .nil) X s₁ E L₁.fm.inn) (fun a s₂ q₂ => ?_) fun _ _ e => e)
    refine Classical.byContradiction fun zG => ?_
    obtain ⟨k₂, hkw, hv⟩ := q₂
    refine zG ?_
    clear zG
    obtain ⟨apos', akw⟩ := a
    dsimp only at hkw hv
    subst hkw
    cases hv with
    | @cons v _ vs _ hv hvs =>
      cases hvs
      have L₂ := L₁.keeps k₂
      refine Classical.byContradiction fun zG => ?_
      obtain ⟨ys₂, hp₂, hy₂⟩ := O₁.keeps (Keeps.keep k₂)
      refine zG ?_
      clear zG
      have hly : ys₂.length = xs.length := hy₂.length
      refine wpAny_list_append_plain (hsz := by show _ ≤ 2 ^ 24; simp; lia -abstractProof) hp₂ fun h₃ hl₃ hs₃ => ?_
      have hD : D ∈ X := L.zX _ o.z
      refine h _ (L₂.wrote (tk := s₂.toks) o hs₃ (let ⟨n, e⟩ := hl₃; ⟨_, e⟩)) ⟨ys₂ ++ [v], by simpa using hl₃, ?_⟩
      refine Paired.append (Paired.imp hy₂ fun _ _ q => r.mono q (.of_same hs₃ hD)) (.cons (r.mono hv (.of_same hs₃ hD)) .nil)
end
end Mine.Internal
end
section
open PySem PySem.Calls
set_option maxRecDepth 100000
namespace Mine.Internal
section
variable {prog : Program} {w : World} {mg mb : Str → Option Value} {A : Around} {env : Env} {s₀ : Shared} {X : List Addr} {ρ : Vs} {rest : List Stmt} {Q : Flow → Shared → Prop} {E : Value → Shared → Prop} {Z : List Addr} {hb : Heap}

-- a list made anew
noncomputable def EvNew {α : Type} (prog : Program) (w : World) (mg mb : Str → Option Value) (A : Around) (env : Env) (ρ : Vs) (e : Expr) (r : Rep α) (xs : List α) : Prop :=
  ∀ X s E, In mg mb X env ρ s → wpAny (model prog w) A (eval e env) (fun v s' => Keeps s s' ∧ ∃ D, v = .ref D ∧ s.heap.get? D = none ∧ Own D r (D :: X) s'.heap xs) E s

theorem evnew_list {α : Type} {elts : List Expr} {pos : Pos} {ts : List (Sem Value)} {r : Rep α} {xs : List α} (hts : backTo pos (starEach elts env) = ts.map fun t => (false, t)) (ha : ArgsEv prog w mg mb A env ρ ts (xs.map fun x => ⟨r, x⟩))
    (hlen : xs.length ≤ sizeLine) : EvNew prog w mg mb A env ρ (.List elts pos) r xs := by
  intro X s E i
  refine PyProof.Rows.List_ ?_
  rw [hts]
  refine wpAny_mono (spliced_ev ha X s E i) (fun vs s₁ q₁ => ?_) fun _ _ e => e
  have hp := vals_paired q₁.2
  refine wpAny_newObj_type ?_ (by show vs.toArray.size ≤ sizeLine; rw [List.size_toArray, hp.length]; exact hlen)
  have hn : s₁.heap.get? s₁.heap.objs.size = none := Heap.get?_none_of_le (Nat.le_refl _)
  refine ⟨Keeps.trans q₁.1 (Keeps.of (keep_push _ _)), _, rfl, ?_, vs, ⟨_, Heap.get?_push_size _ rfl⟩, ?_⟩
  · cases e : s.heap.get? s₁.heap.objs.size with
    | none => rfl
    | some o => have := Keeps.keep q₁.1 _ _ e; rw [hn] at this; cases this
  · exact Paired.imp hp fun _ _ q => r.mono (r.add q hn) (.of_keep (keep_push _ _))

theorem blk_own {α : Type} {e : Expr} {x : Str} {px pos : Pos} {r : Rep α} {xs : List α} (he : EvNew prog w mg mb A env ρ e r xs) (hx : env.kindOf x = some .local)
    (h : ∀ D s, D ∉ X → OwnAt s₀ env (D :: X) D → Fm mg mb s₀ env (D :: X) ((x, ⟨rIs (.ref D), ()⟩) :: ρ) s → Own D r (D :: X) s.heap xs → wpAny (model prog w) A (execs rest env) Q E s)
    (hsw : swapsWith e (some (.Name x px)) pos.line env = pure false := by rfl) : Blk prog w mg mb A s₀ env X ρ (.Assign [.Name x px] e pos :: rest) Q E := by
  intro s F
  refine wpAny_execs_cons (wpAny_Assign_Name (wpAny_mono (he X s E F.inn) (fun v s₁ q₁ => ?_) fun _ _ e => e) hsw)
  refine Classical.byContradiction fun zG => ?_
  obtain ⟨k₁, D, rfl, hn, O⟩ := q₁
  refine zG ?_
  clear zG
  have hDX : D ∉ X := fun q => by obtain ⟨o, ho⟩ := F.inn.here D q; rw [hn] at ho; cases ho
  have F₁ : Fm mg mb s₀ env ([D] ++ X) ρ s₁ := F.grow k₁ (by simpa using hn) (by
    refine Classical.byContradiction fun zG => ?_
    obtain ⟨ys, ⟨n, hp⟩, _⟩ := id O
    refine zG ?_
    clear zG
    intro a ha; simp at ha; subst ha; exact ⟨_, hp⟩)
  have oa : OwnAt s₀ env (D :: X) D := by
    refine ⟨List.mem_cons_self, ?_, fun q => hDX (q ▸ F.lX), fun n q => hDX (F.cX n D q)⟩
    cases e : s₀.heap.get? D with
    | none => rfl
    | some o => have := Keeps.keep F.done D o e; rw [hn] at this; cases this
  refine store2 (U := ⟨rIs (.ref D), ()⟩) F₁ (.inl hx) rfl fun s' F' hs => h D s' hDX oa F' ?_
  refine Classical.byContradiction fun zG => ?_
  obtain ⟨a, ha, hs⟩ := hs
  refine zG ?_
  clear zG
  refine O.mono fun b o hb e => hs.extBut b o (fun q => ?_) e
  subst q
  have haX : b ∈ X := by
    rcases ha with rfl | ⟨n, hn⟩
    · exact F.lX
    · exact F.cX _ _ hn
  rcases hb with hb | hb
  · exact hb (List.mem_cons_of_mem _ haX)
  · simp at hb; subst hb; exact hDX haX

-- the list is given back
theorem Fm.give {α : Type} {D : Addr} {r : Rep α} {xs : List α} {x : Str} {s : Shared} {X' : List Addr} (F : Fm mg mb s₀ env X' ((x, ⟨rIs (.ref D), ()⟩) :: ρ) s) (hs : ∀ a ∈ X, a ∈ X') (hD : D ∉ X) (hl : env.locals ∈ X) (hc : ∀ n c, env.cells.lookup n = some c → c ∈ X)
    (O : Own D r X' s.heap xs) : Fm mg mb s₀ env X ((x, ⟨rList r, xs⟩) :: ρ) s := by
  have F' := F.shrink hs hl hc
  refine ⟨F'.gl0, ⟨F'.inn.gl, F'.inn.en, fun y W hy => ?_, F'.inn.here⟩, F'.fr, hl, hc⟩
  by_cases e : y = x
  · subst e
    rw [lookup_cons_self] at hy; cases hy
    refine Classical.byContradiction fun zG => ?_
    obtain ⟨u, hu, hr⟩ := F'.inn.vars y _ lookup_cons_self
    refine zG ?_
    clear zG
    cases (show u = .ref D from hr)
    refine Classical.byContradiction fun zG => ?_
    obtain ⟨ys, ⟨n, hp⟩, hy⟩ := O
    refine zG ?_
    clear zG
    exact ⟨_, hu, D, ys, rfl, hD, ⟨_, hp, rfl, n, rfl⟩, Paired.imp hy fun _ _ q => r.weak q hs⟩
  · rw [lookup_cons_ne e] at hy
    exact F'.inn.vars y W (by rw [lookup_cons_ne e]; exact hy)
end
end Mine.Internal
end
section
open PySem PySem.Calls
set_option maxRecDepth 100000
namespace Mine.Internal
noncomputable def rRange : Rep Int where
  rd := fun X h v n => ∃ a t u v', v = .ref a ∧ a ∉ X ∧ IsRange h a 0 n 1 t u v'
  mono := fun zh k => by
    refine Classical.byContradiction fun zG => ?_
    obtain ⟨a, t, u, v', e, ha, hr⟩ := zh
    exact zG ⟨a, t, u, v', e, ha, k _ _ ha hr⟩
  add := fun zh hn => by
    refine Classical.byContradiction fun zG => ?_
    obtain ⟨a, t, u, v', e, ha, hr⟩ := zh
    exact zG ⟨a, t, u, v', e, by
        intro hm
        rcases List.mem_cons.mp hm with rfl | hm
        · exact absurd hr (by unfold IsRange; rw [hn]; exact fun q => nomatch q)
        · exact ha hm, hr⟩
  weak := fun zh hs => by
    refine Classical.byContradiction fun zG => ?_
    obtain ⟨a, t, u, v', e, ha, hr⟩ := zh
    exact zG ⟨a, t, u, v', e, fun hm => ha (hs _ hm), hr⟩
  dict := fun zh hn => by
    refine Classical.byContradiction fun zG => ?_
    obtain ⟨a, t, u, v', e, ha, hr⟩ := zh
    exact zG ⟨a, t, u, v', e, by
        intro hm
        rcases List.mem_cons.mp hm with rfl | hm
        · obtain ⟨o', es, ep, ho', hd', _⟩ := hn
          unfold IsRange at hr
          rw [hr] at ho'; cases ho'
          cases hd'
        · exact ha hm, hr⟩
noncomputable def ups (n : Int) : List Int := (List.range n.toNat).map fun (i : Nat) => (i : Int)
theorem small_of {n : Int} (h0 : 0 ≤ n) (hn : n < 1000000) : Builtin.Range.small 0 n 1 = true := by
  have hN : Builtin.Range.rangeSize 0 n 1 = n := by
    unfold Builtin.Range.rangeSize
    rw [if_pos (by decide)]
    split <;> lia -abstractProof
  unfold Builtin.Range.small
  have f : ∀ k : Int, 0 ≤ k → k < 2000000 → Builtin.Range.rangeFitsLong k = true := fun k a b => by unfold Builtin.Range.rangeFitsLong; simp; lia -abstractProof
  rw [hN, f 0 (by decide) (by decide), f n h0 (by lia -abstractProof), f 1 (by decide) (by decide), if_pos (by decide), f (n + (1 - 1)) (by lia -abstractProof) (by lia -abstractProof)]
  simp
section
variable {prog : Program} {w : World} {mg mb : Str → Option Value} {A : Around} {env : Env} {s₀ : Shared} {X : List Addr} {ρ : Vs}
theorem con_range {n : Int} : ConB prog w A (.type "range") [⟨rInt, n⟩] rRange n := by
  intro X s vs hX hv E
  cases hv with
  | @cons v _ vs _ hv hvs =>
    cases hvs
    obtain ⟨t, rfl⟩ := hv
    exact call_range_1 ⟨Keeps.of (keep_push _ _), s.heap.objs.size, s.toks, t, s.toks + 1, rfl, not_in_X hX, Heap.get?_push_size _ rfl⟩

theorem walks_bound {I : Addr} {fp wr : List Addr} {n : Nat} {P : Nat → Value → Prop} {St : Nat → Heap → Prop} (W : Walks prog w A I fp wr n P St) : Walks prog w A I fp wr n (fun i v => i < n ∧ P i v) St where
  sub := W.sub
  frame := W.frame
  item := fun i s Q E hi st hQ => W.item i s Q E hi st fun v h' tk hp => hQ v h' tk ⟨hi, hp⟩
  done := W.done
  self := W.self

theorem range_walk {s : Shared} {n : Int} {v : Value} (hh : A.handled = none) (hX : ∀ a ∈ X, ∃ o, s.heap.get? a = some o) (h0 : 0 ≤ n) (hn : n < 1000000) (h : rRange.rd X s.heap v n) : LSrc prog w A X s v rInt (ups n) := by
  refine Classical.byContradiction fun zG => ?_
  obtain ⟨a, t, u, v', rfl, ha, hr⟩ := h
  refine zG ?_
  clear zG
  intro Q E hQ
  have hsz : s.heap.get? s.heap.objs.size = none := Heap.get?_none_of_le (Nat.le_refl _)
  have hN : Builtin.Range.rangeSize 0 n 1 = (n.toNat : Int) := by
    unfold Builtin.Range.rangeSize
    rw [if_pos (by decide)]
    split <;> lia -abstractProof
  refine wpAny_pyIter_range hr (small_of h0 hn) (hQ _ [s.heap.objs.size] [s.heap.objs.size] n.toNat _ _ _ (Keeps.of (keep_push _ _)) (walks_bound (Walks.range hh s.heap.objs.size 0 1 n.toNat)) ?_ ?_ ?_ ?_ ?_ ?_)
  · show IsRangeIter _ _ _ _ _
    rw [hN]
    simp only [IsRangeIter, Int.natCast_zero, Int.zero_mul, Int.add_zero, Int.sub_zero]
    exact Heap.get?_push_size _ rfl
  · intro b hb; simp at hb; subst hb; exact hsz
  · intro b hb hx
    simp at hb; subst hb
    obtain ⟨o', ho'⟩ := hX _ hx; rw [hsz] at ho'; cases ho'
  · intro i h hst b hb; simp at hb; subst hb; exact ⟨_, hst⟩
  · simp [ups]
  · rintro i x ⟨hi, t, rfl⟩
    refine ⟨(i : Int), ?_, t, by simp⟩
    simp [ups, hi]
end
end Mine.Internal
end
section
open PySem PySem.Calls
set_option maxRecDepth 100000
namespace Mine.Internal
noncomputable def rStep (p : List Int × Int) : List Int × Int := (if 0 < p.2 then p.1 ++ [p.2 % 7] else p.1, p.2 / 7)
noncomputable def rIter : Nat → List Int × Int → List Int × Int
  | 0, p => p
  | n + 1, p => rStep (rIter n p)
noncomputable def rowF (number : Int) : List Int := (rIter 3 ([number % 7], number / 7)).1 ++ [6, 0, 2, 3, 5]
theorem rIter_len (p : List Int × Int) : ∀ n, (rIter n p).1.length ≤ p.1.length + n
  | 0 => by simp [rIter]
  | n + 1 => by
    have := rIter_len p n
    simp only [rIter, rStep]
    split <;> simp <;> lia -abstractProof

theorem Own.weak {α : Type} {D : Addr} {r : Rep α} {X X' : List Addr} {h : Heap} {xs : List α} (p : Own D r X h xs) (hs : ∀ a ∈ X', a ∈ X) : Own D r X' h xs := by
  refine Classical.byContradiction fun zG => ?_
  obtain ⟨ys, hp, hy⟩ := p
  refine zG ?_
  clear zG
  exact ⟨ys, hp, Paired.imp hy fun _ _ q => r.weak q hs⟩
theorem Own.stored {α : Type} {D : Addr} {r : Rep α} {X Z : List Addr} {s₀ : Shared} {env : Env} {h h' : Heap} {xs : List α} (p : Own D r X h xs) (oa : OwnAt s₀ env Z D) (hl : env.locals ∈ X) (hc : ∀ n c, env.cells.lookup n = some c → c ∈ X)
    (hs : ∃ a, (a = env.locals ∨ ∃ n, env.cells.lookup n = some a) ∧ Heap.SameBut a h h') : Own D r X h' xs := by
  refine Classical.byContradiction fun zG => ?_
  obtain ⟨a, ha, hs⟩ := hs
  refine zG ?_
  clear zG
  refine p.mono fun b o hb e => hs.extBut b o (fun q => ?_) e
  subst q
  rcases hb with hb | hb
  · rcases ha with rfl | ⟨n, hn⟩
    · exact hb hl
    · exact hb (hc _ _ hn)
  · simp at hb; subst hb
    rcases ha with q | ⟨n, hn⟩
    · exact oa.loc q
    · exact oa.cell _ hn
section
variable {prog : Program} {w : World} {mg mb : Str → Option Value} {A : Around} {env : Env} {s₀ : Shared} {X : List Addr} {rest : List Stmt} {Q : Flow → Shared → Prop} {E : Value → Shared → Prop}
theorem ev_range {ρ : Vs} {e : Expr} {p pos : Pos} {n : Int} (hk : env.kindOf "range" = some .globalImplicit) (he : Ev prog w mg mb A env ρ e rInt n) (hs : isStar e = false := by rfl) : Ev prog w mg mb A env ρ (.Call (.Name "range" p) [e] [] pos) rRange n :=
  @ev_tcall _ _ _ _ _ _ _ _ ("range") ("range") _ _ _ ([eval e env]) _ _ _ (by decide) (by decide +kernel) hk (backTo_plain env pos [e] (by simpa using hs)) (.cons (U := ⟨rInt, n⟩) he .nil) con_range (by decide)
-- a loop whose turns write one list of the frame's own
theorem own_for {α β : Type} {D : Addr} {r : Rep α} {ri : Rep β} {x : Str} {px pos : Pos} {iter : Expr} {body : List Stmt} {xs : List β} {ys : Nat → List α} {ρ' : Nat → Vs} {s : Shared} (hflat : Flat ri) (oa : OwnAt s₀ env (D :: X) D)
    (F : Fm mg mb s₀ env (D :: X) (ρ' 0) s) (hO : Own D r (D :: X) s.heap (ys 0))
    (hsrc : ∀ s E, In mg mb (D :: X) env (ρ' 0) s → wpAny (model prog w) A (eval iter env) (fun v s' => Keeps s s' ∧ LSrc prog w A (D :: X) s' v ri xs) E s)
    (hx : env.kindOf x = some .local)
    (hstep : ∀ X' i z hb E, xs[i]? = some z → ∀ s, Lm mg mb s₀ env X' ((x, ⟨ri, z⟩) :: ρ' i) (D :: X) hb s → Own D r X' s.heap (ys i) →
      wpAny (model prog w) A (execs body env) (fun f s' => f = .next ∧ Lm mg mb s₀ env X' (ρ' (i + 1)) (D :: X) hb s' ∧ Own D r X' s'.heap (ys (i + 1))) E s)
    (hrest : ∀ s, Fm mg mb s₀ env (D :: X) (ρ' xs.length) s → Own D r (D :: X) s.heap (ys xs.length) → wpAny (model prog w) A (execs rest env) Q E s)
    (hs : ∀ x, foldedSetIterable iter env x = pure x := by intro _; rfl) :
    wpAny (model prog w) A (execs (.For (.Name x px) iter body [] pos :: rest) env) Q E s := by
  refine wpAny_execs_cons (wpAny_For (wpAny_mono (hsrc s E F.inn) (fun v s₁ h₁ => ?_) fun _ _ e => e) hs)
  have F₁ := F.keeps h₁.1
  have O₁ := hO.keeps (Keeps.keep h₁.1)
  refine wpAny_mono (for_core (E₁ := E) (RE := fun e s' => cameBackBy (model prog w) A env E e s') (P := fun X' i s => Own D r X' s.heap (ys i)) (Dl := [D]) (Qe := fun s' => Fm mg mb s₀ env (D :: X) (ρ' xs.length) s' ∧ Own D r (D :: X) s'.heap (ys xs.length)) hflat h₁.2 F₁ (.inl hx)
    (fun a ha => by simp at ha; subst ha; exact ⟨List.mem_cons_self, oa.loc, oa.cell⟩) (fun Y s' k hn => O₁.grow (Keeps.keep k) hn) (fun X' i s h' tk p hk => p.mono hk) (fun wr i z hb E hz s L p => ?_) (fun wr s F p => ⟨F, p.weak fun a ha => List.mem_append_right _ ha⟩)) (fun it s₂ h₂ => codeAny_mono h₂ fun r s' h' => ?_) fun _ _ e => e
  · exact wpAny_mono (hstep (wr ++ (D :: X)) i z hb E hz s L p) (fun f s' h => .inl h) fun _ _ e => e
  · cases r with
    | ok f => obtain ⟨rfl, F', p⟩ := h'; exact hrest s' F' p
    | error e => exact h'
end
section
variable {prog : Program} {w : World} {mg mb : Str → Option Value} {A : Around}
set_option maxHeartbeats 1000000 in
theorem con_row {n : Nat} (hR : Rm (n + 1) A) (number : Int) : Con prog w mg mb A 19 [⟨rInt, number⟩] (rList rInt) (rowF number) := by
  refine con1 (k := 19) (p := "number") (by decide) hR (fun v pm cd doc => rfl) (.inl rfl) (fun L cells q f cc fr X₁ s₀ hcl hR' E => ?_)
  refine @blk_own _ _ _ _ _ _ _ _ _ _ _ _ _ _ _ _ _ (rInt) ([number % 7]) (@evnew_list _ _ _ _ _ _ _ _ _ _ ([_]) _ _ rfl (.cons (@ev_mod _ _ _ _ _ _ _ _ _ _ _ _ (@ev_name _ _ _ _ _ _ _ _ _ _ _ _ rfl (by decide) (by decide)) ev_int (by decide)) .nil) (by show 1 ≤ 2 ^ 24; decide)) rfl (fun D s hDX oa F hO => ?_) (by rfl)
  have L0 : Lm mg mb s₀ (envK 19 L cells q f cc fr) (D :: X₁) [("row", ⟨rIs (.ref D), ()⟩), ("number", ⟨rInt, number⟩)] (D :: X₁) s.heap s := F.lm F.lX F.cX fun _ h => h
  refine wpAny_execs_cons (wpAny_Assign_Name (wpAny_mono (ev_fdiv (y := 7) (@ev_name _ _ _ _ _ _ _ _ _ _ (rInt) (number) rfl (by decide) (by decide)) ev_int (by decide) (by decide) (D :: X₁) s L0.fm.inn E) (fun v s₁ h₁ => ?_) fun _ _ e => e) rfl)
  refine lstore (U := ⟨rInt, number / 7⟩) (L0.keeps h₁.1) (.inl rfl) h₁.2 fun s₂ L₂ hs₂ => ?_
  have O₂ : Own D rInt (D :: X₁) s₂.heap [number % 7] := (hO.keeps (Keeps.keep h₁.1)).stored oa L0.fm.lX L0.fm.cX hs₂
  refine own_for (r := rInt) (ρ' := fun i => [("rest", ⟨rInt, (rIter i ([number % 7], number / 7)).2⟩), ("row", ⟨rIs (.ref D), ()⟩), ("number", ⟨rInt, number⟩)]) (ys := fun i => (rIter i ([number % 7], number / 7)).1) (xs := ups 3) (ri := rInt) (flat_flat _) oa L₂.fm O₂ ?_ rfl ?_ ?_
  · intro s E i
    refine wpAny_mono (Q := fun v s' => Keeps s s' ∧ rRange.rd (D :: X₁) s'.heap v 3) ?_ (fun v s' h => ⟨h.1, range_walk hR'.none (i.keeps h.1).here (by decide) (by decide) h.2⟩) fun _ _ e => e
    exact ev_range (env := envK 19 L cells q f cc fr) rfl ev_int rfl (D :: X₁) s i E
  · intro X' i z hb E hz s Lt hO
    have hi : i < 3 := by
      have h1 := (List.getElem?_eq_some_iff.mp hz).1
      have h2 : (ups 3).length = 3 := by decide
      lia -abstractProof
    have hlen := rIter_len ([number % 7], number / 7) i
    generalize hp : rIter i ([number % 7], number / 7) = p at Lt hO hlen
    revert p; refine held ?_; intro p hp Lt hO hlen
    have hnx : rIter (i + 1) ([number % 7], number / 7) = rStep p := by rw [← hp]; rfl
    try dsimp only
    rw [hnx]
    have tail : ∀ s ys, Lm mg mb s₀ (envK 19 L cells q f cc fr) X' [("turn", ⟨rInt, z⟩), ("rest", ⟨rInt, p.2⟩), ("row", ⟨rIs (.ref D), ()⟩), ("number", ⟨rInt, number⟩)] (D :: X₁) hb s → Own D rInt X' s.heap ys → ys = (rStep p).1 →
        wpAny (model prog w) (A.deeper (envK 19 L cells q f cc fr)) (execs ((sB (st (defAt 19).body 2)).drop 1) (envK 19 L cells q f cc fr))
        (fun fl s' => fl = .next ∧ Lm mg mb s₀ (envK 19 L cells q f cc fr) X' [("rest", ⟨rInt, (rStep p).2⟩), ("row", ⟨rIs (.ref D), ()⟩), ("number", ⟨rInt, number⟩)] (D :: X₁) hb s' ∧ Own D rInt X' s'.heap (rStep p).1) E s := by
      intro s ys Lt hO e
      subst e
      refine wpAny_execs_cons (wpAny_Assign_Name (wpAny_mono (ev_fdiv (env := envK 19 L cells q f cc fr) (y := 7) (@ev_name _ _ _ _ _ _ _ _ _ _ (rInt) (p.2) rfl (by decide) (by decide)) ev_int (by decide) (by decide) X' s Lt.fm.inn E) (fun v s₁ h₁ => ?_) fun _ _ e => e) rfl)
      refine lstore (U := ⟨rInt, p.2 / 7⟩) (Lt.keeps h₁.1) (.inl rfl) h₁.2 fun s₂ L₂ hs₂ => ?_
      refine wpAny_execs_nil ⟨rfl, L₂.sub (sub_cons rfl (sub_cons rfl (sub_cons rfl sub_nil))), ?_⟩
      exact (hO.keeps (Keeps.keep h₁.1)).stored oa Lt.fm.lX Lt.fm.cX hs₂
    refine wpAny_execs_cons (wpAny_If (wpAny_mono (Q := fun c s' => Keeps s s' ∧ c = decide (p.2 > 0)) ?_ (fun c s₁ h₁ => ?_) fun _ _ e => e))
    · exact tst_cmp (env := envK 19 L cells q f cc fr) (x := p.2) (y := 0) (r1 := rInt) (r2 := rInt) (z := decide (p.2 > 0)) (@ev_name _ _ _ _ _ _ _ _ _ _ _ _ rfl (by decide) (by decide)) ev_int (cmp_int fun s t u Q E h => PyProof.Rows.gt_int h) (by with_unfolding_all rfl) X' s E Lt.fm.inn
    obtain ⟨k, rfl⟩ := h₁
    have L₁ := Lt.keeps k
    have O₁ := hO.keeps (Keeps.keep k)
    by_cases hc : p.2 > 0
    · rw [decide_eq_true hc]
      refine wpAny_execs_cons (own_append (r := rInt) (z := p.2 % 7) oa L₁ O₁ rfl (@ev_mod _ _ _ _ _ _ _ _ _ _ _ _ (@ev_name _ _ _ _ _ _ _ _ _ _ _ _ rfl (by decide) (by decide)) ev_int (by decide)) (by dsimp only at hlen; simp at hlen; lia -abstractProof) rfl rfl rfl (by decide) (by decide) rfl fun s₂ L₂ O₂ => ?_)
      exact wpAny_execs_nil (tail s₂ _ L₂ O₂ (by unfold rStep; rw [if_pos hc]))
    · rw [decide_eq_false hc]
      exact wpAny_execs_nil (tail s₁ _ L₁ O₁ (by unfold rStep; rw [if_neg hc]))
  · intro s F O
    have F₁ := F.sub (ρ' := [("row", ⟨rIs (.ref D), ()⟩), ("number", ⟨rInt, number⟩)]) (sub_cons rfl (sub_cons rfl sub_nil))
    have hlX : (envK 19 L cells q f cc fr).locals ∈ X₁ := (List.mem_cons.mp F.lX).resolve_left (Ne.symm oa.loc)
    have hcX : ∀ n c, (envK 19 L cells q f cc fr).cells.lookup n = some c → c ∈ X₁ := fun n c hc => (List.mem_cons.mp (F.cX n c hc)).resolve_left fun q => oa.cell n (q ▸ hc)
    have F₂ := F₁.give (fun a ha => List.mem_cons_of_mem _ ha) hDX hlX hcX O
    have hl := rIter_len ([number % 7], number / 7) 3
    exact blk_ret (y := rowF number) (@ev_binop _ _ _ _ _ _ _ _ _ _ _ _ _ _ _ _ _ _ _ _ (@ev_name _ _ _ _ _ _ _ _ _ _ _ _ rfl (by decide) (by decide)) (@ev_ints _ _ _ _ _ _ _ _ ([6, 0, 2, 3, 5]) rfl) (op_list (by show _ ≤ 2 ^ 24; dsimp only at hl; simp at hl ⊢; lia -abstractProof))) (fun v s' k hr => ⟨v, rfl, k, hr⟩) s F₂
end
end Mine.Internal
end
section
open PySem PySem.Calls
set_option maxRecDepth 100000
namespace Mine.Internal
-- a dict from ints to texts
noncomputable def rPic (prog : Program) (w : World) : Rep (Int → Option Str) where
  rd := fun X h v f => ∃ a g, v = .ref a ∧ a ∉ X ∧ h.MapOf (intKind prog w) a g ∧ (∀ k x, f k = some x → ∃ t, g k = some (.str x t)) ∧ ∃ k, (f k).isSome = true
  mono := fun h k => by
    refine Classical.byContradiction fun zG => ?_
    obtain ⟨a, g, e, ha, ⟨o, es, ep, ho, q⟩, p⟩ := h
    exact zG ⟨a, g, e, ha, ⟨o, es, ep, k _ _ ha ho, q⟩, p⟩
  add := fun h hn => by
    refine Classical.byContradiction fun zG => ?_
    obtain ⟨a, g, e, ha, ⟨o, es, ep, ho, q⟩, p⟩ := h
    refine zG ⟨a, g, e, fun hm => ?_, ⟨o, es, ep, ho, q⟩, p⟩
    rcases List.mem_cons.mp hm with rfl | hm
    · rw [hn] at ho; cases ho
    · exact ha hm
  weak := fun h hs => by
    refine Classical.byContradiction fun zG => ?_
    obtain ⟨a, g, e, ha, q⟩ := h
    refine zG ?_
    clear zG
    exact ⟨a, g, e, fun hm => ha (hs _ hm), q⟩
  dict := fun h hn => by
    refine Classical.byContradiction fun zG => ?_
    obtain ⟨a, g, e, ha, ⟨o, es, ep, ho, hx, hd, hk, hf⟩, hg, k0, hk0⟩ := h
    refine zG ⟨a, g, e, fun hm => ?_, ⟨o, es, ep, ho, hx, hd, hk, hf⟩, hg, k0, hk0⟩
    rcases List.mem_cons.mp hm with rfl | hm
    · obtain ⟨o', es', ep', ho', hd', hs, _⟩ := hn
      rw [ho] at ho'; cases ho'
      rw [hd] at hd'; cases hd'
      obtain ⟨x, hx0⟩ := Option.isSome_iff_exists.mp hk0
      obtain ⟨t, hgt⟩ := hg k0 x hx0
      rw [← hf k0] at hgt
      unfold findBy at hgt
      cases hfi : es.find? (fun e => (intKind prog w).is k0 e.key) with
      | none => rw [hfi] at hgt; cases hgt
      | some en =>
        have h1 := Array.find?_some hfi
        have h2 := Array.mem_of_find?_eq_some hfi
        refine Classical.byContradiction fun zG => ?_
        obtain ⟨n, t', he⟩ := hs en h2
        refine zG ?_
        clear zG
        rw [he] at h1
        exact Bool.noConfusion (show false = true from h1)
    · exact ha hm

noncomputable def litStr : Expr → Option Str := litCon cStr
theorem litStr_some {e : Expr} {x : Str} (h : litStr e = some x) : ∃ j p, e = .Constant (.str x) j p := by
  refine Classical.byContradiction fun zG => ?_
  obtain ⟨⟨j, p, he⟩, hc⟩ := litCon_some h
  refine zG ?_
  clear zG
  rw [cStr_some hc] at he
  exact ⟨j, p, he⟩

theorem merged_new {K : Type} [DecidableEq K] : ∀ (more kvs : List (K × Value)), ((kvs ++ more).map (·.1)).Nodup → merged kvs more = kvs ++ more
  | [], kvs, _ => by simp [merged]
  | (k, v) :: more, kvs, h => by
    have hk : stored kvs k v = kvs ++ [(k, v)] := by
      unfold stored
      rw [if_neg]
      rw [List.any_eq_true]
      rintro ⟨kv, hm, e⟩
      have e' : kv.1 = k := by simpa using e
      simp only [List.map_append, List.map_cons, List.nodup_append] at h
      exact h.2.2 kv.1 (List.mem_map.mpr ⟨kv, hm, rfl⟩) k (by simp) e'
    show merged (stored kvs k v) more = _
    rw [hk, merged_new more _ (by simpa using h)]
    simp

section
variable {prog : Program} {w : World} {mg mb : Str → Option Value} {A : Around} {env : Env} {ρ : Vs}
theorem pairs_lit {pos : Pos} {E : Value → Shared → Prop} : ∀ (ps : List (Int × Str)) (keys : List (Option Expr)) (values : List Expr) (s : Shared) (Q : List (Value × Value) → Shared → Prop), keys.map (fun k => k.bind litInt) = ps.map (fun p => some p.1) → values.map litStr = ps.map (fun p => some p.2) →
    (∀ vs kvs tk, Carries (intKind prog w) vs kvs → Paired (fun (kv : Int × Value) p => kv.1 = p.1 ∧ ∃ t, kv.2 = .str p.2 t) kvs ps → Q vs { s with toks := tk }) → wpAny (model prog w) A (evalPairs (pairTrees keys values env pos)) Q E s
  | [], keys, values, s, Q, hk, hv, hQ => by
    rw [List.map_eq_nil_iff.mp hk, List.map_eq_nil_iff.mp hv]
    exact evalPairs_nil (hQ [] [] s.toks trivial .nil)
  | (a, b) :: r, keys, values, s, Q, hk, hv, hQ => by
    refine Classical.byContradiction fun zG => ?_
    obtain ⟨k, ks, rfl, hk1, hk2⟩ := List.map_eq_cons_iff.mp hk
    refine zG ?_
    clear zG
    refine Classical.byContradiction fun zG => ?_
    obtain ⟨v, vs, rfl, hv1, hv2⟩ := List.map_eq_cons_iff.mp hv
    refine zG ?_
    clear zG
    refine Classical.byContradiction fun zG => ?_
    obtain ⟨k', rfl, hk3⟩ := Option.bind_eq_some_iff.mp hk1
    refine zG ?_
    clear zG
    refine Classical.byContradiction fun zG => ?_
    obtain ⟨_, _, rfl⟩ := litInt_some hk3
    refine zG ?_
    clear zG
    refine Classical.byContradiction fun zG => ?_
    obtain ⟨_, _, rfl⟩ := litStr_some hv1
    refine zG ?_
    clear zG
    refine evalPairs_cons (wpAny_Constant_int (wpAny_bind (Constant_str (wpAny_bind (wpAny_standAt (wpAny_pure ?_))))))
    refine pairs_lit r ks vs _ _ hk2 hv2 fun ws kvs tk hc hp => ?_
    exact hQ ((_, _) :: ws) ((a, _) :: kvs) tk ⟨by simp [intKind, Value.isInt], rfl, hc⟩ (.cons ⟨rfl, _, rfl⟩ hp)
end
end Mine.Internal
end
section
open PySem PySem.Calls
set_option maxRecDepth 100000
namespace Mine.Internal
noncomputable def picAt (ps : List (Int × Str)) (k : Int) : Option Str := (ps.find? fun p => p.1 = k).map (·.2)
theorem valueAt_pic {kvs : List (Int × Value)} {ps : List (Int × Str)} (hp : Paired (fun (kv : Int × Value) p => kv.1 = p.1 ∧ ∃ t, kv.2 = .str p.2 t) kvs ps) (k : Int) (x : Str) (h : picAt ps k = some x) : ∃ t, valueAt kvs k = some (.str x t) := by
  induction hp with
  | nil => cases h
  | @cons kv p l₁ l₂ hkv _ ih =>
    refine Classical.byContradiction fun zG => ?_
    obtain ⟨e1, t, e2⟩ := hkv
    refine zG ?_
    clear zG
    unfold picAt at h
    unfold valueAt
    rw [List.find?_cons] at h ⊢
    rw [e1]
    by_cases hk : p.1 = k
    · rw [decide_eq_true hk] at h ⊢
      simp at h ⊢
      subst h
      exact ⟨t, e2⟩
    · rw [decide_eq_false hk] at h ⊢
      exact ih h
theorem paired_keys {kvs : List (Int × Value)} {ps : List (Int × Str)} (hp : Paired (fun (kv : Int × Value) p => kv.1 = p.1 ∧ ∃ t, kv.2 = .str p.2 t) kvs ps) : kvs.map (·.1) = ps.map (·.1) := by
  induction hp with
  | nil => rfl
  | cons h _ ih => simp [h.1, ih]

section
variable {prog : Program} {w : World} {mg mb : Str → Option Value} {A : Around} {env : Env} {ρ : Vs}
theorem ev_dict {keys : List (Option Expr)} {values : List Expr} {pos : Pos} {ps : List (Int × Str)} (h : keys.map (fun k => k.bind litInt) = ps.map (fun p => some p.1)) (hv : values.map litStr = ps.map (fun p => some p.2)) (hall : keys.all (·.isSome) = true) (hl : keys.length = values.length) (h0 : keys ≠ []) (hlen : keys.length ≤ 15)
    (hnd : (ps.map (·.1)).Nodup) (h1 : ∃ k, (picAt ps k).isSome = true) : Ev prog w mg mb A env ρ (.Dict keys values pos) (rPic prog w) (picAt ps) := by
  intro X s i E
  refine wpAny_Dict_walk (knd := intKind prog w) hall hl h0 hlen (pairs_lit ps keys values _ _ h hv fun vs kvs tk hc hp => ?_)
  refine ⟨kvs, hc, ?_, fun h' hD hs => ?_⟩
  · exact ⟨_, #[], _, Heap.get?_push_size _ rfl, ⟨rfl, rfl, rfl⟩, rfl, fun e he => by simp at he, .nil, by simp⟩
  · have hm : merged [] kvs = kvs := by
      rw [merged_new kvs [] (by simpa [paired_keys hp] using hnd)]; rfl
    rw [hm] at hD
    refine ⟨Keeps.of fun b o e => hs.extBut b o (Nat.ne_of_lt (Heap.lt_size e)) (Heap.get?_push_of_some _ e), s.heap.objs.size, valueAt kvs, rfl, not_in_X i.here, hD.mapOf, valueAt_pic hp, h1⟩

theorem ev_itemD {value slice : Expr} {pos : Pos} {f : Int → Option Str} {k : Int} {x : Str} (h1 : Ev prog w mg mb A env ρ value (rPic prog w) f) (h2 : Ev prog w mg mb A env ρ slice rInt k) (hx : f k = some x)
    (hs : ∀ o u, subscripted slice false (.ref o) (.int k u) = operate [.ref o, .int k u] (getItem (.ref o) (.int k u)) := by intro _ _; with_unfolding_all rfl) :
    Ev prog w mg mb A env ρ (.Subscript value slice pos) rStr x := by
  refine @ev_sub _ _ _ _ _ _ _ _ _ _ _ _ _ _ _ _ _ _ _ h1 h2 ?_
  rintro X s a b hX ⟨d, g, rfl, hd, hm, hg, _⟩ ⟨u, rfl⟩ E
  obtain ⟨t, hgt⟩ := hg k x hx
  exact subTail hm.typeIs F.slot_dict_getitem.lookup (wpAny_getItem_of (k := k) (by simp [intKind, Value.isInt]) hm hgt ⟨Keeps.tok _ _, t, rfl⟩) (hs d u)
end
end Mine.Internal
end
section
open PySem PySem.Calls
set_option maxRecDepth 100000
namespace Mine.Internal
noncomputable def picsL : List (Int × Str) := [(1, "^A"), (33, "!"), (46, "."), (63, "?"), (65, "A"), (94, "^"), (97, "a"), (98, "b"), (127, "^?"), (129, "!^A"), (174, "!.")]
noncomputable def pic1 (c : Int) : Str := (picAt picsL c).getD Str.empty
noncomputable def drawnF (codes : List Int) : Str := Txt.join "" (codes.map pic1)
theorem pic1_len (c : Int) : (pic1 c).length ≤ 3 := by
  unfold pic1 picAt
  cases h : picsL.find? (fun p => p.1 = c) with
  | none => exact Nat.zero_le _
  | some p =>
    have := List.mem_of_find?_eq_some h
    have hall : ∀ p ∈ picsL, p.2.length ≤ 3 := by decide
    exact hall p this

theorem Frees.one {scope : Scope} {env : Env} {ρ : Vs} {x : Str} {U : V} (h1 : (scope.names.all fun y => y.2 != .free || y.1 == x) = true) (h2 : scope.names.lookup x = some .free) (h3 : (scope.names.all fun y => y.2 != .cell || y.1 != x) = true)
    (h4 : env.kindOf x ≠ some .local) (h5 : ρ.lookup x = some U) : Frees scope env ρ [(x, U)] := by
  rw [List.all_eq_true] at h1 h3
  refine ⟨fun y hy hf => ?_, fun y W hy => ?_⟩
  · have := h1 y hy
    rw [hf] at this
    have e : y.1 = x := by simpa using this
    exact ⟨U, by rw [e]; exact lookup_cons_self⟩
  · by_cases e : y = x
    · subst e
      rw [lookup_cons_self] at hy; cases hy
      refine ⟨h2, fun k hk q => ?_, h4, h5⟩
      have := h3 _ hk
      rw [q] at this
      simp at this
    · rw [lookup_cons_ne e] at hy; cases hy
section
variable {prog : Program} {w : World} {mg mb : Str → Option Value} {A : Around}
noncomputable def picsE : Expr := ex (sX (st (defAt 21).body 0)) 0
noncomputable def picsP : Pos := xP (ex (sX (st (defAt 21).body 0)) 1)
noncomputable def picsQ : Pos := sP (st (defAt 21).body 0)
theorem pics_body : (defAt 21).body = .Assign [.Name "pictures" picsP] picsE picsQ :: (defAt 21).body.drop 1 := rfl
theorem pics_swap (env : Env) : swapsWith picsE (some (.Name "pictures" picsP)) picsQ.line env = pure false := rfl
noncomputable def picsK : List (Option Expr) := xK picsE
noncomputable def picsV : List Expr := xX picsE
noncomputable def picsR : Pos := xP picsE
theorem picsE_eq : picsE = .Dict picsK picsV picsR := rfl
theorem ev_pics {env : Env} {ρ : Vs} : Ev prog w mg mb A env ρ picsE (rPic prog w) (picAt picsL) := by
  rw [picsE_eq]
  exact @ev_dict prog w mg mb A env ρ picsK picsV picsR picsL rfl rfl rfl rfl (by decide) (by decide) (by decide) ⟨1, by decide⟩

theorem con_drawn {n : Nat} (hR : Rm (n + 1) A) (codes : List Int) (hc : ∀ c ∈ codes, (picAt picsL c).isSome = true) (hl : codes.length ≤ 1000) :
    Con prog w mg mb A 21 [⟨rList rInt, codes⟩] rStr (drawnF codes) := by
  refine con1 (k := 21) (p := "codes") (by decide) hR (fun v pm cd doc => rfl) (.inl rfl) (fun L cells q f cc fr X₁ s₀ hcl hR' E => ?_)
  rw [pics_body]
  have hsp : Ev prog w mg mb (A.deeper (envK 21 L cells q f cc fr)) (envK 21 L cells q f cc fr) [("codes", ⟨rList rInt, codes⟩)] picsE (rPic prog w) (picAt picsL) := @ev_pics prog w mg mb _ _ _
  have hsw := pics_swap (envK 21 L cells q f cc fr)
  generalize picsE = se at hsp hsw
  revert se; refine held ?_; intro se hsp hsw
  refine @blk_assign _ _ _ _ _ _ _ _ _ _ _ _ _ _ _ _ _ (rPic prog w) (picAt picsL) hsp (.inr ⟨rfl, hcl "pictures" rfl⟩) ?_ hsw
  have hsum : ((codes.map pic1).map Str.length).sum + (codes.map pic1).length ≤ 100000 := by
    have : ∀ l : List Int, ((l.map pic1).map Str.length).sum ≤ 3 * l.length := fun l => by
      induction l with
      | nil => simp
      | cons c l ih => have := pic1_len c; simp only [List.map_cons, List.sum_cons, List.length_cons]; lia -abstractProof
    have := this codes
    simp only [List.length_map]
    lia -abstractProof
  refine @blk_ret _ _ _ _ _ _ _ _ _ _ _ _ _ _ _ _ _ (@ev_meth _ _ _ _ _ _ _ _ _ _ _ _ _ _ ("str") ("str.join") ([_]) ([⟨rList rStr, codes.map pic1⟩]) (rStr) ("") _ _ rfl rfl F.plainAttrs_str F.slot_str_join F.type_str_join ev_str (fun X s v hv => ?_) rfl (by decide) (.cons ?_ .nil) (@sJoin_c _ _ _ _ _ (by decide) hsum)) (fun v s' k hr => ⟨v, rfl, k, hr⟩)
  · obtain ⟨t, rfl⟩ := hv; exact ⟨typeIs_str s _ t, fun a h => nomatch h⟩
  · have e : codes.map pic1 = ((codes.filter fun _ => true).map pic1) := by rw [List.filter_eq_self.mpr (fun _ _ => rfl)]
    show Ev _ _ _ _ _ _ _ _ (rList rStr) (codes.map pic1)
    rw [e]
    refine @ev_comp _ _ _ _ _ _ _ _ _ _ _ _ _ _ _ _ _ _ (fun _ => true) _ _ ([("pictures", ⟨rPic prog w, picAt picsL⟩)]) (@evs_list _ _ _ _ _ _ _ _ _ _ _ hR'.none (@ev_name _ _ _ _ _ _ _ _ _ _ _ _ rfl (by decide) (by decide))) (Frees.one rfl rfl rfl (fun h => nomatch (show some NameKind.cell = some NameKind.local from h)) rfl) (fun z hz cenv ce => TstAll.nil) (fun z hz _ cenv ce => ?_) (by show _ ≤ 2 ^ 24; lia -abstractProof) rfl (.inl rfl) (by decide) (by intro _; rfl)
    · obtain ⟨x, hx⟩ := Option.isSome_iff_exists.mp (hc z hz)
      have : pic1 z = x := by unfold pic1; rw [hx]; rfl
      rw [this]
      exact @ev_itemD _ _ _ _ _ _ _ _ _ _ _ _ _ (@ev_name _ _ _ _ _ _ _ _ _ _ _ _ rfl (by decide) (by decide)) (@ev_name _ _ _ _ _ _ _ _ _ _ _ _ rfl (by decide) (by decide)) hx (by intro _ _; with_unfolding_all rfl)
end
end Mine.Internal
end
section
open PySem PySem.Calls PySem.SeqAt
set_option maxRecDepth 100000
namespace Mine.Internal
section
variable {prog : Program} {w : World} {A : Around} {E : Value → Shared → Prop} {s : Shared}
theorem set_last {l : Addr} {items : Array Value} {t : Tok} {v : Value} {Q : Unit → Shared → Prop} (hl : s.heap.PlainList l items) (hn : 0 < items.size) (hsz : items.size < 2 ^ 62)
    (hQ : ∀ h', h'.PlainList l (items.setIfInBounds (items.size - 1) v) → Heap.SameBut l s.heap h' → Q () { s with heap := h' }) :
    wpAny (model prog w) A (setItem (.ref l) (.int (-1) t) v) Q E s := by
  obtain ⟨n, ho⟩ := id hl
  have hT : s.TypeIs (.ref l) "list" := ⟨_, ho, rfl⟩
  unfold setItem
  try with_reducible refine wpAny_holding ?_
  first | refine wpAny_bind (wpAny_pure ?_) | skip
  refine wpAny_bind (wpAny_sequenceKey hT (by decide) ?_)
  refine wpAny_bind (wpAny_callSpecial?_slot (name := Str.ofString "__setitem__") hT slot_list_setitem
    (wpAny_call_entry slot_list_setitem hT entry_list_setitem ?_ (args_list_setitem _ _ _)))
  show wpAny _ _ (Builtin.List.listSubscript? (.int (-1) t) >>= _) _ _ s
  refine wpAny_bind (wpAny_listSubscript_int (fitsIndex_neg (by decide) (by decide)) ?_)
  have hidx : seqIndex? (-1) items.size = some (items.size - 1) := by
    rw [seqIndex_neg (by decide) (by lia -abstractProof)]
    congr 1; lia -abstractProof
  show wpAny _ _ ((Builtin.List.listItems (.ref l) >>= fun xs => pure ((seqIndex? (Int.negSucc 0) xs.size).bind fun i => xs[i]?.map (i, ·))) >>= _) _ _ s
  refine wpAny_bind (wpAny_bind ?_)
  show wpAny _ _ (seqItems? (.ref l) >>= _) _ _ s
  refine wpAny_bind (wpAny_seqItems ho rfl (wpAny_pure (wpAny_pure ?_)))
  have hj : items.size - 1 < items.size := by lia -abstractProof
  have hx' : items[items.size - 1]? = some items[items.size - 1] := Array.getElem?_eq_getElem hj
  rw [show (Int.negSucc 0) = -1 from rfl, hidx]
  simp only [Option.bind_some, hx', Option.map_some]
  show wpAny _ _ (setSeqItemAt l (items.size - 1) v >>= _) _ _ s
  have hfin : (s.heap.update l (Obj.mapSeq (·.setIfInBounds (items.size - 1) v))).PlainList l (items.setIfInBounds (items.size - 1) v) := by
    exact ⟨_, Heap.get?_update_self _ ho rfl⟩
  refine wpAny_bind (wpAny_setSeqItemAt ho rfl ?_)
  first
    | exact wpAny_bind (wpAny_pure (wpAny_pure ⟨.none, rfl, wpAny_pure (hQ _ hfin (Heap.SameBut.update ..))⟩))
    | exact wpAny_pure ⟨.none, rfl, wpAny_pure (hQ _ hfin (Heap.SameBut.update ..))⟩
end

-- equality of what two values stand for is what == says
structure EqR {α : Type} [DecidableEq α] (r : Rep α) (d : Nat) : Prop where
  one : ∀ {X h v x y}, r.rd X h v x → r.rd X h v y → x = y
  eq : ∀ {A : Around} {X} {s : Shared} {a b x y}, A.units + d < cLine → r.rd X s.heap a x → r.rd X s.heap b y → EqAt A s a b (decide (x = y))
theorem eqR_int : EqR rInt 0 where
  one := fun ⟨t, h⟩ ⟨u, h'⟩ => by subst h; cases h'; rfl
  eq := fun {A X s a b x y} _ ⟨t, h⟩ ⟨u, h'⟩ => by
    subst h h'
    have e : decide (x = y) = (x == y) := by rw [Bool.eq_iff_iff]; simp
    rw [e]; exact EqAt.int_int _ _ _ _
theorem eqR_str : EqR rStr 0 where
  one := fun ⟨t, h⟩ ⟨u, h'⟩ => by subst h; cases h'; rfl
  eq := fun {A X s a b x y} _ ⟨t, h⟩ ⟨u, h'⟩ => by
    subst h h'
    have e : decide (x = y) = (x == y) := by rw [Bool.eq_iff_iff]; simp
    rw [e]; exact EqAt.str_str _ _ _ _

theorem paired_one {α : Type} {F : Value → α → Prop} (hF : ∀ {v x y}, F v x → F v y → x = y) {l : List Value} {xs : List α} (p : Paired F l xs) : ∀ {ys : List α}, Paired F l ys → xs = ys := by
  induction p with
  | nil => intro ys q; cases q; rfl
  | cons h _ ih => intro ys q; cases q with
    | cons h' q' => rw [hF h h', ih q']

theorem all_eq {α : Type} [DecidableEq α] : ∀ (xs ys : List α) (n : Nat), xs.length = n → ys.length = n → ((List.range n).all fun j => decide (xs[j]? = ys[j]?)) = decide (xs = ys) := by
  intro xs ys n h1 h2
  rw [Bool.eq_iff_iff, List.all_eq_true, decide_eq_true_eq]
  constructor
  · intro h
    apply List.ext_getElem?
    intro j
    by_cases hj : j < n
    · exact of_decide_eq_true (h j (List.mem_range.mpr hj))
    · rw [List.getElem?_eq_none (by lia -abstractProof), List.getElem?_eq_none (by lia -abstractProof)]
  · rintro rfl j _; simp

section
variable {α : Type} [DecidableEq α] {r : Rep α} {d : Nat}
theorem rc_lists (H : EqR r d) {A : Around} {X} {s : Shared} {a b : Addr} {xs ys : List α} (hu : A.units + (d + 1) < cLine) (ha : (rList r).rd X s.heap (.ref a) xs) (hb : (rList r).rd X s.heap (.ref b) ys) :
    RcAt A s (.ref a) (.ref b) (decide (xs = ys)) := by
  refine Classical.byContradiction fun zG => ?_
  obtain ⟨_, vs, e, _, hl, hp⟩ := ha
  refine zG ?_
  clear zG
  cases e
  refine Classical.byContradiction fun zG => ?_
  obtain ⟨_, ws, e, _, hl', hq⟩ := hb
  refine zG ?_
  clear zG
  cases e
  have h1 := hp.length
  have h2 := hq.length
  by_cases hlen : xs.length = ys.length
  · rw [← all_eq xs ys vs.length h1.symm (by lia -abstractProof)]
    have hsz : vs.toArray.size = ws.toArray.size := by simp; lia -abstractProof
    have := RcAt.lists (A := A) (e := fun j => decide (xs[j]? = ys[j]?)) (show s.heap.IsList a vs.toArray from hl) (show s.heap.IsList b ws.toArray from hl') hsz (by lia -abstractProof) (fun j j1 j2 => by
      have j1' : j < vs.length := by simpa using j1
      have j2' : j < ws.length := by simpa using j2
      refine Classical.byContradiction fun zG => ?_
      obtain ⟨x, hx, hrx⟩ := Paired.get hp (show vs[j]? = some vs[j] by simp)
      refine zG ?_
      clear zG
      refine Classical.byContradiction fun zG => ?_
      obtain ⟨y, hy, hry⟩ := Paired.get hq (show ws[j]? = some ws[j] by simp)
      refine zG ?_
      clear zG
      have key := H.eq (A := A.in1) (s := s) (by show A.units + 1 + d < cLine; lia -abstractProof) hrx hry
      have e : decide (xs[j]? = ys[j]?) = decide (x = y) := by rw [hx, hy]; simp
      show EqAt A.in1 s vs.toArray[j] ws.toArray[j] (decide (xs[j]? = ys[j]?))
      rw [e]
      simpa using key)
    simpa using this
  · have e : decide (xs = ys) = false := decide_eq_false fun q => hlen (by rw [q])
    rw [e]
    exact RcAt.lists_lengths (A := A) (show s.heap.IsList a vs.toArray from hl) (show s.heap.IsList b ws.toArray from hl') (by simp; lia -abstractProof) (by lia -abstractProof)

theorem rcne_lists (H : EqR r d) {A : Around} {X} {s : Shared} {a b : Addr} {xs ys : List α} (hu : A.units + (d + 1) < cLine) (ha : (rList r).rd X s.heap (.ref a) xs) (hb : (rList r).rd X s.heap (.ref b) ys) :
    RcNeAt A s (.ref a) (.ref b) (decide (xs ≠ ys)) := by
  refine Classical.byContradiction fun zG => ?_
  obtain ⟨_, vs, e, _, hl, hp⟩ := ha
  refine zG ?_
  clear zG
  cases e
  refine Classical.byContradiction fun zG => ?_
  obtain ⟨_, ws, e, _, hl', hq⟩ := hb
  refine zG ?_
  clear zG
  cases e
  have h1 := hp.length
  have h2 := hq.length
  by_cases hlen : xs.length = ys.length
  · have e0 : decide (xs ≠ ys) = !((List.range vs.length).all fun j => decide (xs[j]? = ys[j]?)) := by rw [all_eq xs ys vs.length h1.symm (by lia -abstractProof)]; simp
    rw [e0]
    have hsz : vs.toArray.size = ws.toArray.size := by simp; lia -abstractProof
    have := RcNeAt.lists (A := A) (e := fun j => decide (xs[j]? = ys[j]?)) (show s.heap.IsList a vs.toArray from hl) (show s.heap.IsList b ws.toArray from hl') hsz (by lia -abstractProof) (fun j j1 j2 => by
      have j1' : j < vs.length := by simpa using j1
      have j2' : j < ws.length := by simpa using j2
      refine Classical.byContradiction fun zG => ?_
      obtain ⟨x, hx, hrx⟩ := Paired.get hp (show vs[j]? = some vs[j] by simp)
      refine zG ?_
      clear zG
      refine Classical.byContradiction fun zG => ?_
      obtain ⟨y, hy, hry⟩ := Paired.get hq (show ws[j]? = some ws[j] by simp)
      refine zG ?_
      clear zG
      have key := H.eq (A := A.in1) (s := s) (by show A.units + 1 + d < cLine; lia -abstractProof) hrx hry
      have e : decide (xs[j]? = ys[j]?) = decide (x = y) := by rw [hx, hy]; simp
      show EqAt A.in1 s vs.toArray[j] ws.toArray[j] (decide (xs[j]? = ys[j]?))
      rw [e]
      simpa using key)
    simpa using this
  · have e : decide (xs ≠ ys) = true := decide_eq_true fun q => hlen (by rw [q])
    rw [e]
    exact RcNeAt.lists_lengths (A := A) (show s.heap.IsList a vs.toArray from hl) (show s.heap.IsList b ws.toArray from hl') (by simp; lia -abstractProof) (by lia -abstractProof)

theorem eqR_list (H : EqR r d) : EqR (rList r) (d + 1) where
  one := fun ⟨a, vs, e, _, ⟨o, ho, _, n, hd⟩, hp⟩ ⟨b, ws, e', _, ⟨o', ho', _, n', hd'⟩, hq⟩ => by
    subst e; cases e'
    rw [ho] at ho'; cases ho'
    rw [hd] at hd'; cases hd'
    exact paired_one (F := r.rd _ _) (fun p q => H.one p q) hp hq
  eq := fun {A X s a b x y} hu ha hb => by
    refine Classical.byContradiction fun zG => ?_
    obtain ⟨a', vs, e, k⟩ := id ha
    refine zG ?_
    clear zG
    subst e
    refine Classical.byContradiction fun zG => ?_
    obtain ⟨b', ws, e, k'⟩ := id hb
    refine zG ?_
    clear zG
    subst e
    by_cases hab : a' = b'
    · subst hab
      have : x = y := by
        refine Classical.byContradiction fun zG => ?_
        obtain ⟨_, ⟨o, ho, _, n, hd⟩, hp⟩ := k
        refine zG ?_
        clear zG
        refine Classical.byContradiction fun zG => ?_
        obtain ⟨_, ⟨o', ho', _, n', hd'⟩, hq⟩ := k'
        refine zG ?_
        clear zG
        rw [ho] at ho'; cases ho'
        rw [hd] at hd'; cases hd'
        exact paired_one (F := r.rd _ _) (fun p q => H.one p q) hp hq
      rw [decide_eq_true this]
      exact EqAt.same _
    · exact EqAt.of_refs hab (rc_lists H hu ha hb)

theorem op_eq_list (H : EqR r d) {prog : Program} {w : World} {A : Around} {xs ys : List α} (hu : A.units + (d + 1) < cLine) : ∀ X s a b, Hr X s → (rList r).rd X s.heap a xs → (rList r).rd X s.heap b ys → Sv prog w A (compareOp .Eq a b) X s rBool (decide (xs = ys)) := by
  intro X s a b _ ha hb E
  refine Classical.byContradiction fun zG => ?_
  obtain ⟨a', _, e, _⟩ := id ha
  refine zG ?_
  clear zG
  subst e
  refine Classical.byContradiction fun zG => ?_
  obtain ⟨b', _, e, _⟩ := id hb
  refine zG ?_
  clear zG
  subst e
  exact rc_lists H hu ha hb prog w E _ ⟨Keeps.refl _, rfl⟩
theorem op_ne_list (H : EqR r d) {prog : Program} {w : World} {A : Around} {xs ys : List α} (hu : A.units + (d + 1) < cLine) : ∀ X s a b, Hr X s → (rList r).rd X s.heap a xs → (rList r).rd X s.heap b ys → Sv prog w A (compareOp .NotEq a b) X s rBool (decide (xs ≠ ys)) := by
  intro X s a b _ ha hb E
  refine Classical.byContradiction fun zG => ?_
  obtain ⟨a', _, e, _⟩ := id ha
  refine zG ?_
  clear zG
  subst e
  refine Classical.byContradiction fun zG => ?_
  obtain ⟨b', _, e, _⟩ := id hb
  refine zG ?_
  clear zG
  subst e
  exact rcne_lists H hu ha hb prog w E _ ⟨Keeps.refl _, rfl⟩
end
section
variable {prog : Program} {w : World} {mg mb : Str → Option Value} {A : Around} {env : Env} {s₀ : Shared} {X : List Addr} {ρ : Vs} {E : Value → Shared → Prop} {Z : List Addr} {hb : Heap}
theorem ev_neg {e : Expr} {pos : Pos} {k : Int} (h : Ev prog w mg mb A env ρ e rInt k) : Ev prog w mg mb A env ρ (.UnaryOp .USub e pos) rInt (-k) := by
  intro X s i E
  refine wpAny_UnaryOp (wpAny_mono (h X s i E) (fun v s₁ q₁ => ?_) fun _ _ e => e)
  refine Classical.byContradiction fun zG => ?_
  obtain ⟨k₁, t, rfl⟩ := q₁
  refine zG ?_
  clear zG
  exact PyProof.Rows.neg_int ⟨Keeps.trans k₁ (Keeps.tok _ _), _, rfl⟩

theorem own_last {α : Type} {D : Addr} {r : Rep α} {xs : List α} {z : α} {x : Str} {px p1 p2 pos : Pos} {j : Nat} {s : Shared} (i : In mg mb X env ρ s) (hO : Own D r X s.heap (xs ++ [z]))
    (hx : ρ.lookup x = some ⟨rIs (.ref D), ()⟩) (hd : (x == ("__debug__" : Str)) = false) (hc : (x == ("__classdict__" : Str)) = false) (hlen : xs.length ≤ 1000)
    (hs : ∀ o u, subscripted (.UnaryOp .USub (.Constant (.int 1) j p1) p2) false (.ref o) (.int (-1) u) = operate [.ref o, .int (-1) u] (getItem (.ref o) (.int (-1) u)) := by intro _ _; with_unfolding_all rfl) :
    wpAny (model prog w) A (eval (.Subscript (.Name x px) (.UnaryOp .USub (.Constant (.int 1) j p1) p2) pos) env) (fun v s' => Keeps s s' ∧ r.rd X s'.heap v z) E s := by
  refine PyProof.Rows.Subscript_ (wpAny_mono (ev_name hx hd hc X s i E) (fun ov s₁ q₁ => ?_) fun _ _ e => e)
  obtain ⟨k₁, hv⟩ := q₁
  cases (show ov = .ref D from hv)
  refine wpAny_mono (ev_neg (@ev_int _ _ _ _ _ _ _ (1) _ _) X s₁ (i.keeps k₁) E) (fun iv s₂ q₂ => ?_) fun _ _ e => e
  refine Classical.byContradiction fun zG => ?_
  obtain ⟨k₂, u, rfl⟩ := q₂
  refine zG ?_
  clear zG
  refine Classical.byContradiction fun zG => ?_
  obtain ⟨ys, hp, hy⟩ := (hO.keeps (Keeps.keep k₁)).keeps (Keeps.keep k₂)
  refine zG ?_
  clear zG
  have hl := hp.isList
  have hsz : ys.length = xs.length + 1 := by have := hy.length; simpa using this
  refine Classical.byContradiction fun zG => ?_
  obtain ⟨v, hv, hr⟩ := Paired.get' hy (show (xs ++ [z])[xs.length]? = some z by simp)
  refine zG ?_
  clear zG
  refine subTail hl.typeIs F.slot_list_getitem.lookup (wpAny_getItem_list_neg hl (by decide) (by simp; lia -abstractProof) (by decide) (x := v) ?_ ⟨Keeps.trans k₁ k₂, hr⟩) (hs D u)
  have e : ((-1 : Int) + (ys.toArray.size : Int)).toNat = xs.length := by simp; lia -abstractProof
  rw [e]; simpa using hv

theorem own_put {α : Type} {D : Addr} {r : Rep α} {xs : List α} {z z' : α} {x : Str} {px p1 p2 p3 pos : Pos} {j : Nat} {value : Expr} {s : Shared} {Q : Flow → Shared → Prop} (o : OwnAt s₀ env Z D) (L : Lm mg mb s₀ env X ρ Z hb s)
    (hO : Own D r X s.heap (xs ++ [z])) (hx : ρ.lookup x = some ⟨rIs (.ref D), ()⟩) (hd : (x == ("__debug__" : Str)) = false) (hc : (x == ("__classdict__" : Str)) = false) (hlen : xs.length ≤ 1000)
    (hv : wpAny (model prog w) A (eval value env) (fun v s' => Keeps s s' ∧ r.rd X s'.heap v z') E s)
    (h : ∀ s', Lm mg mb s₀ env X ρ Z hb s' → Own D r X s'.heap (xs ++ [z']) → Q .next s')
    (hs : swapsWith value (some (.Subscript (.Name x px) (.UnaryOp .USub (.Constant (.int 1) j p1) p2) p3)) pos.line env = pure false := by rfl) :
    wpAny (model prog w) A (exec (.Assign [.Subscript (.Name x px) (.UnaryOp .USub (.Constant (.int 1) j p1) p2) p3] value pos) env) Q E s := by
  refine wpAny_Assign_Subscript (wpAny_mono hv (fun v s₁ q₁ => ?_) fun _ _ e => e) hs
  obtain ⟨k₁, hr⟩ := q₁
  have L₁ := L.keeps k₁
  refine wpAny_mono (ev_name hx hd hc X s₁ L₁.fm.inn E) (fun ov s₂ q₂ => ?_) fun _ _ e => e
  obtain ⟨k₂, hov⟩ := q₂
  cases (show ov = .ref D from hov)
  have L₂ := L₁.keeps k₂
  refine wpAny_mono (ev_neg (@ev_int _ _ _ _ _ _ _ (1) _ _) X s₂ L₂.fm.inn E) (fun iv s₃ q₃ => ?_) fun _ _ e => e
  refine Classical.byContradiction fun zG => ?_
  obtain ⟨k₃, u, rfl⟩ := q₃
  refine zG ?_
  clear zG
  have L₃ := L₂.keeps k₃
  have hr₃ := r.mono hr (.of_keep (Keeps.keep (Keeps.trans k₂ k₃)))
  refine Classical.byContradiction fun zG => ?_
  obtain ⟨ys, hp, hy⟩ := hO.keeps (Keeps.keep (Keeps.trans k₁ (Keeps.trans k₂ k₃)))
  refine zG ?_
  clear zG
  have hsz : ys.length = xs.length + 1 := by have := hy.length; simpa using this
  refine set_last hp (by simp; lia -abstractProof) (by simp; lia -abstractProof) fun h' hp' hs' => ?_
  have hD : D ∈ X := L.zX _ o.z
  refine h _ (L₃.wrote (tk := s₃.toks) o hs' (let ⟨n, e⟩ := hp'; ⟨_, e⟩)) ⟨ys.take xs.length ++ [v], ?_, ?_⟩
  · have e : (ys.toArray.setIfInBounds (ys.toArray.size - 1) v) = (ys.take xs.length ++ [v]).toArray := by
      apply Array.toList_inj.mp
      simp only [Array.toList_setIfInBounds, List.size_toArray]
      apply List.ext_getElem?
      intro i
      rw [List.getElem?_set]
      by_cases hi : i < xs.length
      · rw [List.getElem?_append_left (by simp; lia -abstractProof), if_neg (by lia -abstractProof)]; simp [hi]
      · by_cases hi' : i = xs.length
        · subst hi'
          rw [List.getElem?_append_right (by simp; lia -abstractProof), if_pos (by lia -abstractProof), if_pos (by lia -abstractProof)]; simp [hsz]
        · rw [List.getElem?_append_right (by simp; lia -abstractProof), if_neg (by lia -abstractProof), List.getElem?_eq_none (by lia -abstractProof), List.getElem?_eq_none (by simp; lia -abstractProof)]
    rw [e] at hp'; exact hp'
  · have hy' := Paired.take hy xs.length
    rw [List.take_left' rfl] at hy'
    exact Paired.append (Paired.imp hy' fun _ _ q => r.mono q (.of_same hs' hD)) (.cons (r.mono hr₃ (.of_same hs' hD)) .nil)
end
end Mine.Internal
end
section
open PySem PySem.Calls
set_option maxRecDepth 100000
namespace Mine.Internal
noncomputable def pStep (seen : Bool) (p : List (List Int) × List Int) (c : Int) : List (List Int) × List Int :=
  if c = 47 then (p.1 ++ [p.2], []) else if (decide (c = 175) && seen) = true then (p.1 ++ [p.2 ++ [33]], []) else (p.1, p.2 ++ [c])
noncomputable def pFold (seen : Bool) (codes : List Int) : List (List Int) × List Int := codes.foldl (pStep seen) ([], [])
noncomputable def pAll (seen : Bool) (codes : List Int) : List (List Int) := (pFold seen codes).1 ++ [(pFold seen codes).2]
noncomputable def piecesF (seen : Bool) (codes : List Int) : List (List Int) := (pAll seen codes).filter fun q => decide (q ≠ []) && decide (q ≠ [46])
theorem pFold_len (seen : Bool) : ∀ (codes : List Int) (p : List (List Int) × List Int), (codes.foldl (pStep seen) p).1.length ≤ p.1.length + codes.length ∧ (codes.foldl (pStep seen) p).2.length ≤ p.2.length + codes.length
  | [], p => by simp
  | c :: cs, p => by
    have h := pFold_len seen cs (pStep seen p c)
    have h1 : (pStep seen p c).1.length ≤ p.1.length + 1 ∧ (pStep seen p c).2.length ≤ p.2.length + 1 := by
      unfold pStep
      split
      · simp
      · split <;> simp
    simp only [List.foldl_cons, List.length_cons]
    lia -abstractProof

section
variable {prog : Program} {w : World} {mg mb : Str → Option Value} {A : Around}
noncomputable def pcRet : List Stmt := (defAt 22).body.drop 2
set_option maxHeartbeats 1000000 in
theorem con_pieces {β : Type} {rr : Rep β} {y : β} {n : Nat} (hR : Rm (n + 1) A) (codes : List Int) (seen : Bool) (hl : codes.length ≤ 900)
    (hret : ∀ A, Rm n A → ∀ L cells q f c fr X₁ s₀ (E : Value → Shared → Prop), (∀ y, (defAt 22).scope.names.lookup y = some .cell → ∃ c, cells.lookup y = some c) →
      Blk prog w mg mb A s₀ (envK 22 L cells q f c fr) X₁ [("pieces", ⟨rList (rList rInt), pAll seen codes⟩), ("codes", ⟨rList rInt, codes⟩), ("seen", ⟨rBool, seen⟩)] pcRet (fun fl s' => ∃ v, fl = .ret v ∧ Keeps s₀ s' ∧ rr.rd X₁ s'.heap v y) E) :
    Con prog w mg mb A 22 [⟨rList rInt, codes⟩, ⟨rBool, seen⟩] rr y := by
  refine con2 (k := 22) (p := "codes") (p' := "seen") (by decide) hR (by decide) (fun v v' pm cd doc => rfl) (.inl rfl) (.inr rfl) (fun L cells q f cc fr X₁ s₀ hcl hR' E => ?_)
  have hret := hret _ hR' L cells q f cc fr X₁ s₀ E hcl
  generalize hrt : pcRet = rt at hret
  revert rt; refine held ?_; intro rt hrt hret
  have hbody : (defAt 22).body = (defAt 22).body.take 2 ++ rt := by rw [← hrt]; rfl
  rw [hbody]
  refine @blk_own _ _ _ _ _ _ _ _ _ _ _ _ _ _ _ _ _ (rList rInt) ([[]]) (@evnew_list _ _ _ _ _ _ _ _ _ _ ([_]) _ _ rfl (.cons (U := ⟨rList rInt, []⟩) (@ev_ints _ _ _ _ _ _ _ _ _ rfl) .nil) (by show 1 ≤ 2 ^ 24; decide)) rfl (fun D s hDX oa F hO => ?_) (by rfl)
  refine own_for (r := rList rInt) (ρ' := fun i => [("pieces", ⟨rIs (.ref D), ()⟩), ("codes", ⟨rList rInt, codes⟩), ("seen", ⟨rBool, seen⟩)]) (ys := fun i => pAll seen (codes.take i)) (xs := codes) (ri := rInt) (flat_flat _) oa F hO ?_ rfl ?_ ?_
  · intro s E i
    exact wpAny_mono (ev_name (x := "codes") (r := rList rInt) (d := codes) rfl (by decide) (by decide) (D :: X₁) s i E) (fun v s' h => ⟨h.1, lsrc_list hR'.none (i.keeps h.1).here h.2⟩) fun _ _ e => e
  · intro X' i z hb E hz s Lt hO
    have hi : i < codes.length := (List.getElem?_eq_some_iff.mp hz).1
    have htk : codes.take (i + 1) = codes.take i ++ [z] := by rw [List.take_add_one, hz]; rfl
    have hnx : pFold seen (codes.take (i + 1)) = pStep seen (pFold seen (codes.take i)) z := by unfold pFold; rw [htk, List.foldl_append]; rfl
    have hlen := pFold_len seen (codes.take i) ([], [])
    have hlt : (codes.take i).length ≤ 900 := by simp; lia -abstractProof
    try dsimp only
    unfold pAll at hO ⊢
    rw [hnx]
    generalize hp : pFold seen (codes.take i) = p at hO
    revert p; refine held ?_; intro p hp hO
    have hp' : (codes.take i).foldl (pStep seen) ([], []) = p := hp
    rw [hp'] at hlen
    simp only [List.length_nil, Nat.zero_add] at hlen
    have sub : ∀ {s}, Lm mg mb s₀ (envK 22 L cells q f cc fr) X' (("code", ⟨rInt, z⟩) :: [("pieces", ⟨rIs (.ref D), ()⟩), ("codes", ⟨rList rInt, codes⟩), ("seen", ⟨rBool, seen⟩)]) (D :: X₁) hb s →
        Lm mg mb s₀ (envK 22 L cells q f cc fr) X' [("pieces", ⟨rIs (.ref D), ()⟩), ("codes", ⟨rList rInt, codes⟩), ("seen", ⟨rBool, seen⟩)] (D :: X₁) hb s := fun h => h.sub (sub_cons rfl (sub_cons rfl (sub_cons rfl sub_nil)))
    refine wpAny_execs_cons (wpAny_If (wpAny_mono (Q := fun c s' => Keeps s s' ∧ c = decide (z = 47)) ?_ (fun c s₁ h₁ => ?_) fun _ _ e => e))
    · exact tst_cmp (env := envK 22 L cells q f cc fr) (x := z) (y := 47) (r1 := rInt) (r2 := rInt) (z := decide (z = 47)) (@ev_name _ _ _ _ _ _ _ _ _ _ _ _ rfl (by decide) (by decide)) ev_int (cmp_int fun s t u Q E h => PyProof.Rows.eq_int (by rw [beq_eq_decide]; exact h)) (by with_unfolding_all rfl) X' s E Lt.fm.inn
    obtain ⟨k₁, rfl⟩ := h₁
    have L₁ := Lt.keeps k₁
    have O₁ := hO.keeps (Keeps.keep k₁)
    by_cases hc : z = 47
    · rw [decide_eq_true hc]
      refine wpAny_execs_cons (own_append (r := rList rInt) (z := []) oa L₁ O₁ rfl (@ev_ints _ _ _ _ _ _ _ _ _ rfl) (by simp; lia -abstractProof) rfl rfl rfl (by decide) (by decide) rfl fun s₂ L₂ O₂ => ?_)
      refine wpAny_execs_nil (wpAny_execs_nil ⟨rfl, sub L₂, ?_⟩)
      have e : pStep seen p z = (p.1 ++ [p.2], []) := if_pos hc
      rw [e]; exact O₂
    rw [decide_eq_false hc]
    refine wpAny_execs_cons (wpAny_If (wpAny_mono (Q := fun c s' => Keeps s₁ s' ∧ c = (decide (z = 175) && seen)) ?_ (fun c s₂ h₂ => ?_) fun _ _ e => e))
    · exact tst_and (env := envK 22 L cells q f cc fr) (@tst_cmp _ _ _ _ _ _ _ _ _ _ _ _ _ (rInt) (z) (rInt) (175) (decide (z = 175)) (@ev_name _ _ _ _ _ _ _ _ _ _ _ _ rfl (by decide) (by decide)) ev_int (cmp_int fun s t u Q E h => PyProof.Rows.eq_int (by rw [beq_eq_decide]; exact h)) (by with_unfolding_all rfl))
        (fun _ => @tst_bool _ _ _ _ _ _ _ _ _ (@ev_name _ _ _ _ _ _ _ _ _ _ _ _ rfl (by decide) (by decide)) (by intro _; rfl)) X' s₁ E L₁.fm.inn
    obtain ⟨k₂, rfl⟩ := h₂
    have L₂ := L₁.keeps k₂
    have O₂ := O₁.keeps (Keeps.keep k₂)
    have put : ∀ {zs : List Int} {e2 : Expr} {p1 p2 p3 p4 : Pos} {j} {px} {E} , Ev prog w mg mb (A.deeper (envK 22 L cells q f cc fr)) (envK 22 L cells q f cc fr) (("code", ⟨rInt, z⟩) :: [("pieces", ⟨rIs (.ref D), ()⟩), ("codes", ⟨rList rInt, codes⟩), ("seen", ⟨rBool, seen⟩)]) e2 (rList rInt) zs → zs.length = 1 →
        wpAny (model prog w) (A.deeper (envK 22 L cells q f cc fr)) (eval (.BinOp (.Subscript (.Name "pieces" px) (.UnaryOp .USub (.Constant (.int 1) j p1) p2) p3) .Add e2 p4) (envK 22 L cells q f cc fr))
          (fun v s' => Keeps s₂ s' ∧ (rList rInt).rd X' s'.heap v (p.2 ++ zs)) E s₂ := by
      intro zs e2 p1 p2 p3 p4 j px E he hz1
      refine wpAny_BinOp (wpAny_mono (own_last L₂.fm.inn O₂ rfl (by decide) (by decide) (by lia -abstractProof)) (fun a s₃ q₃ => wpAny_mono (he X' s₃ (L₂.fm.inn.keeps q₃.1) E) (fun b s₄ q₄ => ?_) fun _ _ e => e) fun _ _ e => e)
      refine wpAny_mono (op_list (r := rInt) (xs := p.2) (ys := zs) (by show _ ≤ 2 ^ 24; lia -abstractProof) X' s₄ a b ((L₂.keeps q₃.1).keeps q₄.1).fm.inn.here ((rList rInt).mono q₃.2 (.of_keep (Keeps.keep q₄.1))) q₄.2 E) (fun v s₅ q₅ => ⟨Keeps.trans q₃.1 (Keeps.trans q₄.1 q₅.1), q₅.2⟩) fun _ _ e => e
    by_cases hc2 : (decide (z = 175) && seen) = true
    · rw [hc2]
      have e : pStep seen p z = (p.1 ++ [p.2 ++ [33]], []) := by unfold pStep; rw [if_neg hc, if_pos hc2]
      rw [e]
      refine wpAny_execs_cons (own_put (z' := p.2 ++ [33]) oa L₂ O₂ rfl (by decide) (by decide) (by lia -abstractProof) (put (@ev_ints _ _ _ _ _ _ _ _ _ rfl) rfl) fun s₃ L₃ O₃ => ?_)
      refine wpAny_execs_cons (own_append (r := rList rInt) (z := []) oa L₃ O₃ rfl (@ev_ints _ _ _ _ _ _ _ _ _ rfl) (by simp; lia -abstractProof) rfl rfl rfl (by decide) (by decide) rfl fun s₄ L₄ O₄ => ?_)
      exact wpAny_execs_nil (wpAny_execs_nil (wpAny_execs_nil ⟨rfl, sub L₄, O₄⟩))
    · have hc2' : (decide (z = 175) && seen) = false := by simpa using hc2
      rw [hc2']
      have e : pStep seen p z = (p.1, p.2 ++ [z]) := by unfold pStep; rw [if_neg hc, if_neg hc2]
      rw [e]
      refine wpAny_execs_cons (own_put (z' := p.2 ++ [z]) oa L₂ O₂ rfl (by decide) (by decide) (by lia -abstractProof) (put (@ev_list _ _ _ _ _ _ _ _ _ _ ([_]) _ ([z]) rfl (.cons (U := ⟨rInt, z⟩) (@ev_name _ _ _ _ _ _ _ _ _ _ _ _ rfl (by decide) (by decide)) .nil) (by show 1 ≤ 2 ^ 24; decide)) rfl) fun s₃ L₃ O₃ => ?_)
      exact wpAny_execs_nil (wpAny_execs_nil (wpAny_execs_nil ⟨rfl, sub L₃, O₃⟩))
  · intro s F O
    have hlX : (envK 22 L cells q f cc fr).locals ∈ X₁ := (List.mem_cons.mp F.lX).resolve_left (Ne.symm oa.loc)
    have hcX : ∀ n c, (envK 22 L cells q f cc fr).cells.lookup n = some c → c ∈ X₁ := fun n c hc => (List.mem_cons.mp (F.cX n c hc)).resolve_left fun q => oa.cell n (q ▸ hc)
    have F₂ := F.give (fun a ha => List.mem_cons_of_mem _ ha) hDX hlX hcX O
    rw [List.take_length] at F₂
    exact hret s F₂

theorem pAll_bounds (seen : Bool) (codes : List Int) (h : codes.length ≤ 900) : (pAll seen codes).length ≤ 901 := by
  have := (pFold_len seen codes ([], [])).1
  unfold pAll pFold
  simp at this ⊢
  lia -abstractProof
theorem pFold_pieces (seen : Bool) : ∀ (codes : List Int) (p : List (List Int) × List Int) (m : Nat), (∀ q ∈ p.1, q.length ≤ m) → p.2.length ≤ m → (∀ q ∈ (codes.foldl (pStep seen) p).1, q.length ≤ m + codes.length) ∧ (codes.foldl (pStep seen) p).2.length ≤ m + codes.length
  | [], p, m, h1, h2 => ⟨h1, h2⟩
  | c :: cs, p, m, h1, h2 => by
    have h : (∀ q ∈ (pStep seen p c).1, q.length ≤ m + 1) ∧ (pStep seen p c).2.length ≤ m + 1 := by
      unfold pStep
      split
      · refine ⟨fun q hq => ?_, by simp⟩
        rcases List.mem_append.mp hq with hq | hq
        · have := h1 q hq; lia -abstractProof
        · simp at hq; subst hq; lia -abstractProof
      · split
        · refine ⟨fun q hq => ?_, by simp⟩
          rcases List.mem_append.mp hq with hq | hq
          · have := h1 q hq; lia -abstractProof
          · simp at hq; subst hq; simp; lia -abstractProof
        · exact ⟨fun q hq => by have := h1 q hq; lia -abstractProof, by simp; lia -abstractProof⟩
    have := pFold_pieces seen cs (pStep seen p c) (m + 1) h.1 h.2
    simp only [List.foldl_cons, List.length_cons]
    refine ⟨fun q hq => by have := this.1 q hq; lia -abstractProof, by have := this.2; lia -abstractProof⟩
theorem pAll_pieces (seen : Bool) (codes : List Int) : ∀ q ∈ pAll seen codes, q.length ≤ codes.length := by
  intro q hq
  have h := pFold_pieces seen codes ([], []) 0 (by simp) (by simp)
  unfold pAll pFold at hq
  rcases List.mem_append.mp hq with hq | hq
  · have := h.1 q hq; lia -abstractProof
  · simp at hq; subst hq; have := h.2; lia -abstractProof

theorem pc_test {A : Around} {env : Env} {ρ : Vs} {q : List Int} {n : Nat} {p1 p2 p3 p4 p5 p6 p7 p8 : Pos} {j : Nat} (hR : Rm n A) (hq : ρ.lookup ("piece" : Str) = some ⟨rList rInt, q⟩) :
    Tst prog w mg mb A env ρ (.BoolOp .And [.Compare (.Name "piece" p1) [.NotEq] [.List [] p2] p3, .Compare (.Name "piece" p4) [.NotEq] [.List [.Constant (.int 46) j p5] p6] p7] p8) (decide (q ≠ []) && decide (q ≠ [46])) := by
  have hu : A.units + 1 < cLine := by have := hR.2.1; show _ < 9900; lia -abstractProof
  exact @tst_and _ _ _ _ _ _ _ _ _ _ _ _ (@tst_cmp _ _ _ _ _ _ _ _ _ _ _ _ _ _ _ _ _ _ (@ev_name _ _ _ _ _ _ _ _ _ _ _ _ hq (by decide) (by decide)) (@ev_ints _ _ _ _ _ _ _ _ ([]) rfl) (op_ne_list eqR_int hu) (by with_unfolding_all rfl)) (fun _ => @tst_cmp _ _ _ _ _ _ _ _ _ _ _ _ _ _ _ _ _ _ (@ev_name _ _ _ _ _ _ _ _ _ _ _ _ hq (by decide) (by decide)) (@ev_ints _ _ _ _ _ _ _ _ ([46]) rfl) (op_ne_list eqR_int hu) (by with_unfolding_all rfl))

theorem con_pieces_f {n : Nat} (hR : Rm (n + 1) A) (codes : List Int) (hl : codes.length ≤ 900) : Con prog w mg mb A 22 [⟨rList rInt, codes⟩, ⟨rBool, false⟩] (rList (rList rInt)) (piecesF false codes) := by
  refine con_pieces hR codes false hl fun A hR' L cells q f c fr X₁ s₀ E hcl => ?_
  have e : piecesF false codes = ((pAll false codes).filter fun q => decide (q ≠ []) && decide (q ≠ [46])).map fun q => q := by simp [piecesF]
  rw [e]
  refine @blk_ret _ _ _ _ _ _ _ _ _ _ _ _ _ _ _ _ _ (@ev_comp _ _ _ _ _ _ _ _ _ _ _ _ _ _ _ _ _ _ _ _ _ ([("seen", ⟨rBool, false⟩)]) (@evs_list _ _ _ _ _ _ _ _ _ _ _ hR'.none (@ev_name _ _ _ _ _ _ _ _ _ _ _ _ rfl (by decide) (by decide))) (Frees.one rfl rfl rfl (fun h => nomatch (show some NameKind.cell = some NameKind.local from h)) rfl) (fun z hz cenv ce => TstAll.one (@pc_test _ _ _ _ _ _ _ _ _ _ _ _ _ _ _ _ _ _ hR' rfl)) (fun z hz _ cenv ce => ?_) (by have := pAll_bounds false codes hl; show _ ≤ 2 ^ 24; lia -abstractProof) rfl (.inl rfl) (by decide) (by intro _; rfl)) (fun v s' k hr => ⟨v, rfl, k, hr⟩)
  exact ev_ifexp (c := false) (@tst_bool _ _ _ _ _ _ _ _ _ (@ev_name _ _ _ _ _ _ _ _ _ _ _ _ rfl (by decide) (by decide)) (by intro _; rfl)) (fun h => nomatch h) fun _ => @ev_name _ _ _ _ _ _ _ _ _ _ _ _ rfl (by decide) (by decide)

theorem con_pieces_t {n : Nat} (hR : Rm (n + 2) A) (codes : List Int) (hl : codes.length ≤ 900) (hc : ∀ q ∈ piecesF true codes, ∀ c ∈ q, (picAt picsL c).isSome = true) : Con prog w mg mb A 22 [⟨rList rInt, codes⟩, ⟨rBool, true⟩] (rList rStr) ((piecesF true codes).map drawnF) := by
  refine con_pieces hR codes true hl fun A hR' L cells q f c fr X₁ s₀ E hcl => ?_
  refine @blk_ret _ _ _ _ _ _ _ _ _ _ _ _ _ _ _ _ _ (@ev_comp _ _ _ _ _ _ _ _ _ _ _ _ _ _ _ _ _ _ _ _ _ ([("seen", ⟨rBool, true⟩)]) (@evs_list _ _ _ _ _ _ _ _ _ _ _ hR'.none (@ev_name _ _ _ _ _ _ _ _ _ _ _ _ rfl (by decide) (by decide))) (Frees.one rfl rfl rfl (fun h => nomatch (show some NameKind.cell = some NameKind.local from h)) rfl) (fun z hz cenv ce => TstAll.one (@pc_test _ _ _ _ _ _ _ _ _ _ _ _ _ _ _ _ _ _ hR' rfl)) (fun z hz hp cenv ce => ?_) (by have := pAll_bounds true codes hl; show _ ≤ 2 ^ 24; lia -abstractProof) rfl (.inl rfl) (by decide) (by intro _; rfl)) (fun v s' k hr => ⟨v, rfl, k, hr⟩)
  refine @ev_ifexp _ _ _ _ _ _ _ _ _ _ _ _ _ _ (true) (@tst_bool _ _ _ _ _ _ _ _ _ (@ev_name _ _ _ _ _ _ _ _ _ _ _ _ rfl (by decide) (by decide)) (by intro _; rfl)) (fun _ => ?_) (fun h => nomatch h)
  exact @ev_call _ _ _ _ _ _ _ _ (21) ("_law_drawn") _ _ _ ([_]) _ _ _ (by decide) (by decide +kernel) (ce.kind rfl) rfl (.cons (@ev_name _ _ _ _ _ _ _ _ _ _ _ _ rfl (by decide) (by decide)) .nil) (@con_drawn _ _ _ _ _ _ hR' z (hc z (List.mem_filter.mpr ⟨hz, hp⟩)) (by have := pAll_pieces true codes z hz; lia -abstractProof)) (by decide)
end
end Mine.Internal
end
section
open PySem PySem.Calls
set_option maxRecDepth 100000
namespace Mine.Internal
theorem ints_of_paired {X : List Addr} {h : Heap} {vs : List Value} {ns : List Int} (p : Paired (rInt.rd X h) vs ns) : ∃ xs : Array (Int × Tok), vs.toArray = intItems xs ∧ ns = xs.toList.map (·.1) := by
  have : ∃ l : List (Int × Tok), vs = l.map (fun p => Value.int p.1 p.2) ∧ ns = l.map (·.1) := by
    induction p with
    | nil => exact ⟨[], rfl, rfl⟩
    | cons h _ ih =>
      obtain ⟨t, rfl⟩ := h
      refine Classical.byContradiction fun zG => ?_
      obtain ⟨l, rfl, rfl⟩ := ih
      refine zG ?_
      clear zG
      exact ⟨(_, t) :: l, rfl, rfl⟩
  refine Classical.byContradiction fun zG => ?_
  obtain ⟨l, rfl, rfl⟩ := this
  refine zG ?_
  clear zG
  exact ⟨l.toArray, by simp [intItems], rfl⟩
section
variable {prog : Program} {w : World} {mg mb : Str → Option Value} {A : Around} {env : Env} {ρ : Vs}
theorem con_minI {ns : List Int} {M : Int} (hh : A.handled = none) (h1 : M ∈ ns) (h2 : ∀ a ∈ ns, M ≤ a) : ConB prog w A (.builtin "min") [⟨rList rInt, ns⟩] rInt M := by
  intro X s vs hX hv E
  refine Classical.byContradiction fun zG => ?_
  obtain ⟨a, rfl, hl⟩ := vals1 hv
  refine zG ?_
  clear zG
  refine Classical.byContradiction fun zG => ?_
  obtain ⟨l, ws, rfl, _, ho, hp⟩ := hl
  refine zG ?_
  clear zG
  refine Classical.byContradiction fun zG => ?_
  obtain ⟨xs, e, hns⟩ := ints_of_paired hp
  refine zG ?_
  clear zG
  have hl : s.heap.IsList l ws.toArray := ho
  dsimp only at hns
  rw [e] at hl
  have hsz : 0 < xs.size := by
    have := List.length_pos_of_mem h1
    rw [hns, List.length_map, Array.length_toList] at this; exact this
  refine min_intList hh hl hsz fun v h' tk hv hk => ?_
  obtain ⟨t, rfl⟩ := intItems_at hv
  obtain ⟨g1, g2⟩ := argBest_lt (numAt xs) (xs.size - 1)
  refine ⟨Keeps.of hk, t, ?_⟩
  congr 1
  apply Int.le_antisymm
  · rw [hns] at h1
    refine Classical.byContradiction fun zG => ?_
    obtain ⟨j, hj, q⟩ := mem_getD h1
    refine zG ?_
    clear zG
    rw [List.length_map, Array.length_toList] at hj
    rw [← q, ← numAt_eq]; exact g2 j (by lia -abstractProof)
  · apply h2
    rw [hns, numAt_eq]; exact getD_mem (by rw [List.length_map, Array.length_toList]; lia -abstractProof)
theorem con_maxI {ns : List Int} {M : Int} (hh : A.handled = none) (h1 : M ∈ ns) (h2 : ∀ a ∈ ns, a ≤ M) : ConB prog w A (.builtin "max") [⟨rList rInt, ns⟩] rInt M := by
  intro X s vs hX hv E
  refine Classical.byContradiction fun zG => ?_
  obtain ⟨a, rfl, hl⟩ := vals1 hv
  refine zG ?_
  clear zG
  refine Classical.byContradiction fun zG => ?_
  obtain ⟨l, ws, rfl, _, ho, hp⟩ := hl
  refine zG ?_
  clear zG
  refine Classical.byContradiction fun zG => ?_
  obtain ⟨xs, e, hns⟩ := ints_of_paired hp
  refine zG ?_
  clear zG
  have hl : s.heap.IsList l ws.toArray := ho
  dsimp only at hns
  rw [e] at hl
  have hsz : 0 < xs.size := by
    have := List.length_pos_of_mem h1
    rw [hns, List.length_map, Array.length_toList] at this; exact this
  refine max_intList hh hl hsz fun v h' tk hv hk => ?_
  obtain ⟨t, rfl⟩ := intItems_at hv
  obtain ⟨g1, g2⟩ := argBest_gt (numAt xs) (xs.size - 1)
  refine ⟨Keeps.of hk, t, ?_⟩
  congr 1
  apply Int.le_antisymm
  · apply h2
    rw [hns, numAt_eq]; exact getD_mem (by rw [List.length_map, Array.length_toList]; lia -abstractProof)
  · rw [hns] at h1
    refine Classical.byContradiction fun zG => ?_
    obtain ⟨j, hj, q⟩ := mem_getD h1
    refine zG ?_
    clear zG
    rw [List.length_map, Array.length_toList] at hj
    rw [← q, ← numAt_eq]; exact g2 j (by lia -abstractProof)

theorem Paired.reps {α β : Type} {F : α → β → Prop} {l : List α} {m : List β} (p : Paired F l m) : ∀ n, Paired F (List.replicate n l).flatten (List.replicate n m).flatten
  | 0 => .nil
  | n + 1 => by
    rw [List.replicate_succ, List.replicate_succ, List.flatten_cons, List.flatten_cons]
    exact Paired.append p (Paired.reps p n)
-- a list, repeated
theorem op_rep {α : Type} {r : Rep α} {xs : List α} {n : Int} (hz : xs.length * n.toNat ≤ 2 ^ 24) (h0 : 0 ≤ n) (hn : n ≤ 1000000) : ∀ X s a b, Hr X s → (rList r).rd X s.heap a xs → rInt.rd X s.heap b n → Sv prog w A (binaryOp .Mult a b) X s (rList r) (List.replicate n.toNat xs).flatten := by
  intro X s a b hX ⟨l, vs, e, hl, ho, hp⟩ ⟨u, e'⟩ E
  subst e e'
  refine Classical.byContradiction fun zG => ?_
  obtain ⟨⟨cls, dd, data, sl⟩, ho, hc, k, hd⟩ := id ho
  refine zG ?_
  clear zG
  simp only at hc hd
  subst hc hd
  have h1 := hp.length
  have hsz' : vs.toArray.size * n.toNat ≤ 2 ^ 24 := by rw [List.size_toArray, h1]; exact hz
  refine wpAny_binaryOp_repeat_ref (T := "list") (U := "int") (by decide) ⟨_, ho, rfl⟩ (fun s' => typeIs_int s' _ u) noFill_list_mul F.fills_int_mul F.slot_int_rmul repeat_list F.slot_int_index.lookup
    (call_meets F.slot_int_rmul (typeIs_int s _ u) F.entry_int_rmul (F.args_int_rmul_2 _ _) (lm_int_rmul_list_any n u l vs.toArray k dd sl)
      ⟨ho, rfl, ⟨_, ho, rfl⟩, call_meets F.slot_list_mul ⟨_, ho, rfl⟩ F.entry_list_mul (F.args_list_mul_2 _ _)
        (lm_list_mul_any l vs.toArray k dd sl n u (by simp [Builtin.List.listFitsIndex]; lia -abstractProof) (by lia -abstractProof) (by simp [Builtin.List.listTooLong, sizeLine]; rw [List.size_toArray] at hsz'; lia -abstractProof)) ⟨ho, ?_⟩⟩)
  rw [PyProof.Rows.listMul_foldl_if]
  refine ⟨Keeps.of (keep_push _ _), _, (List.replicate n.toNat vs).flatten, rfl, not_in_X hX, ⟨_, Heap.get?_push_size _ rfl, rfl, _, rfl⟩, ?_⟩
  exact Paired.reps (Paired.imp hp fun _ _ q => r.mono q (.of_keep (keep_push _ _))) n.toNat

theorem src_range {X : List Addr} {s : Shared} {n : Int} {v : Value} (hh : A.handled = none) (h0 : 0 ≤ n) (hn : n < 1000000) (h : rRange.rd X s.heap v n) : Src prog w A X s v rInt (ups n) := by
  refine Classical.byContradiction fun zG => ?_
  obtain ⟨a, t, u, v', rfl, ha, hr⟩ := h
  refine zG ?_
  clear zG
  intro Q E hQ
  have hsz : s.heap.get? s.heap.objs.size = none := Heap.get?_none_of_le (Nat.le_refl _)
  have hN : Builtin.Range.rangeSize 0 n 1 = (n.toNat : Int) := by
    unfold Builtin.Range.rangeSize
    rw [if_pos (by decide)]
    split <;> lia -abstractProof
  refine wpAny_pyIter_range hr (small_of h0 hn) (hQ _ [s.heap.objs.size] [s.heap.objs.size] n.toNat _ _ _ (Keeps.of (keep_push _ _)) (walks_bound (Walks.range hh s.heap.objs.size 0 1 n.toNat)) ?_ ?_ ?_ ?_ ?_ ?_)
  · show IsRangeIter _ _ _ _ _
    rw [hN]
    simp only [IsRangeIter, Int.natCast_zero, Int.zero_mul, Int.add_zero, Int.sub_zero]
    exact Heap.get?_push_size _ rfl
  · intro b hb; simp at hb; subst hb
    show _ < (s.heap.push _).objs.size
    rw [Heap.size_push]; exact Nat.lt_succ_self _
  · intro b hb; simp at hb; subst hb; exact hsz
  · intro i h hst b hb; simp at hb; subst hb; exact ⟨_, hst⟩
  · simp [ups]
  · rintro i x ⟨hi, t, rfl⟩
    refine ⟨(i : Int), ?_, t, by simp⟩
    simp [ups, hi]
theorem evs_range {e : Expr} {n : Int} (hh : A.handled = none) (h0 : 0 ≤ n) (hn : n < 1000000) (h : Ev prog w mg mb A env ρ e rRange n) : EvS prog w mg mb A env ρ e rInt (ups n) :=
  fun X s E i => wpAny_mono (h X s i E) (fun _ _ q => ⟨q.1, src_range hh h0 hn q.2⟩) fun _ _ e => e

noncomputable def altRows {α : Type} (rows : List (List α)) (c : Nat) : List (List α) := rows.map fun row => row.take c
theorem ups_mem {n : Nat} {z : Int} (h : z ∈ ups (n : Int)) : ∃ j : Nat, z = j ∧ j < n := by
  unfold ups at h
  refine Classical.byContradiction fun zG => ?_
  obtain ⟨j, hj, rfl⟩ := List.mem_map.mp h
  refine zG ?_
  clear zG
  exact ⟨j, rfl, by simpa using hj⟩
theorem mem_ups {n j : Nat} (h : j < n) : (j : Int) ∈ ups (n : Int) := List.mem_map.mpr ⟨j, by simpa using h, rfl⟩

set_option maxHeartbeats 1000000 in
theorem con_alike {α : Type} [DecidableEq α] {r : Rep α} {d : Nat} (H : EqR r d) (hd : d ≤ 3) {n : Nat} (hR : Rm (n + 1) A) (row0 : List α) (rest : List (List α)) (hl : rest.length ≤ 100) (hrow : ∀ row ∈ row0 :: rest, row.length ≤ 10000) (m k : Nat)
    (hm : m ∈ (row0 :: rest).map List.length ∧ ∀ a ∈ (row0 :: rest).map List.length, m ≤ a)
    (hk : k ≤ m ∧ altRows (row0 :: rest) k = List.replicate (rest.length + 1) (row0.take k) ∧ ∀ c ≤ m, altRows (row0 :: rest) c = List.replicate (rest.length + 1) (row0.take c) → c ≤ k) :
    Con prog w mg mb A 23 [⟨rList (rList r), row0 :: rest⟩] (rList r) (row0.take k) := by
  refine con1 (k := 23) (p := "rows") (by decide) hR (fun v pm cd doc => rfl) (.inr rfl) (fun L cells q f cc fr X₁ s₀ hcl hR' E => ?_)
  have hm1000 : m ≤ 10000 := by
    refine Classical.byContradiction fun zG => ?_
    obtain ⟨row, h1, h2⟩ := List.mem_map.mp hm.1
    refine zG ?_
    clear zG
    have := hrow row h1; lia -abstractProof
  refine blk_assign_comp (r := rInt) (xs := ups ((m + 1 : Nat) : Int)) (r' := rInt) (f := fun z => z) (p := fun z => decide (altRows (row0 :: rest) z.toNat = List.replicate (rest.length + 1) (row0.take z.toNat))) (ρ' := [("rows", ⟨rList (rList r), row0 :: rest⟩)])
    ?_ (Frees.one rfl rfl rfl (fun h => nomatch (show some NameKind.cell = some NameKind.local from h)) rfl) (fun z hz cenv ce => ?_) (fun z hz _ cenv ce => @ev_name _ _ _ _ _ _ _ _ _ _ _ _ rfl (by decide) (by decide)) ?_ (by simp [ups]; show _ ≤ 2 ^ 24; lia -abstractProof) rfl (.inr rfl) (by decide) rfl rfl
  · refine @evs_range _ _ _ _ _ _ _ _ _ hR'.none (by lia -abstractProof) (by lia -abstractProof) (@ev_range _ _ _ _ _ _ _ _ _ _ _ rfl ?_ (by rfl))
    rw [Int.natCast_add]
    refine @ev_add_int _ _ _ _ _ _ _ _ _ _ _ _ (@ev_bcall _ _ _ _ _ _ _ _ ("min") _ _ _ _ ([_]) _ _ _ (by decide) (by decide +kernel) rfl rfl (.cons (U := ⟨rList rInt, ((row0 :: rest).filter fun _ => true).map fun row => (row.length : Int)⟩) ?_ .nil) (@con_minI _ _ _ _ _ hR'.none ?_ ?_) (by decide)) ev_int
    · refine @ev_comp _ _ _ _ _ _ _ _ _ _ _ _ _ _ _ _ _ _ _ _ _ ([]) (@evs_list _ _ _ _ _ _ _ _ _ _ _ hR'.none (@ev_name _ _ _ _ _ _ _ _ _ _ _ _ rfl (by decide) (by decide))) (Frees.nil (by decide)) (fun z hz cenv ce => TstAll.nil) (fun z hz _ cenv ce => ?_) (by simp; show _ ≤ 2 ^ 24; lia -abstractProof) rfl (.inl rfl) (by decide) (by intro _; rfl)
      exact @ev_bcall _ _ _ _ _ _ _ _ ("len") _ _ _ _ ([_]) _ _ _ (by decide) (by decide +kernel) (ce.kind rfl) rfl (.cons (@ev_name _ _ _ _ _ _ _ _ _ _ _ _ rfl (by decide) (by decide)) .nil) (@ev_len _ _ _ _ _ _ (by have := hrow z hz; lia -abstractProof)) (by decide)
    · rw [List.filter_eq_self.mpr (fun _ _ => rfl)]
      refine Classical.byContradiction fun zG => ?_
      obtain ⟨row, h1, h2⟩ := List.mem_map.mp hm.1
      refine zG ?_
      clear zG
      exact List.mem_map.mpr ⟨row, h1, by rw [h2]⟩
    · rw [List.filter_eq_self.mpr (fun _ _ => rfl)]
      intro a ha
      refine Classical.byContradiction fun zG => ?_
      obtain ⟨row, h1, rfl⟩ := List.mem_map.mp ha
      refine zG ?_
      clear zG
      have := hm.2 row.length (List.mem_map.mpr ⟨row, h1, rfl⟩)
      lia -abstractProof
  · obtain ⟨j, rfl, hj⟩ := ups_mem hz
    have e1 : altRows (row0 :: rest) j = ((row0 :: rest).filter fun _ => true).map fun row => row.take j := by rw [List.filter_eq_self.mpr (fun _ _ => rfl)]; rfl
    have e2 : List.replicate (rest.length + 1) (row0.take j) = (List.replicate ((rest.length + 1 : Nat) : Int).toNat [row0.take j]).flatten := by rw [Int.toNat_natCast]; simp
    have hA : (A.deeper (envK 23 L cells q f cc fr)).units + (d + 1 + 1) < cLine := by have := hR'.2.1; show _ < 9900; lia -abstractProof
    rw [Int.toNat_natCast]
    refine TstAll.one (@tst_cmp _ _ _ _ _ _ _ _ _ _ _ _ _ (rList (rList r)) (altRows (row0 :: rest) j) (rList (rList r)) (List.replicate (rest.length + 1) (row0.take j)) _ ?_ ?_ (op_eq_list (eqR_list H) hA) (by with_unfolding_all rfl))
    · rw [e1]
      refine @ev_comp _ _ _ _ _ _ _ _ _ _ _ _ _ _ _ _ _ _ _ _ _ ([("count", ⟨rInt, (j : Int)⟩)]) (@evs_list _ _ _ _ _ _ _ _ _ _ _ hR'.none (@ev_name _ _ _ _ _ _ _ _ _ _ _ _ rfl (by decide) (by decide))) (Frees.one rfl rfl rfl ?_ rfl) (fun z hz cenv ce => TstAll.nil) (fun z hz _ cenv ce => ?_) (by simp; show _ ≤ 2 ^ 24; lia -abstractProof) rfl (.inl rfl) (by decide) (by intro _; rfl)
      · rw [ce.kind (k := .cell) rfl]; exact fun h => nomatch h
      · exact @ev_cut _ _ _ _ _ _ _ _ _ _ _ _ _ _ _ _ _ _ (@ev_name _ _ _ _ _ _ _ _ _ _ _ _ rfl (by decide) (by decide)) evp_none (@evp_some _ _ _ _ _ _ _ _ _ (@ev_name _ _ _ _ _ _ _ _ _ _ _ _ rfl (by decide) (by decide))) (fun h => cut_upto _ h) (by have := hrow z hz; show _ ≤ 2 ^ 24; lia -abstractProof)
    · rw [e2]
      refine @ev_binop _ _ _ _ _ _ _ _ _ _ _ _ _ _ _ _ _ _ _ _ (@ev_list _ _ _ _ _ _ _ _ _ _ ([_]) _ ([row0.take j]) rfl (.cons (U := ⟨rList r, row0.take j⟩) ?_ .nil) (by show 1 ≤ 2 ^ 24; decide)) (@ev_bcall _ _ _ _ _ _ _ _ ("len") _ _ _ _ ([_]) _ _ (((rest.length + 1 : Nat) : Int)) (by decide) (by decide +kernel) (ce.kind rfl) rfl (.cons (@ev_name _ _ _ _ _ _ _ _ _ _ _ _ rfl (by decide) (by decide)) .nil) (@ev_len _ _ _ _ _ (row0 :: rest) (by simp; lia -abstractProof)) (by decide)) (op_rep (by rw [Int.toNat_natCast]; simp; lia -abstractProof) (by lia -abstractProof) (by lia -abstractProof))
      exact @ev_cut _ _ _ _ _ _ _ _ _ _ _ _ _ _ _ _ _ _ (@ev_item _ _ _ _ _ _ _ _ _ _ _ _ _ (0) _ (@ev_name _ _ _ _ _ _ _ _ _ _ _ _ rfl (by decide) (by decide)) ev_int (by decide) (by decide) rfl (by intro _ _; with_unfolding_all rfl)) evp_none (@evp_some _ _ _ _ _ _ _ _ _ (@ev_name _ _ _ _ _ _ _ _ _ _ _ _ rfl (by decide) (by decide))) (fun h => cut_upto _ h) (by have := hrow row0 List.mem_cons_self; show _ ≤ 2 ^ 24; lia -abstractProof)
  · refine @blk_ret _ _ _ _ _ _ _ _ _ _ _ _ _ _ _ _ _ (@ev_cut _ _ _ _ _ _ _ _ _ _ _ _ _ _ _ _ _ (some (k : Int)) (@ev_item _ _ _ _ _ _ _ _ _ _ _ _ _ (0) _ (@ev_name _ _ _ _ _ _ _ _ _ _ _ _ rfl (by decide) (by decide)) ev_int (by decide) (by decide) rfl (by intro _ _; with_unfolding_all rfl)) evp_none (@evp_some _ _ _ _ _ _ _ _ _ ?_) (fun h => cut_upto _ h) (by have := hrow row0 List.mem_cons_self; show _ ≤ 2 ^ 24; lia -abstractProof)) (fun v s' k hr => ⟨v, rfl, k, hr⟩)
    refine @ev_bcall _ _ _ _ _ _ _ _ ("max") _ _ _ _ ([_]) _ _ _ (by decide) (by decide +kernel) rfl rfl (.cons (@ev_name _ _ _ _ _ _ _ _ _ _ _ _ rfl (by decide) (by decide)) .nil) (@con_maxI _ _ _ _ _ hR'.none ?_ ?_) (by decide)
    · refine List.mem_map.mpr ⟨(k : Int), List.mem_filter.mpr ⟨mem_ups (by lia -abstractProof), ?_⟩, rfl⟩
      rw [Int.toNat_natCast]; exact decide_eq_true hk.2.1
    · intro a ha
      refine Classical.byContradiction fun zG => ?_
      obtain ⟨z, hz, rfl⟩ := List.mem_map.mp ha
      refine zG ?_
      clear zG
      obtain ⟨hz1, hz2⟩ := List.mem_filter.mp hz
      refine Classical.byContradiction fun zG => ?_
      obtain ⟨j, rfl, hj⟩ := ups_mem hz1
      refine zG ?_
      clear zG
      rw [Int.toNat_natCast] at hz2
      have := hk.2.2 j (by lia -abstractProof) (of_decide_eq_true hz2)
      lia -abstractProof
end
end Mine.Internal
end
section
open PySem PySem.Calls
set_option maxRecDepth 100000
namespace Mine.Internal
section
variable {prog : Program} {w : World} {mg mb : Str → Option Value} {A : Around} {env : Env} {s₀ : Shared} {X : List Addr} {ρ : Vs} {rest : List Stmt} {Q : Flow → Shared → Prop} {E : Value → Shared → Prop}


structure EnumAt {α : Type} (X : List Addr) (s₁ s s' : Shared) (ea it l : Addr) (vs : List Value) (r : Rep α) (xs : List α) : Prop where
  k1 : Keeps s s₁
  k2 : Keeps s₁ s'
  hE : IsEnum s'.heap ea it 0 .none
  hI : s'.heap.IsListIter it l 0
  hL : s'.heap.IsList l vs.toArray
  hne : s₁.heap.get? ea = none
  hni : s₁.heap.get? it = none
  hei : ea ≠ it
  hlX : l ∉ X
  hle : l ≠ ea
  hli : l ≠ it
  hp : Paired (r.rd X s₁.heap) vs xs
-- what enumerate(a list) makes
noncomputable def EnumOf {α : Type} (X : List Addr) (s s' : Shared) (v : Value) (r : Rep α) (xs : List α) : Prop :=
  ∃ s₁ ea it l vs, v = .ref ea ∧ EnumAt X s₁ s s' ea it l vs r xs

theorem ev_enum {α : Type} {e : Expr} {p pos : Pos} {r : Rep α} {xs : List α} (he : Ev prog w mg mb A env ρ e (rList r) xs) (k1 : env.kindOf "enumerate" = some .globalImplicit) (hs : isStar e = false := by rfl) (X : List Addr) (s : Shared) (E : Value → Shared → Prop) (i : In mg mb X env ρ s) :
    wpAny (model prog w) A (eval (.Call (.Name "enumerate" p) [e] [] pos) env) (fun v s' => EnumOf X s s' v r xs) E s := by
  have hg := i.en.1 ▸ i.gl.g
  have hb := i.en.2.1 ▸ i.gl.b
  refine wpAny_Call_Name_kw (Name_function_global i.en.2.2 k1 (loadGlobal_builtin hg (i.gl.free _ (by decide)) hb ((i.gl.blt _ (by decide)).trans (show bootBuiltins "enumerate" = some (.type "enumerate") by decide +kernel)) ?_) (by decide))
  have hts : backTo pos (starEach [e] env) = [(false, eval e env)] := backTo_plain env pos [e] (by simpa using hs)
  show wpAny _ A (callWith pos (.type "enumerate") [] (backTo pos (starEach [e] env)) []) _ _ s
  rw [hts]
  refine callWith_type rfl (evalArgs_plain (spliced_cons ?_))
  refine wpAny_mono (he X s i E) (fun lv s₁ q₁ => spliced_nil ?_) fun _ _ e => e
  obtain ⟨k₁, hl⟩ := q₁
  refine Classical.byContradiction fun zG => ?_
  obtain ⟨l, vs, rfl, hlX, hax, hp⟩ := hl
  refine zG ?_
  clear zG
  have hax' : s₁.heap.IsList l vs.toArray := hax
  refine Classical.byContradiction fun zG => ?_
  obtain ⟨ol, hol, hor⟩ := id hax
  refine zG ?_
  clear zG
  have hlt := Heap.lt_size hol
  refine call_enumerate_list (s := s₁) hax' fun h' he' hit' _ hk' => ?_
  refine ⟨s₁, _, _, l, vs, rfl, k₁, Keeps.of hk', he', hit', ⟨ol, hk' _ _ hol, hor⟩, Heap.get?_none_of_le (Nat.le_succ _), Heap.get?_none_of_le (Nat.le_refl _), Nat.succ_ne_self _, hlX, Nat.ne_of_lt (Nat.lt_succ_of_lt hlt), Nat.ne_of_lt hlt, hp⟩

theorem walkT_core {α : Type} {xi xc : Str} {pk pv pt : Pos} {x1 : Nat} {body : List Stmt} {r : Rep α} {xs : List α} {ρe : Vs} {J : Nat → Prop} {s₁ s₂ : Shared} {Qe : Shared → Prop} {RE : Value → Shared → Prop} {I : Addr} {fp wr : List Addr} {n : Nat} {Pt : Nat → Array Value → Prop} {St : Nat → Heap → Prop} {Mid : Nat → Addr → Heap → Prop}
    (hflat : Flat r) (hh : A.handled = none) (hxi : env.kindOf xi = some .local) (hxc : env.kindOf xc = some .local) (hJ0 : J 0)
    (hstep : ∀ X' i z hb E, xs[i]? = some z → J i → LBlk prog w mg mb A s₀ env X' ((xc, ⟨r, z⟩) :: (xi, ⟨rInt, (i : Int)⟩) :: ρ) X hb body
      (fun f s' => (f = .next ∧ J (i + 1) ∧ Lm mg mb s₀ env X' ρ X hb s') ∨ (f = .brk ∧ Lm mg mb s₀ env X' ρe X hb s')) E)
    (hend : J xs.length → ∀ y U, ρe.lookup y = some U → ρ.lookup y = some U) (F₁ : Fm mg mb s₀ env X ρ s₁) (hrest : ∀ s', Fm mg mb s₀ env X ρe s' → Qe s')
    (W : WalksT prog w A I fp wr n Pt St Mid) (k₂ : Keeps s₁ s₂) (hst : St 0 s₂.heap) (hwr : ∀ a ∈ wr, s₁.heap.get? a = none) (hfpX : ∀ b ∈ fp, b ∉ X) (wrOk : ∀ i h, St i h → ∀ a ∈ wr, ∃ o, h.get? a = some o) (hn : n = xs.length)
    (hPt : ∀ i vals, Pt i vals → ∃ t x z h, vals = #[.int i t, x] ∧ xs[i]? = some z ∧ r.rd X h x z) :
    codeAny (model prog w) A (.forLoop (.Tuple [.Name xi pk, .Name xc pv] x1 pt) (.ref I) body [] env) (fun r s' => match r with | .ok f => f = .next ∧ Qe s' | .error e => RE e s') s₂ := by
  have hX : ∀ a ∈ X, a ∉ wr := fun a ha q => by obtain ⟨o, ho⟩ := F₁.inn.here a ha; rw [hwr a q] at ho; cases ho
  have F₂ : Fm mg mb s₀ env (wr ++ X) ρ s₂ := F₁.grow k₂ hwr (wrOk 0 _ hst)
  have h0 : ∀ a ∈ wr, s₀.heap.get? a = none := fun a ha => by
    cases e : s₀.heap.get? a with
    | none => rfl
    | some o => have := Keeps.keep F₁.done a o e; rw [hwr a ha] at this; cases this
  refine codeAny_forLoop_any
    (fun k s' => ∃ i : Nat, i ≤ n ∧ k = n + 1 - i ∧ St i s'.heap ∧ Fm mg mb s₀ env (wr ++ X) ρ s' ∧ J i) ?_ (n + 1) ⟨0, Nat.zero_le _, rfl, hst, F₂, hJ0⟩
  intro k s' zI
  refine Classical.byContradiction fun zG => ?_
  obtain ⟨i, hi, rfl, hst', F', hJ⟩ := zI
  refine zG ?_
  clear zG
  by_cases hlt : i < n
  · refine W.item i _ _ _ hlt hst' fun T vals h₁ tk₁ hPv _ hT hMid hk₁ => ?_
    refine Classical.byContradiction fun zG => ?_
    obtain ⟨t, x, z, h', rfl, hz, hrd⟩ := hPt _ _ hPv
    refine zG ?_
    clear zG
    refine W.go _ x1 pt i T _ _ _ hMid fun h₂ hst₂ hk₂ => ?_
    have ht₂ : h₂.IsTuple T #[.int i t, x] := hT.at fun o e => hk₂ T o (W.apart i T h₁ hMid) e
    refine wpAny_assign_Tuple hh ht₂ rfl rfl fun h₃ hx₃ => ?_
    replace hx₃ : Heap.ExtBut h₂.objs.size h₂ h₃ := hx₃
    have up₃ : ∀ b o, h₂.get? b = some o → h₃.get? b = some o := fun b o x => hx₃ b o (Nat.ne_of_lt (Heap.lt_size x)) x
    have hst₃ := W.frame _ _ _ hst₂ fun b _ o e => up₃ b o e
    have F₃ : Fm mg mb s₀ env (wr ++ X) ρ { s' with heap := h₃, toks := tk₁ } :=
      F'.other (fun b o hb e => up₃ b o (hk₂ b o hb (hk₁ b o hb e))) (fun a ha => List.mem_append_left _ ha) h0 (hX _ F₁.lX) (fun n c hc => hX _ (F₁.cX n c hc)) (wrOk _ _ hst₃)
    show wpAny _ A (do holding [x] (assign (.Name xi pk) env (.int i t)); do holding [] (assign (.Name xc pv) env x); pure ()) _ _ _
    refine wpAny_bind (wpAny_holding (wpAny_assign_Name (store2 (U := ⟨rInt, (i : Int)⟩) F₃ (.inl hxi) ⟨t, rfl⟩ fun s₄ F₄ hs₄ => ?_)))
    refine wpAny_bind (wpAny_holding (wpAny_assign_Name (store2 (U := ⟨r, z⟩) F₄ (.inl hxc) (hflat _ _ _ _ _ _ hrd) fun s₅ F₅ hs₅ => wpAny_pure ?_)))
    have own : ∀ {h h' : Heap}, (∃ a, (a = env.locals ∨ ∃ n, env.cells.lookup n = some a) ∧ Heap.SameBut a h h') → ∀ b o, b ∈ fp → h.get? b = some o → h'.get? b = some o := by
      rintro h h' ⟨a, ha, hs⟩ b o hb e
      refine hs.extBut b o (fun q => ?_) e
      subst q
      rcases ha with rfl | ⟨n, hn⟩
      · exact hfpX _ hb F₁.lX
      · exact hfpX _ hb (F₁.cX _ _ hn)
    have hst₅ := W.frame _ _ _ hst₃ fun b hb o e => own hs₅ b o hb (own hs₄ b o hb e)
    refine wpAny_mono (hstep (wr ++ X) i z s₅.heap _ hz hJ s₅ (F₅.lm F₁.lX F₁.cX fun a ha => List.mem_append_right _ ha)) (fun f s₆ h₆ => ?_) fun _ _ e => e
    rcases h₆ with ⟨rfl, hJ', L₆⟩ | ⟨rfl, L₆⟩
    · exact ⟨n + 1 - (i + 1), turn_lt hlt, i + 1, hlt, rfl, W.frame _ _ _ hst₅ fun b hb o e => L₆.kb b o (hfpX b hb) e, L₆.fm, hJ'⟩
    · exact ⟨rfl, hrest s₆ (L₆.fm.shrink (fun a ha => List.mem_append_right _ ha) F₁.lX F₁.cX)⟩
  · have hin : i = n := at_end hi hlt
    subst hin
    refine W.done _ _ _ hst' fun h₁ tk₁ hk₁ => ?_
    rw [hn] at hJ
    refine wpAny_execs_nil ⟨rfl, hrest _ ?_⟩
    exact (F'.otherX hk₁ h0 (hX _ F₁.lX) (fun n c hc => hX _ (F₁.cX n c hc)) hX F₁.lX F₁.cX).sub (hend hJ)

theorem enum_core {α : Type} {xi xc : Str} {pk pv pt : Pos} {x1 : Nat} {body : List Stmt} {r : Rep α} {xs : List α} {ρe : Vs} {J : Nat → Prop} {s s₂ : Shared} {v : Value} {Qe : Shared → Prop} {RE E₁ : Value → Shared → Prop} (hflat : Flat r) (hh : A.handled = none)
    (hxi : env.kindOf xi = some .local) (hxc : env.kindOf xc = some .local) (hJ0 : J 0)
    (hstep : ∀ X' i z hb E, xs[i]? = some z → J i → LBlk prog w mg mb A s₀ env X' ((xc, ⟨r, z⟩) :: (xi, ⟨rInt, (i : Int)⟩) :: ρ) X hb body
      (fun f s' => (f = .next ∧ J (i + 1) ∧ Lm mg mb s₀ env X' ρ X hb s') ∨ (f = .brk ∧ Lm mg mb s₀ env X' ρe X hb s')) E)
    (hend : J xs.length → ∀ y U, ρe.lookup y = some U → ρ.lookup y = some U) (F : Fm mg mb s₀ env X ρ s) (h₂ : EnumOf X s s₂ v r xs) (hrest : ∀ s', Fm mg mb s₀ env X ρe s' → Qe s') :
    wpAny (model prog w) A (pyIter v) (fun it s' => codeAny (model prog w) A (.forLoop (.Tuple [.Name xi pk, .Name xc pv] x1 pt) it body [] env) (fun r s' => match r with | .ok f => f = .next ∧ Qe s' | .error e => RE e s') s') E₁ s₂ := by
  refine Classical.byContradiction fun zG => ?_
  obtain ⟨s₁, ea, it, l, vs, rfl, k₁, k₂, hE, hI, hL, hne, hni, hei, hlX, hle, hli, hp⟩ := h₂
  have F₁ := F.keeps k₁
  have hX : ∀ a ∈ X, a ≠ ea ∧ a ≠ it := fun a ha => by
    obtain ⟨o, ho⟩ := F₁.inn.here a ha
    exact ⟨fun q => (by rw [q, hne] at ho; cases ho), fun q => (by rw [q, hni] at ho; cases ho)⟩
  refine zG (wpAny_pyIter_enum hE (walkT_core hflat hh hxi hxc hJ0 hstep hend F₁ hrest (WalksT.enumerate (prog := prog) (w := w) hh ea it l hei hle hli vs.toArray) k₂ ⟨⟨_, hE⟩, hI, hL⟩ ?_ ?_ ?_ ?_ ?_))
  · intro a ha
    rcases List.mem_cons.mp ha with rfl | ha
    · exact hne
    · rw [List.mem_singleton.mp ha]; exact hni
  · intro b hb q
    rcases List.mem_cons.mp hb with rfl | hb
    · exact (hX _ q).1 rfl
    · rcases List.mem_cons.mp hb with rfl | hb
      · exact (hX _ q).2 rfl
      · exact hlX (List.mem_singleton.mp hb ▸ q)
  · intro i h st a ha
    rcases List.mem_cons.mp ha with rfl | ha
    · obtain ⟨⟨old, q⟩, _⟩ := st; exact ⟨_, q⟩
    · obtain ⟨_, ⟨o, q, _⟩, _⟩ := st; exact ⟨o, List.mem_singleton.mp ha ▸ q⟩
  · exact (List.size_toArray ..).trans hp.length
  · intro i vals hPv
    refine Classical.byContradiction fun zG => ?_
    obtain ⟨t, x, hx, rfl⟩ := hPv
    refine zG ?_
    clear zG
    refine Classical.byContradiction fun zG => ?_
    obtain ⟨z, hz, hrd⟩ := Paired.get hp (show vs[i]? = some x by simpa using hx)
    refine zG ?_
    clear zG
    exact ⟨t, x, z, _, rfl, hz, hrd⟩

theorem blk_enum {α : Type} {xi xc : Str} {pk pv pt p pos pp : Pos} {x1 : Nat} {e : Expr} {body : List Stmt} {r : Rep α} {xs : List α} {ρe : Vs} {J : Nat → Prop} (hflat : Flat r) (hh : A.handled = none) (he : Ev prog w mg mb A env ρ e (rList r) xs)
    (k1 : env.kindOf "enumerate" = some .globalImplicit) (hxi : env.kindOf xi = some .local) (hxc : env.kindOf xc = some .local) (hJ0 : J 0)
    (hstep : ∀ X' i z hb E, xs[i]? = some z → J i → LBlk prog w mg mb A s₀ env X' ((xc, ⟨r, z⟩) :: (xi, ⟨rInt, (i : Int)⟩) :: ρ) X hb body
      (fun f s' => (f = .next ∧ J (i + 1) ∧ Lm mg mb s₀ env X' ρ X hb s') ∨ (f = .brk ∧ Lm mg mb s₀ env X' ρe X hb s')) E)
    (hend : J xs.length → ∀ y U, ρe.lookup y = some U → ρ.lookup y = some U)
    (hrest : Blk prog w mg mb A s₀ env X ρe rest Q E) (hs' : isStar e = false := by rfl)
    (hs : ∀ x, foldedSetIterable (.Call (.Name "enumerate" p) [e] [] pp) env x = pure x := by intro _; rfl) :
    Blk prog w mg mb A s₀ env X ρ (.For (.Tuple [.Name xi pk, .Name xc pv] x1 pt) (.Call (.Name "enumerate" p) [e] [] pp) body [] pos :: rest) Q E := by
  intro s F
  refine wpAny_execs_cons (wpAny_For (wpAny_mono (ev_enum he k1 hs' X s E F.inn) (fun v s₂ h₂ => ?_) fun _ _ e => e) hs)
  refine wpAny_mono (enum_core (E₁ := E) (RE := fun e s' => cameBackBy (model prog w) A env E e s') hflat hh hxi hxc hJ0 hstep hend F h₂ fun s' h => h) (fun it s' h => codeAny_mono h fun r s' h' => ?_) fun _ _ e => e
  cases r with
  | ok f => obtain ⟨rfl, F'⟩ := h'; exact hrest s' F'
  | error e => exact h'
end
end Mine.Internal
end
section
open PySem PySem.Calls
set_option maxRecDepth 100000
namespace Mine.Internal
section
variable {prog : Program} {w : World} {mg mb : Str → Option Value} {A : Around} {env : Env} {s₀ : Shared} {X : List Addr} {ρ : Vs} {rest : List Stmt} {Q : Flow → Shared → Prop} {E : Value → Shared → Prop}
-- a try whose suite does not raise
theorem blk_try {body : List Stmt} {h₀ : ExceptHandler} {hs : List ExceptHandler} {pos : Pos} (h : ∀ E', Blk prog w mg mb A s₀ env X ρ body (Then prog w A env rest Q E) E') :
    Blk prog w mg mb A s₀ env X ρ (.Try body (h₀ :: hs) [] [] pos :: rest) Q E := by
  intro s F
  refine wpAny_execs_cons (wpAny_Try_except (wpAny_mono (h _ s F) (fun f s₁ h₁ => ?_) fun _ _ e => e))
  cases f with
  | next => exact wpAny_execs_nil h₁
  | brk => exact h₁
  | cont => exact h₁
  | ret v => exact h₁

theorem tst_tup {α : Type} {e : Expr} {r : Rep α} {xs : List α} (hfit : xs.length < 2 ^ 63) (h : Ev prog w mg mb A env ρ e (rTup r) xs) (he : ∀ whole, isTrue e env whole = (do let v ← whole; standAt e.pos; holding [v] (truthy v)) := by intro _; rfl) : Tst prog w mg mb A env ρ e (decide (xs ≠ [])) :=
  @tst_plain _ _ _ _ _ _ _ _ _ _ _ _ h (fun X s v E hv => by
    refine Classical.byContradiction fun zG => ?_
    obtain ⟨a, vs, rfl, _, ho, hp⟩ := hv
    refine zG ?_
    clear zG
    have hl := hp.length
    refine PyProof.Rows.truthy_tuple (items := vs.toArray) ho (by simp; lia -abstractProof) ⟨Keeps.tok _ _, ?_⟩
    cases xs with
    | nil => cases vs with
      | nil => simp
      | cons _ _ => cases hl
    | cons _ _ => cases vs with
      | nil => cases hl
      | cons _ _ => simp) he
end

-- the literals of commonpath
noncomputable def LitOk {α : Type} [DecidableEq α] (T : TK α) : Prop := ∀ prog w mg mb A env ρ,
  (T.isB = true → (∀ j pos, Ev prog w mg mb A env ρ (.Constant (.bytes [47]) j pos) T.K.r T.sep) ∧ (∀ j pos, Ev prog w mg mb A env ρ (.Constant (.bytes [46]) j pos) T.K.r T.cur)) ∧
  (T.isB = false → (∀ j pos, Ev prog w mg mb A env ρ (.Constant (.str ("/" : Str)) j pos) T.K.r T.sep) ∧ (∀ j pos, Ev prog w mg mb A env ρ (.Constant (.str ("." : Str)) j pos) T.K.r T.cur))
theorem lit_str : LitOk tkStr := fun _ _ _ _ _ _ _ => ⟨fun h => (nomatch (show false = true from h)), fun _ => ⟨fun _ _ => ev_str, fun _ _ => ev_str⟩⟩
theorem lit_bytes : LitOk tkBytes := fun _ _ _ _ _ _ _ => ⟨fun _ => ⟨fun _ _ => ev_bytes, fun _ _ => ev_bytes⟩, fun h => (nomatch (show true = false from h))⟩

section
variable {prog : Program} {w : World} {mg mb : Str → Option Value} {A : Around} {α : Type} [DecidableEq α]
noncomputable def try13 : List Stmt := (defAt 13).body.drop 3
theorem com_head (T : TK α) (hlit : LitOk T) {n : Nat} (hR : Rm (n + 6) A) {p0 : α} {ps : List α} (hl : ps.length ≤ 1000) {L : Addr} {cells : List (Str × Addr)} {q : Str} {f : Option Addr} {c : Value} {fr : Option Addr} {X₁ : List Addr} {s₀ : Shared} {Q : Flow → Shared → Prop} {E : Value → Shared → Prop}
    (hcl : ∀ y, (defAt 13).scope.names.lookup y = some .cell → ∃ c, cells.lookup y = some c)
    (h : Blk prog w mg mb A s₀ (envK 13 L cells q f c fr) X₁ [("curdir", ⟨T.K.r, T.cur⟩), ("sep", ⟨T.K.r, T.sep⟩), ("paths", ⟨rTup T.K.r, p0 :: ps⟩), ("paths", ⟨rList T.K.r, p0 :: ps⟩)] try13 Q E) :
    Blk prog w mg mb A s₀ (envK 13 L cells q f c fr) X₁ [("paths", ⟨rList T.K.r, p0 :: ps⟩)] (defAt 13).body Q E := by
  generalize hrt : try13 = rt at h
  revert rt; refine held ?_; intro rt hrt h
  have hbody : (defAt 13).body = (defAt 13).body.take 3 ++ rt := by rw [← hrt]; rfl
  rw [hbody]
  refine @blk_assign _ _ _ _ _ _ _ _ _ _ _ _ _ _ _ _ _ (rTup T.K.r) (p0 :: ps) (@ev_tupmap _ _ _ _ _ _ _ _ _ T.K hR _ _ _ _ _ _ _ (@ev_name _ _ _ _ _ _ _ _ _ _ _ _ rfl (by decide) (by decide)) (by simp; show _ ≤ 2 ^ 24; lia -abstractProof) T.fl rfl rfl rfl rfl) (.inl rfl) ?_ (by rfl)
  refine @blk_if _ _ _ _ _ _ _ _ _ _ _ _ _ _ _ _ (false) (@tst_not _ _ _ _ _ _ _ _ _ (true) ?_) (fun h => nomatch h) (fun _ => @blk_fall _ _ _ _ _ _ _ _ _ _ _ _ ?_)
  · have := @tst_tup (prog) (w) (mg) (mb) (A) (envK 13 L cells q f c fr) ([("paths", ⟨rTup T.K.r, p0 :: ps⟩), ("paths", ⟨rList T.K.r, p0 :: ps⟩)]) _ (.Name "paths" ⟨66, 11, 66, 16⟩) (T.K.r) (p0 :: ps) (by simp; lia -abstractProof) (@ev_name _ _ _ _ _ _ _ _ _ _ _ _ rfl (by decide) (by decide)) (by intro _; rfl)
    exact this
  refine @blk_if _ _ _ _ _ _ _ _ _ _ _ _ _ _ _ _ (T.isB) (@tst_bool _ _ _ _ _ _ _ _ _ (@ev_bcall _ _ _ _ _ _ _ _ ("isinstance") _ _ _ _ ([_, _]) _ _ _ (by decide) (by decide +kernel) rfl rfl (.cons (U := ⟨T.K.r, p0⟩) (@ev_itemT _ _ _ _ _ _ _ _ _ _ _ _ _ (0) _ (@ev_name _ _ _ _ _ _ _ _ _ _ _ _ rfl (by decide) (by decide)) ev_int (by decide) (by decide) rfl (by intro _ _; with_unfolding_all rfl)) (.cons (@ev_bname _ _ _ _ _ _ _ _ _ _ (by decide) (by decide +kernel) rfl (by decide)) .nil)) T.isi (by decide)) (by intro _; rfl)) (fun hb => ?_) (fun hb => ?_)
  · obtain ⟨h1, h2⟩ := (hlit prog w mg mb A (envK 13 L cells q f c fr) [("paths", ⟨rTup T.K.r, p0 :: ps⟩), ("paths", ⟨rList T.K.r, p0 :: ps⟩)]).1 hb
    obtain ⟨h3, h4⟩ := (hlit prog w mg mb A (envK 13 L cells q f c fr) [("sep", ⟨T.K.r, T.sep⟩), ("paths", ⟨rTup T.K.r, p0 :: ps⟩), ("paths", ⟨rList T.K.r, p0 :: ps⟩)]).1 hb
    exact @blk_assign _ _ _ _ _ _ _ _ _ _ _ _ _ _ _ _ _ _ _ (h1 _ _) (.inr ⟨rfl, hcl "sep" rfl⟩) (@blk_assign _ _ _ _ _ _ _ _ _ _ _ _ _ _ _ _ _ _ _ (h4 _ _) (.inr ⟨rfl, hcl "curdir" rfl⟩) (@blk_fall _ _ _ _ _ _ _ _ _ _ _ _ h) (by rfl)) (by rfl)
  · obtain ⟨h1, h2⟩ := (hlit prog w mg mb A (envK 13 L cells q f c fr) [("paths", ⟨rTup T.K.r, p0 :: ps⟩), ("paths", ⟨rList T.K.r, p0 :: ps⟩)]).2 hb
    obtain ⟨h3, h4⟩ := (hlit prog w mg mb A (envK 13 L cells q f c fr) [("sep", ⟨T.K.r, T.sep⟩), ("paths", ⟨rTup T.K.r, p0 :: ps⟩), ("paths", ⟨rList T.K.r, p0 :: ps⟩)]).2 hb
    exact @blk_assign _ _ _ _ _ _ _ _ _ _ _ _ _ _ _ _ _ _ _ (h1 _ _) (.inr ⟨rfl, hcl "sep" rfl⟩) (@blk_assign _ _ _ _ _ _ _ _ _ _ _ _ _ _ _ _ _ _ _ (h4 _ _) (.inr ⟨rfl, hcl "curdir" rfl⟩) (@blk_fall _ _ _ _ _ _ _ _ _ _ _ _ h) (by rfl)) (by rfl)

noncomputable def tryB : List Stmt := sB (st try13 0)
noncomputable def tryH : ExceptHandler := sH (st try13 0)
noncomputable def tryP : Pos := sP (st try13 0)
theorem try13_eq : try13 = [.Try tryB [tryH] [] [] tryP] := rfl
noncomputable def innB : List Stmt := sB (st tryB 1)
noncomputable def innH : ExceptHandler := sH (st tryB 1)
noncomputable def innP : Pos := sP (st tryB 1)
theorem tryB_eq : tryB = tryB.take 1 ++ .Try innB [innH] [] [] innP :: tryB.drop 2 := rfl

noncomputable def splitsF (T : TK α) (ps : List α) : List (List α) := ps.map T.split
noncomputable def partF (T : TK α) (l : List α) : List α := l.filter fun c => decide (c ≠ T.emp) && decide (c ≠ T.cur)

noncomputable abbrev ρ13 (T : TK α) (ps : List α) : Vs := [("curdir", ⟨T.K.r, T.cur⟩), ("sep", ⟨T.K.r, T.sep⟩), ("paths", ⟨rTup T.K.r, ps⟩), ("paths", ⟨rList T.K.r, ps⟩)]

-- the first statement of the suite
theorem com_split (T : TK α) {n : Nat} (hR : Rm n A) {ps : List α} (hl : ps.length ≤ 1000) (hlen : ∀ p ∈ ps, T.len p ≤ 5000) {L : Addr} {cells : List (Str × Addr)} {q : Str} {f : Option Addr} {c : Value} {fr : Option Addr} {X₁ : List Addr} {s₀ : Shared} {Q : Flow → Shared → Prop} {E : Value → Shared → Prop} {rest : List Stmt}
    (h : Blk prog w mg mb A s₀ (envK 13 L cells q f c fr) X₁ (("split_paths", ⟨rList (rList T.K.r), splitsF T ps⟩) :: ρ13 T ps) rest Q E) :
    Blk prog w mg mb A s₀ (envK 13 L cells q f c fr) X₁ (ρ13 T ps) (tryB.take 1 ++ rest) Q E := by
  have e : splitsF T ps = (ps.filter fun _ => true).map T.split := by rw [List.filter_eq_self.mpr (fun _ _ => rfl)]; rfl
  rw [e] at h
  refine @blk_assign_comp _ _ _ _ _ _ _ _ _ _ _ _ _ _ _ _ _ _ _ _ _ _ _ _ _ _ _ _ _ ([("sep", ⟨T.K.r, T.sep⟩)]) (@evs_tup _ _ _ _ _ _ _ _ _ _ _ hR.none (@ev_name _ _ _ _ _ _ _ _ _ _ _ _ rfl (by decide) (by decide))) (Frees.one rfl rfl rfl (fun h => nomatch (show some NameKind.cell = some NameKind.local from h)) rfl) (fun z hz cenv ce => TstAll.nil) (fun z hz _ cenv ce => ?_) h (by show _ ≤ 2 ^ 24; lia -abstractProof) rfl (.inl rfl) (by decide) rfl rfl (by intro _; rfl)
  exact @ev_meth _ _ _ _ _ _ _ _ _ _ _ _ _ _ _ _ ([_]) ([⟨T.K.r, T.sep⟩]) _ _ _ _ rfl rfl T.pa T.slotSplit T.tySplit (@ev_name _ _ _ _ _ _ _ _ _ _ _ _ rfl (by decide) (by decide)) (fun X s v hv => T.K.ty s hv) rfl (by decide) (.cons (@ev_name _ _ _ _ _ _ _ _ _ _ _ _ rfl (by decide) (by decide)) .nil) (T.cSplit (hlen z hz))

theorem ev_isabs (T : TK α) {n : Nat} (hR : Rm n A) {ps : List α} (hlen : ∀ p ∈ ps, T.len p ≤ 5000) {L : Addr} {cells : List (Str × Addr)} {q : Str} {f : Option Addr} {c : Value} {fr : Option Addr} {ρ₀ : Vs} (hs : ρ₀.lookup ("sep" : Str) = some ⟨T.K.r, T.sep⟩) (hp : ρ₀.lookup ("paths" : Str) = some ⟨rTup T.K.r, ps⟩) :
    Ev prog w mg mb A (envK 13 L cells q f c fr) ρ₀ (ex (sX (st innB 0)) 0) (rBSet w) (ps.any (fun z => !T.starts z), ps.any T.starts) := by
  refine @ev_setcomp _ _ _ _ _ _ _ _ _ _ _ _ _ _ _ _ _ ([("sep", ⟨T.K.r, T.sep⟩)]) (@evs_tup _ _ _ _ _ _ _ _ _ _ _ hR.none (@ev_name _ _ _ _ _ _ _ _ _ _ _ _ hp (by decide) (by decide))) (Frees.one rfl rfl rfl (fun h => nomatch (show some NameKind.cell = some NameKind.local from h)) hs) (fun z hz cenv ce => ?_) rfl (.inl rfl) (by decide) (by intro _; rfl)
  exact @ev_meth _ _ _ _ _ _ _ _ _ _ _ _ _ _ _ _ ([_]) ([⟨T.K.r, T.sep⟩]) _ _ _ _ rfl rfl T.pa T.slotStarts T.tyStarts (@ev_name _ _ _ _ _ _ _ _ _ _ _ _ rfl (by decide) (by decide)) (fun X s v hv => T.K.ty s hv) rfl (by decide) (.cons (@ev_name _ _ _ _ _ _ _ _ _ _ _ _ rfl (by decide) (by decide)) .nil) (T.cStarts (hlen z hz))
end
end Mine.Internal
end
section
open PySem PySem.Calls
set_option maxRecDepth 100000
namespace Mine.Internal
theorem sub_skip {ρ : Vs} {x : Str} {U : V} (hx : ρ.lookup x = none) : ∀ y W, ρ.lookup y = some W → List.lookup y ((x, U) :: ρ) = some W := fun y W h => by
  by_cases e : y = x
  · subst e; rw [hx] at h; cases h
  · rw [lookup_cons_ne e]; exact h
section
variable {prog : Program} {w : World} {mg mb : Str → Option Value} {A : Around} {α : Type} [DecidableEq α]
theorem TK.flat (T : TK α) : Flat T.K.r := fun _ X' _ h' _ _ p => T.fl p X' h'

noncomputable def minL (T : TK α) (z : List α) (zs : List (List α)) : List α := best (fun y x => lexLt T.lt y x) z zs
noncomputable def maxL (T : TK α) (z : List α) (zs : List (List α)) : List α := best (fun y x => lexLt T.lt x y) z zs

noncomputable def tail8 : List Stmt := tryB.drop 2

-- k: how far the two lists run alike
structure Alike (s1 s2 : List α) (k : Nat) : Prop where
  le : k ≤ s1.length
  eq : ∀ j, j < k → s1[j]? = s2[j]?
  ne : k = s1.length ∨ (k < s2.length ∧ s1[k]? ≠ s2[k]?)

omit [DecidableEq α] in
theorem Alike.brk {s1 s2 : List α} {k i : Nat} (H : Alike s1 s2 k) (h : ∀ j, j < i → s1[j]? = s2[j]?) (hi : i < s1.length) : i ≤ k := by
  rcases Nat.lt_or_ge k i with h1 | h1
  · rcases H.ne with h2 | ⟨_, h2⟩
    · lia -abstractProof
    · exact absurd (h k h1) h2
  · exact h1
omit [DecidableEq α] in
theorem Alike.there {s1 s2 : List α} {k i : Nat} (H : Alike s1 s2 k) (h : i ≤ k) (hi : i < s1.length) : ∃ y, s2[i]? = some y := by
  rcases Nat.lt_or_ge i k with h1 | h1
  · exact ⟨s1[i], by rw [← H.eq i h1]; simp [hi]⟩
  · have e : i = k := by lia -abstractProof
    subst e
    rcases H.ne with h2 | ⟨h2, _⟩
    · lia -abstractProof
    · exact ⟨s2[i], by simp [h2]⟩

set_option maxHeartbeats 2000000 in
theorem com_tail (T : TK α) {n : Nat} (hR : Rm (n + 8) A) {p0 : α} {ps : List α} {isabs : Bool} {k : Nat} (hl : ps.length ≤ 1000) (hls : ∀ l ∈ splitsF T (p0 :: ps), l.length ≤ 10000) (hlen : ∀ l ∈ splitsF T (p0 :: ps), ∀ c ∈ l, T.len c ≤ 5000)
    (H : Alike (minL T (partF T (T.split p0)) (ps.map fun p => partF T (T.split p))) (maxL T (partF T (T.split p0)) (ps.map fun p => partF T (T.split p))) k)
    (hsl : (minL T (partF T (T.split p0)) (ps.map fun p => partF T (T.split p))).length ≤ 10000)
    (hj : (((minL T (partF T (T.split p0)) (ps.map fun p => partF T (T.split p))).take k).map T.len).sum + ((minL T (partF T (T.split p0)) (ps.map fun p => partF T (T.split p))).take k).length ≤ 100000)
    (ha : T.len (if isabs then T.sep else T.emp) + T.len (T.join ((minL T (partF T (T.split p0)) (ps.map fun p => partF T (T.split p))).take k)) ≤ 1000000)
    {L : Addr} {cells : List (Str × Addr)} {q : Str} {f : Option Addr} {c : Value} {fr : Option Addr} {X₁ : List Addr} {s₀ : Shared} {E : Value → Shared → Prop} :
    Blk prog w mg mb A s₀ (envK 13 L cells q f c fr) X₁ (("isabs", ⟨rBool, isabs⟩) :: ("split_paths", ⟨rList (rList T.K.r), splitsF T (p0 :: ps)⟩) :: ρ13 T (p0 :: ps)) tail8
      (fun fl s' => ∃ v, fl = .ret v ∧ Keeps s₀ s' ∧ T.K.r.rd X₁ s'.heap v (T.add (if isabs then T.sep else T.emp) (T.join ((minL T (partF T (T.split p0)) (ps.map fun p => partF T (T.split p))).take k)))) E := by
  generalize hs1 : minL T (partF T (T.split p0)) (ps.map fun p => partF T (T.split p)) = s1 at *
  generalize hs2 : maxL T (partF T (T.split p0)) (ps.map fun p => partF T (T.split p)) = s2 at *
  revert s1 s2; refine held ?_; intro s1 hs1 hsl hj ha s2 hs2 H
  have e : (((splitsF T (p0 :: ps)).filter fun _ => true).map (partF T)) = partF T (T.split p0) :: ps.map fun p => partF T (T.split p) := by
    rw [List.filter_eq_self.mpr (fun _ _ => rfl)]
    simp [splitsF, Function.comp_def]
  refine @blk_assign_comp _ _ _ _ _ _ _ _ _ _ _ _ _ _ _ _ _ _ _ _ _ _ _ _ _ _ (rList T.K.r) (fun _ => true) (partF T) ([("curdir", ⟨T.K.r, T.cur⟩)]) (@evs_list _ _ _ _ _ _ _ _ _ _ _ hR.none (@ev_name _ _ _ _ _ _ _ _ _ _ _ _ rfl (by decide) (by decide))) (Frees.one rfl rfl rfl (fun h => nomatch (show some NameKind.cell = some NameKind.local from h)) rfl) (fun z hz cenv ce => TstAll.nil) (fun z hz _ cenv ce => ?_) ?_ (by simp [splitsF]; show _ ≤ 2 ^ 24; lia -abstractProof) rfl (.inl rfl) (by decide) rfl rfl (by intro _; rfl)
  · have ez : partF T z = (z.filter fun c => decide (c ≠ T.emp) && decide (c ≠ T.cur)).map fun c => c := by simp [partF]
    rw [ez]
    refine @ev_comp _ _ _ _ _ _ _ _ _ _ _ _ _ _ _ _ _ _ _ _ _ ([("curdir", ⟨T.K.r, T.cur⟩)]) (@evs_list _ _ _ _ _ _ _ _ _ _ _ hR.none (@ev_name _ _ _ _ _ _ _ _ _ _ _ _ rfl (by decide) (by decide))) (Frees.one rfl rfl rfl ?_ rfl) (fun c hc cenv' ce' => TstAll.one ?_) (fun c hc _ cenv' ce' => @ev_name _ _ _ _ _ _ _ _ _ _ _ _ rfl (by decide) (by decide)) (by have := hls z hz; show _ ≤ 2 ^ 24; lia -abstractProof) rfl (.inl rfl) (by decide) (by intro _; rfl)
    · rcases ce.kindFree (y := ("curdir" : Str)) rfl with h | h <;> rw [h] <;> exact fun h => nomatch h
    · exact @tst_and _ _ _ _ _ _ _ _ _ _ _ _ (@tst_plain _ _ _ _ _ _ _ _ _ _ _ _ (@ev_name _ _ _ _ _ _ _ _ _ _ _ _ rfl (by decide) (by decide)) (fun X s v E hv => T.tru (hlen z hz c hc) hv) (by intro _; rfl)) (fun _ => @tst_cmp _ _ _ _ _ _ _ _ _ _ _ _ _ _ _ _ _ _ (@ev_name _ _ _ _ _ _ _ _ _ _ _ _ rfl (by decide) (by decide)) (@ev_name _ _ _ _ _ _ _ _ _ _ _ _ rfl (by decide) (by decide)) (fun X s a b _ ha hb => T.ne ha hb) (by with_unfolding_all rfl))
  rw [e]
  have hmin : ConB prog w A (.builtin "min") [⟨rList (rList T.K.r), partF T (T.split p0) :: ps.map fun p => partF T (T.split p)⟩] (rList T.K.r) s1 := by rw [← hs1]; exact @con_min _ _ _ _ _ T (n) hR.le _ _
  have hmax : ConB prog w A (.builtin "max") [⟨rList (rList T.K.r), partF T (T.split p0) :: ps.map fun p => partF T (T.split p)⟩] (rList T.K.r) s2 := by rw [← hs2]; exact @con_max _ _ _ _ _ T (n) hR.le _ _
  refine @blk_assign _ _ _ _ _ _ _ _ _ _ _ _ _ _ _ _ _ (rList T.K.r) (s1) (@ev_bcall _ _ _ _ _ _ _ _ ("min") _ _ _ _ ([_]) _ _ _ (by decide) (by decide +kernel) rfl rfl (.cons (@ev_name _ _ _ _ _ _ _ _ _ _ _ _ rfl (by decide) (by decide)) .nil) hmin (by decide)) (.inl rfl) ?_ (by rfl)
  refine @blk_assign _ _ _ _ _ _ _ _ _ _ _ _ _ _ _ _ _ (rList T.K.r) (s2) (@ev_bcall _ _ _ _ _ _ _ _ ("max") _ _ _ _ ([_]) _ _ _ (by decide) (by decide +kernel) rfl rfl (.cons (@ev_name _ _ _ _ _ _ _ _ _ _ _ _ rfl (by decide) (by decide)) .nil) hmax (by decide)) (.inl rfl) ?_ (by rfl)
  refine @blk_assign _ _ _ _ _ _ _ _ _ _ _ _ _ _ _ _ _ (rList T.K.r) (s1) (@ev_name _ _ _ _ _ _ _ _ _ _ _ _ rfl (by decide) (by decide)) (.inl rfl) ?_ (by rfl)
  refine blk_enum (r := T.K.r) (xs := s1) (J := fun i => ∀ j, j < i → s1[j]? = s2[j]?) (ρe := [("common", ⟨rList T.K.r, s1.take k⟩), ("isabs", ⟨rBool, isabs⟩), ("sep", ⟨T.K.r, T.sep⟩)]) T.flat hR.none (@ev_name _ _ _ _ _ _ _ _ _ _ _ _ rfl (by decide) (by decide)) rfl rfl rfl (fun j h => absurd h (Nat.not_lt_zero _)) (fun X' i z hb E hz hJ => ?_) (fun hJ => ?_) ?_
  · have hi : i < s1.length := (List.getElem?_eq_some_iff.mp hz).1
    have hik := H.brk hJ hi
    obtain ⟨y, hy⟩ := H.there hik hi
    refine @lb_if _ _ _ _ _ _ _ _ _ _ _ _ _ _ _ _ _ _ (decide (z ≠ y)) (@tst_cmp _ _ _ _ _ _ _ _ _ _ _ _ _ _ _ _ _ _ (@ev_name _ _ _ _ _ _ _ _ _ _ _ _ rfl (by decide) (by decide)) (@ev_item _ _ _ _ _ _ _ _ _ _ _ _ _ ((i : Int)) _ (@ev_name _ _ _ _ _ _ _ _ _ _ _ _ rfl (by decide) (by decide)) (@ev_name _ _ _ _ _ _ _ _ _ _ _ _ rfl (by decide) (by decide)) (by lia -abstractProof) (by lia -abstractProof) (by rw [Int.toNat_natCast]; exact hy) (by intro _ _; with_unfolding_all rfl)) (fun X s a b _ ha hb => T.ne ha hb) (by with_unfolding_all rfl)) (fun hc => ?_) (fun hc => ?_)
    · have hzy : z ≠ y := of_decide_eq_true hc
      have hk : i = k := by
        rcases Nat.lt_or_ge i k with h1 | h1
        · have := H.eq i h1; rw [hz, hy] at this; cases this; exact absurd rfl hzy
        · lia -abstractProof
      subst hk
      refine @lb_assign _ _ _ _ _ _ _ _ _ _ _ _ _ _ _ _ _ _ _ _ (s1.take i) (@ev_cut _ _ _ _ _ _ _ _ _ _ _ _ _ _ _ _ _ (some (i : Int)) (@ev_name _ _ _ _ _ _ _ _ _ _ _ _ rfl (by decide) (by decide)) evp_none (@evp_some _ _ _ _ _ _ _ _ _ (@ev_name _ _ _ _ _ _ _ _ _ _ _ _ rfl (by decide) (by decide))) (fun h => cut_upto _ h) (by show _ ≤ 2 ^ 24; lia -abstractProof)) (.inl rfl) (lb_break fun s hL => .inr ⟨rfl, hL.sub ?_⟩) (by rfl)
      exact sub_cons rfl (sub_cons rfl (sub_cons rfl sub_nil))
    · have hzy : z = y := by simpa using hc
      subst hzy
      refine @lb_fall _ _ _ _ _ _ _ _ _ _ _ _ _ _ (lb_nil fun s hL => .inl ⟨rfl, fun j hj => ?_, hL.sub ?_⟩)
      · rcases Nat.lt_or_ge j i with h1 | h1
        · exact hJ j h1
        · have : j = i := by lia -abstractProof
          subst this; rw [hz, hy]
      · exact fun y W h => sub_skip rfl y W (sub_skip rfl y W h)
  · have hk : k = s1.length := by
      rcases H.ne with h2 | ⟨_, h2⟩
      · exact h2
      · have := H.le
        rcases Nat.lt_or_ge k s1.length with h1 | h1
        · exact absurd (hJ k h1) h2
        · lia -abstractProof
    rw [hk, List.take_length]
    exact sub_cons rfl (sub_cons rfl (sub_cons rfl sub_nil))
  · refine @blk_assign _ _ _ _ _ _ _ _ _ _ _ _ _ _ _ _ _ (T.K.r) (if isabs then T.sep else T.emp) (@ev_ifexp _ _ _ _ _ _ _ _ _ _ _ _ _ _ (isabs) (@tst_bool _ _ _ _ _ _ _ _ _ (@ev_name _ _ _ _ _ _ _ _ _ _ _ _ rfl (by decide) (by decide)) (by intro _; rfl)) (fun hc => ?_) (fun hc => ?_)) (.inl rfl) ?_ (by rfl)
    · rw [if_pos hc]; exact @ev_name _ _ _ _ _ _ _ _ _ _ _ _ rfl (by decide) (by decide)
    · rw [if_neg (by rw [hc]; decide)]
      refine @ev_sub _ _ _ _ _ _ _ _ _ _ _ _ _ _ _ _ _ _ _ (@ev_name _ _ _ _ _ _ _ _ _ _ _ _ rfl (by decide) (by decide)) (@ev_slice _ _ _ _ _ _ _ _ _ _ _ _ evp_none (@evp_some _ _ _ _ _ _ _ _ _ ev_int)) ?_
      intro X s a b hX ha hb E
      obtain ⟨id, hid⟩ := T.getSlot
      exact subTail (T.K.ty s ha).1 hid (T.cut0 ha hb E) (vs := [b, a]) rfl
    · refine @blk_ret _ _ _ _ _ _ _ _ _ _ _ _ _ _ _ _ _ (@ev_binop _ _ _ _ _ _ _ _ _ _ _ _ _ _ _ _ _ _ _ _ (@ev_name _ _ _ _ _ _ _ _ _ _ _ _ rfl (by decide) (by decide)) (@ev_meth _ _ _ _ _ _ _ _ _ _ _ _ _ _ _ _ ([_]) ([⟨rList T.K.r, s1.take k⟩]) _ _ _ _ rfl rfl T.pa T.slotJoin T.tyJoin (@ev_name _ _ _ _ _ _ _ _ _ _ _ _ rfl (by decide) (by decide)) (fun X s v hv => T.K.ty s hv) rfl (by decide) (.cons (@ev_name _ _ _ _ _ _ _ _ _ _ _ _ rfl (by decide) (by decide)) .nil) (T.cJoin (n := n) hR.le hj)) (fun X s a b hX h1 h2 => T.addC hX ha h1 h2)) (fun v s' k hr => ⟨v, rfl, k, hr⟩)
end
end Mine.Internal
end
section
open PySem PySem.Calls
set_option maxRecDepth 100000
namespace Mine.Internal
section
variable {prog : Program} {w : World} {mg mb : Str → Option Value} {A : Around} {α : Type} [DecidableEq α]

-- what commonpath asks of sizes, and how far the least and the greatest run alike
structure Fit (T : TK α) (p0 : α) (ps : List α) (k : Nat) : Prop where
  hl : ps.length ≤ 999
  len : ∀ p ∈ p0 :: ps, T.len p ≤ 5000
  hls : ∀ l ∈ splitsF T (p0 :: ps), l.length ≤ 10000
  hlen : ∀ l ∈ splitsF T (p0 :: ps), ∀ c ∈ l, T.len c ≤ 5000
  H : Alike (minL T (partF T (T.split p0)) (ps.map fun p => partF T (T.split p))) (maxL T (partF T (T.split p0)) (ps.map fun p => partF T (T.split p))) k
  hsl : (minL T (partF T (T.split p0)) (ps.map fun p => partF T (T.split p))).length ≤ 10000
  hj : (((minL T (partF T (T.split p0)) (ps.map fun p => partF T (T.split p))).take k).map T.len).sum + ((minL T (partF T (T.split p0)) (ps.map fun p => partF T (T.split p))).take k).length ≤ 100000
  ha : ∀ b : Bool, T.len (if b then T.sep else T.emp) + T.len (T.join ((minL T (partF T (T.split p0)) (ps.map fun p => partF T (T.split p))).take k)) ≤ 1000000

noncomputable def comF (T : TK α) (isabs : Bool) (p0 : α) (ps : List α) (k : Nat) : α := T.add (if isabs then T.sep else T.emp) (T.join ((minL T (partF T (T.split p0)) (ps.map fun p => partF T (T.split p))).take k))

set_option maxHeartbeats 1000000 in
theorem con_common (T : TK α) (hlit : LitOk T) {n : Nat} (hR : Rm (n + 9) A) {p0 : α} {ps : List α} {k : Nat} (FT : Fit T p0 ps k) (isabs : Bool) (hab : ∀ p ∈ p0 :: ps, T.starts p = isabs) :
    Con prog w mg mb A 13 [⟨rList T.K.r, p0 :: ps⟩] T.K.r (comF T isabs p0 ps k) := by
  refine con1 (k := 13) (p := "paths") (by decide) hR (fun v pm cd doc => rfl) (.inl rfl) (fun L cells q f cc fr X₁ s₀ hcl hR' E => ?_)
  refine @com_head _ _ _ _ _ _ _ T hlit (n + 2) hR' _ _ (Nat.le_succ_of_le FT.hl) _ _ _ _ _ _ _ _ _ _ hcl ?_
  rw [try13_eq]
  refine blk_try fun E' => ?_
  rw [tryB_eq]
  refine @com_split _ _ _ _ _ _ _ T _ hR' (p0 :: ps) ?_ FT.len _ _ _ _ _ _ _ _ _ _ _ ?_
  · have := FT.hl; simp only [List.length_cons]; lia -abstractProof
  refine blk_try fun E'' => ?_
  have e1 : ((p0 :: ps).any fun z => !T.starts z) = !isabs := by
    rw [Bool.eq_iff_iff, List.any_eq_true]
    constructor
    · rintro ⟨x, hx, h⟩; rw [hab x hx] at h; exact h
    · intro h; exact ⟨p0, List.mem_cons_self, by rw [hab p0 List.mem_cons_self]; exact h⟩
  have e2 : (p0 :: ps).any T.starts = isabs := by
    rw [Bool.eq_iff_iff, List.any_eq_true]
    constructor
    · rintro ⟨x, hx, h⟩; rw [hab x hx] at h; exact h
    · intro h; exact ⟨p0, List.mem_cons_self, by rw [hab p0 List.mem_cons_self]; exact h⟩
  have key := @ev_isabs (prog) (w) (mg) (mb) _ _ _ T _ hR' _ FT.len (L) (cells) (q) (f) (cc) (fr) (("split_paths", ⟨rList (rList T.K.r), splitsF T (p0 :: ps)⟩) :: ρ13 T (p0 :: ps)) rfl rfl
  rw [e1, e2] at key
  refine @blk_unpack1 _ _ _ _ _ _ _ _ _ _ _ _ _ _ _ _ _ _ _ _ hR'.none key rfl (.inl rfl) (@blk_fall _ _ _ _ _ _ _ _ _ _ _ _ ?_) (by rfl) (by rfl)
  refine fun s F => wpAny_mono (com_tail T hR' (Nat.le_succ_of_le FT.hl) FT.hls FT.hlen FT.H FT.hsl FT.hj (FT.ha isabs) s F) (fun fl s' h => ?_) fun _ _ e => e
  refine Classical.byContradiction fun zG => ?_
  obtain ⟨v, rfl, h1, h2⟩ := h
  refine zG ?_
  clear zG
  exact ⟨v, rfl, h1, h2⟩

theorem con_lc (T : TK α) (hlit : LitOk T) {n : Nat} (hR : Rm (n + 10) A) {p0 : α} {ps : List α} {k : Nat} (FT : Fit T p0 ps k) (isabs : Bool) (hab : ∀ p ∈ p0 :: ps, T.starts p = isabs) :
    Con prog w mg mb A 24 [⟨rList T.K.r, p0 :: ps⟩] T.K.r (comF T isabs p0 ps k) := by
  refine con1 (k := 24) (p := "paths") (by decide) hR (fun v pm cd doc => rfl) (.inl rfl) (fun L cells q f cc fr X₁ s₀ hcl hR' E => ?_)
  refine blk_try fun E' => ?_
  exact @blk_ret _ _ _ _ _ _ _ _ _ _ _ _ _ _ _ _ _ (@ev_call _ _ _ _ _ _ _ _ (13) ("commonpath") _ _ _ ([_]) _ _ _ (by decide) (by decide +kernel) rfl rfl (.cons (@ev_name _ _ _ _ _ _ _ _ _ _ _ _ rfl (by decide) (by decide)) .nil) (@con_common _ _ _ _ _ _ _ T hlit _ hR' _ _ _ FT isabs hab) (by decide)) (fun v s' k hr => ⟨v, rfl, k, hr⟩)
end
end Mine.Internal
end
section
open PySem PySem.Calls
set_option maxRecDepth 100000
namespace Mine.Internal

-- what stood, stands, but for the slots of some frames
structure SK (S : List Addr) (h h' : Heap) : Prop where
  out : ∀ b o, b ∉ S → h.get? b = some o → h'.get? b = some o
  slo : ∀ b o, h.get? b = some o → ∃ sl, h'.get? b = some { o with slots := sl }
theorem SK.of_keep {S : List Addr} {h h' : Heap} (k : Keep h h') : SK S h h' := ⟨fun b o _ e => k b o e, fun b o e => ⟨o.slots, k b o e⟩⟩
theorem SK.refl (S : List Addr) (h : Heap) : SK S h h := .of_keep fun _ _ e => e
theorem SK.trans {S : List Addr} {h h' h'' : Heap} (x : SK S h h') (y : SK S h' h'') : SK S h h'' :=
  ⟨fun b o hb e => y.out b o hb (x.out b o hb e), fun b o e => let ⟨_, e₁⟩ := x.slo b o e; let ⟨sl, e₂⟩ := y.slo b _ e₁; ⟨sl, e₂⟩⟩
-- a write to what is new
theorem SK.new {S : List Addr} {hb h h' : Heap} {a : Addr} (x : SK S hb h) (hs : Heap.SameBut a h h') (ha : hb.get? a = none) : SK S hb h' :=
  ⟨fun b o hb' e => hs.extBut b o (fun q => by subst q; rw [ha] at e; cases e) (x.out b o hb' e),
   fun b o e => let ⟨sl, e₁⟩ := x.slo b o e; ⟨sl, hs.extBut b _ (fun q => by subst q; rw [ha] at e; cases e) e₁⟩⟩

structure ExcAt (hb h : Heap) (e : Addr) (c2 fl : Value) (oe : Obj) (vs : Array Value) (T : Addr) (oT : Obj) (ts : Array Value) : Prop where
  he : h.get? e = some oe
  hc : oe.cls = .type "ValueError"
  hd : oe.data = .fields vs
  h1 : vs[1]? = some (.ref T)
  h2 : vs[2]? = some c2
  hnT : hb.get? T = none
  hTe : T ≠ e
  hT : h.get? T = some oT
  hdT : oT.data = .fields ts
  h3 : ts[3]? = some fl
-- an exception in hand, with its traceback's mark
noncomputable def Exc (hb h : Heap) (e : Addr) (c2 fl : Value) : Prop := hb.get? e = none ∧ ∃ oe vs T oT ts, ExcAt hb h e c2 fl oe vs T oT ts
-- an exception just made
noncomputable def Exc0 (hb h : Heap) (e : Addr) (c2 : Value) : Prop :=
  hb.get? e = none ∧ ∃ oe vs, h.get? e = some oe ∧ oe.cls = .type "ValueError" ∧ oe.data = .fields vs ∧ vs[1]? = some .none ∧ vs[2]? = some c2

theorem no_obj (b : Addr) : (({} : Heap)).get? b = none := by
  unfold Heap.get?; simp

section
variable {M : Model} {A : Around} {E : Value → Shared → Prop} {s : Shared}
theorem entry_core {env : Env} {outer : List Env} {L e : Addr} {oe : Obj} {vs : Array Value} {head : Value} {hadNext : Bool} {Q : Unit → Shared → Prop}
    (hfr : A.frames = some (env :: outer)) (hl : s.heap.FunFrames {} (env :: outer)) (hf : env.frame = some L)
    (he : s.heap.get? e = some oe) (hd : oe.data = .fields vs) (hsz : 1 < vs.size)
    (h : ∀ h' T oT ts, (∀ b o, b ≠ e → b ∉ (env :: outer).filterMap (·.frame) → s.heap.get? b = some o → h'.get? b = some o) → (∀ b o, b ≠ e → s.heap.get? b = some o → ∃ sl, h'.get? b = some { o with slots := sl }) →
      h'.get? e = some (oe.mapFields (·.setIfInBounds 1 (.ref T))) → s.heap.get? T = none → T ≠ e → h'.get? T = some oT → oT.data = .fields ts → ts[3]? = some (rawInt L) → Q () { s with heap := h' }) :
    wpAny M A (do let a ← frameOf env; let pl ← entryPlaceOf L hadNext; let b ← EntryCells.newEntry head a .none (rawInt L) .none pl; setField (.ref e) 1 b) Q E s := by
  have hene : e ∉ (env :: outer).filterMap (·.frame) := fun hm => by
    refine Classical.byContradiction fun zG => ?_
    obtain ⟨_, o, ho, hnf⟩ := hl.mem hm
    refine zG ?_
    clear zG
    rw [he] at ho; injection ho with ho; subst ho; exact hnf vs hd
  refine wpAny_bind (wpAny_frameOf_fun hfr hl hf fun h₁ hs₁ => ?_)
  refine wpAny_bind (wpAny_entryPlaceOf fun pl hpl => ?_)
  unfold EntryCells.newEntry newFields
  refine wpAny_bind (wpAny_newObj_type ?_ (hpl.sizeOk5 _ _ _ _ _))
  have he₁ : h₁.get? e = some oe := (hs₁.2.1 e hene).trans he
  have he₂ := Heap.get?_push_of_some (h := h₁) { cls := .type "traceback", dict := none, data := .fields ([head, .ref L, .none, rawInt L, .none] ++ (if pl.isEmpty then List.replicate 6 Value.none else pl)).toArray } he₁
  refine wpAny_setField he₂ hd hsz ?_
  have hTe : h₁.objs.size ≠ e := Nat.ne_of_gt (Heap.lt_size he₁)
  have hd₃ := Obj.data_mapFields hd (·.setIfInBounds 1 (Value.ref h₁.objs.size))
  have he₃ := Heap.get?_update_self (Obj.mapFields (·.setIfInBounds 1 (Value.ref h₁.objs.size))) he₂ (Obj.isFreed_of_fields hd₃)
  have hT₃ := (Heap.get?_update_other (h₁.push { cls := .type "traceback", dict := none, data := .fields ([head, .ref L, .none, rawInt L, .none] ++ (if pl.isEmpty then List.replicate 6 Value.none else pl)).toArray })
    (Obj.mapFields (·.setIfInBounds 1 (Value.ref h₁.objs.size))) (Ne.symm hTe)).trans (Heap.get?_push_size h₁ rfl)
  have keep : ∀ b o, b ≠ e → h₁.get? b = some o →
      ((h₁.push { cls := .type "traceback", dict := none, data := .fields ([head, .ref L, .none, rawInt L, .none] ++ (if pl.isEmpty then List.replicate 6 Value.none else pl)).toArray }).update e (Obj.mapFields (·.setIfInBounds 1 (Value.ref h₁.objs.size)))).get? b = some o := fun b o hbe hb => by
    rw [Heap.get?_update_other _ _ (Ne.symm hbe)]
    exact Heap.get?_push_of_some _ hb
  refine h _ h₁.objs.size _ _ (fun b o hbe hbS hb => keep b o hbe ((hs₁.2.1 b hbS).trans hb)) (fun b o hbe hb => ?_) he₃ ?_ hTe hT₃ rfl (by simp)
  · obtain ⟨sl, e₁⟩ := hs₁.2.2 b o hb
    exact ⟨sl, keep b _ hbe e₁⟩
  · rw [hs₁.1]; exact Heap.get?_none_of_le (Nat.le_refl _)

variable {hb : Heap} {l : List Env} {e : Addr} {c2 : Value}
theorem frames_sk {S : List Addr} {h h' : Heap} {l : List Env} {base : Heap} (k : SK S h h') (hl : h.FunFrames base l) : h'.FunFrames base l :=
  hl.of_keeps fun b o ho _ => let ⟨_, e⟩ := k.slo b o ho; ⟨_, e, rfl⟩

theorem note_new {env : Env} {outer : List Env} {L : Addr} {Q : Unit → Shared → Prop} (hfr : A.frames = some (env :: outer)) (hl : hb.FunFrames {} (env :: outer)) (hf : env.frame = some L)
    (hsk : SK ((env :: outer).filterMap (·.frame)) hb s.heap) (hx : Exc0 hb s.heap e c2)
    (h : ∀ h', SK ((env :: outer).filterMap (·.frame)) hb h' → Exc hb h' e c2 (rawInt L) → Q () { s with heap := h' }) : wpAny M A (noteFrame (.ref e) env) Q E s := by
  refine Classical.byContradiction fun zG => ?_
  obtain ⟨hn, oe, vs, he, hc, hd, h1, h2⟩ := hx
  refine zG ?_
  clear zG
  have hsz : 1 < vs.size := (Array.getElem?_eq_some_iff.mp h1).1
  unfold noteFrame
  simp only [hf]
  refine wpAny_bind (wpAny_field he hd h1 ?_)
  rw [if_neg (by decide)]
  refine entry_core hfr (frames_sk hsk hl) hf he hd hsz fun h' T oT ts k1 k2 k3 k4 k5 k6 k7 k8 => h h' ⟨fun b o hbS q => ?_, fun b o q => ?_⟩ ⟨hn, _, _, T, oT, ts, k3, (Obj.cls_mapFields ..).trans hc, Obj.data_mapFields hd _, ?_, ?_, ?_, k5, k6, k7, k8⟩
  · exact k1 b o (fun w => by subst w; rw [hn] at q; cases q) hbS (hsk.out b o hbS q)
  · obtain ⟨sl, q₁⟩ := hsk.slo b o q
    obtain ⟨sl', q₂⟩ := k2 b _ (fun w => by subst w; rw [hn] at q; cases q) q₁
    exact ⟨sl', q₂⟩
  · simp [hsz]
  · rw [Array.getElem?_setIfInBounds_ne (by decide)]; exact h2
  · cases q : hb.get? T with
    | none => rfl
    | some o => obtain ⟨sl, q₁⟩ := hsk.slo T o q; rw [k4] at q₁; cases q₁

theorem note_again {env : Env} {L : Addr} {Q : Unit → Shared → Prop} (hf : env.frame = some L) (hx : Exc hb s.heap e c2 (rawInt L)) (h : Q () s) : wpAny M A (noteFrame (.ref e) env) Q E s := by
  refine Classical.byContradiction fun zG => ?_
  obtain ⟨_, oe, vs, T, oT, ts, he, hc, hd, h1, _, _, _, hT, hdT, h3⟩ := hx
  refine zG ?_
  clear zG
  exact wpAny_noteFrame_inFlight hf he hd h1 hT hdT h3 h

theorem flight {S : List Addr} {fl : Value} {x : Option Addr} {Q : Unit → Shared → Prop} (hsk : SK S hb s.heap) (hx : Exc hb s.heap e c2 fl) (h : ∀ h', SK S hb h' → Exc hb h' e c2 (x.elim .none fun f => rawInt f) → Q () { s with heap := h' }) :
    wpAny M A (setFlight (.ref e) x) Q E s := by
  refine Classical.byContradiction fun zG => ?_
  obtain ⟨hn, oe, vs, T, oT, ts, he, hc, hd, h1, h2, hnT, hTe, hT, hdT, h3⟩ := hx
  refine zG ?_
  clear zG
  have hsz : 3 < ts.size := (Array.getElem?_eq_some_iff.mp h3).1
  unfold setFlight
  refine wpAny_bind (wpAny_field he hd h1 ?_)
  rw [if_pos (show (Value.ref T != Value.none) = true from by simp)]
  have hdT' := Obj.data_mapFields hdT (·.setIfInBounds 3 (x.elim Value.none fun f => rawInt f))
  refine wpAny_setField hT hdT hsz (h _ (hsk.new (Heap.SameBut.update ..) hnT) ⟨hn, oe, vs, T, _, _, ?_, hc, hd, h1, h2, hnT, hTe, Heap.get?_update_self _ hT (Obj.isFreed_of_fields hdT'), hdT', by simp [hsz]⟩)
  rw [Heap.get?_update_other _ _ hTe]; exact he

theorem note_next {env : Env} {outer : List Env} {L : Addr} {Q : Unit → Shared → Prop} (hfr : A.frames = some (env :: outer)) (hl : hb.FunFrames {} (env :: outer)) (hf : env.frame = some L)
    (hsk : SK ((env :: outer).filterMap (·.frame)) hb s.heap) (hx : Exc hb s.heap e c2 .none)
    (h : ∀ h', SK ((env :: outer).filterMap (·.frame)) hb h' → Exc hb h' e c2 (rawInt L) → Q () { s with heap := h' }) : wpAny M A (noteFrame (.ref e) env) Q E s := by
  refine Classical.byContradiction fun zG => ?_
  obtain ⟨hn, oe, vs, T, oT, ts, he, hc, hd, h1, h2, hnT, hTe, hT, hdT, h3⟩ := hx
  refine zG ?_
  clear zG
  have hsz : 1 < vs.size := (Array.getElem?_eq_some_iff.mp h1).1
  have hsz3 : 3 < ts.size := (Array.getElem?_eq_some_iff.mp h3).1
  unfold noteFrame
  simp only [hf]
  refine wpAny_bind (wpAny_field he hd h1 ?_)
  rw [if_pos (show (Value.ref T != Value.none) = true from by simp)]
  refine wpAny_bind (wpAny_field hT hdT h3 ?_)
  rw [if_neg (show ¬ ((Value.none == rawInt L) = true) from by simp [rawInt])]
  have hdT' := Obj.data_mapFields hdT (·.setIfInBounds 3 Value.none)
  refine wpAny_bind (wpAny_setField hT hdT hsz3 ?_)
  have hsk' : SK ((env :: outer).filterMap (·.frame)) hb (s.heap.update T (Obj.mapFields (·.setIfInBounds 3 Value.none))) := hsk.new (Heap.SameBut.update ..) hnT
  have he' : (s.heap.update T (Obj.mapFields (·.setIfInBounds 3 Value.none))).get? e = some oe := by rw [Heap.get?_update_other _ _ hTe]; exact he
  refine entry_core (s := { s with heap := s.heap.update T (Obj.mapFields (·.setIfInBounds 3 Value.none)) }) hfr (frames_sk hsk' hl) hf he' hd hsz fun h' T' oT' ts' k1 k2 k3 k4 k5 k6 k7 k8 => h h' ⟨fun b o hbS q => ?_, fun b o q => ?_⟩
    ⟨hn, _, _, T', oT', ts', k3, (Obj.cls_mapFields ..).trans hc, Obj.data_mapFields hd _, ?_, ?_, ?_, k5, k6, k7, k8⟩
  · exact k1 b o (fun w => by subst w; rw [hn] at q; cases q) hbS (hsk'.out b o hbS q)
  · obtain ⟨sl, q₁⟩ := hsk'.slo b o q
    obtain ⟨sl', q₂⟩ := k2 b _ (fun w => by subst w; rw [hn] at q; cases q) q₁
    exact ⟨sl', q₂⟩
  · simp [hsz]
  · rw [Array.getElem?_setIfInBounds_ne (by decide)]; exact h2
  · cases q : hb.get? T' with
    | none => rfl
    | some o => obtain ⟨sl, q₁⟩ := hsk'.slo T' o q; rw [k4] at q₁; cases q₁
end
theorem entry_unchain : entryFor table "proto.unchain" = some Builtin.«proto.unchain» := entryFor_of_tree (by kernel_rfl)
section
variable {prog : Program} {w : World} {A : Around} {E : Value → Shared → Prop} {s : Shared}

theorem is_no_type {M : Model} {a : Addr} {o : Obj} {vs : Array Value} {Q : Bool → Shared → Prop} (ho : s.heap.get? a = some o) (hd : o.data = .fields vs) (h : Q false s) : wpAny M A (isType (.ref a)) Q E s := by
  unfold isType
  refine wpAny_bind (wpAny_loadPart ho ?_)
  rw [hd]; exact wpAny_pure h
theorem unchain_none {e1 e2 : Addr} {o1 : Obj} {vs1 : Array Value} {Q : Value → Shared → Prop} (h1 : s.heap.get? e1 = some o1) (hd : o1.data = .fields vs1) (h2 : vs1[2]? = some .none) (h : Q .none s) :
    wpAny (model prog w) A (runValue (.builtin "proto.unchain" ⟨[.ref e2, .ref e1, .ref e1, .bool false], []⟩)) Q E s := by
  refine wpAny_runValue (codeAny_builtin entry_unchain ?_)
  show wpAny _ _ (field (.ref e1) 2 >>= _) _ _ s
  refine wpAny_bind (wpAny_field h1 hd h2 ?_)
  exact wpAny_pure h

-- what a raise .. from None does with the exception made
abbrev NoneQ (e1 : Addr) (E : Value → Shared → Prop) (v : Value) (s₁ : Shared) : Prop :=
  ∃ e2 t o1 vs1, v = .ref e2 ∧ All6 (s₁.heap.get? e2 = some { cls := .type "ValueError", data := .fields #[.ref t, .none, .none, .none, .bool false, .none] }) (e1 ≠ e2) (s₁.heap.get? e1 = some o1) (o1.data = .fields vs1) (vs1[2]? = some .none)
    (∀ h', h'.get? e2 = some { cls := .type "ValueError", data := .fields #[.ref t, .none, .ref e1, .none, .bool true, .none] } → Heap.SameBut e2 s₁.heap h' → E (.ref e2) { s₁ with heap := h' })
theorem raise_none {env : Env} {x : Expr} {j : Nat} {p pos : Pos} {e1 : Addr} {Q : Flow → Shared → Prop} (hh : A.handled = some (.ref e1))
    (h : wpAny (model prog w) A (eval x env) (NoneQ e1 E) E s) :
    wpAny (model prog w) A (exec (.Raise (some x) (some (.Constant .none j p)) pos) env) Q E s := by
  rw [arm_exec_Raise]
  refine wpAny_bind (wpAny_standAt ?_)
  show wpAny _ A (raiseStmt env (some (do let v ← eval x env; standAt pos; pure v)) (some (do let v ← eval (.Constant .none j p) env; standAt pos; pure v))) _ _ s
  unfold raiseStmt
  refine wpAny_bind (wpAny_bind (wpAny_mono h (fun v s₁ h₁ => wpAny_bind (wpAny_standAt (wpAny_pure ?_))) fun _ _ e => e))
  refine Classical.byContradiction fun zG => ?_
  obtain ⟨e2, t, o1, vs1, rfl, he, hne, ho1, hd1, hc1, hE⟩ := h₁
  refine zG ?_
  clear zG
  refine wpAny_bind (wpAny_holding (wpAny_bind (PyProof.Rows.Constant_none (wpAny_bind (wpAny_standAt (wpAny_pure (wpAny_bind (wpAny_pure ?_))))))))
  refine Classical.byContradiction fun zG => ?_
  obtain ⟨hp, g, d, tk, os⟩ := s₁
  refine zG ?_
  clear zG
  have hsub := F.excRaise_ValueError.isExc
  have hmeta := F.excRaise_ValueError.plainMeta
  dsimp only at he ho1
  refine wpAny_bind (wpAny_holding ?_)
  have hT : ∀ h', h'.get? e2 = some _ → Shared.TypeIs ⟨h', g, d, tk, os⟩ (.ref e2) "ValueError" := fun h' q => ⟨{ cls := .type "ValueError", data := .fields #[.ref t, .none, .none, .none, .bool false, .none] }, q, rfl⟩
  show wpAny _ A (excFromValue (.ref e2) "exceptions must derive from BaseException") _ _ _
  unfold excFromValue isExcClass
  refine wpAny_bind (wpAny_bind (is_no_type he rfl ?_))
  rw [if_neg (by decide)]
  refine wpAny_pure ?_
  rw [if_neg (by decide)]
  refine wpAny_bind (wpAny_isInstance (hT _ he) hsub ?_)
  rw [if_pos rfl]
  refine wpAny_pure ?_
  show wpAny _ A (pure Value.none >>= fun c => setField (.ref e2) 3 c >>= fun _ => setField (.ref e2) 4 (.bool true) >>= fun _ => (isType (.ref e2) >>= fun b => if b = true then (holding [.ref e2] (raisedFor (.ref e2) (.ref e2)) >>= fun e => (setFlight e none >>= fun _ => raiseNew e)) else (raisedInstance (.ref e2) >>= fun e => (setFlight e none >>= fun _ => raiseNew e)))) _ _ _
  refine wpAny_bind (wpAny_pure ?_)
  refine wpAny_bind (wpAny_setField_rec he (by simp) fun h₁ he₁ hs₁ => ?_)
  replace hs₁ : Heap.SameBut e2 hp h₁ := hs₁
  refine wpAny_bind (wpAny_setField_rec he₁ (by simp) fun h₂ he₂ hs₂ => ?_)
  replace hs₂ : Heap.SameBut e2 h₁ h₂ := hs₂
  have e2' : h₂.get? e2 = some { cls := .type "ValueError", data := .fields #[.ref t, .none, .none, .none, .bool true, .none] } := he₂
  refine wpAny_bind (is_no_type (s := ⟨h₂, g, d, tk, os⟩) e2' rfl ?_)
  rw [if_neg (by decide)]
  unfold raisedInstance
  refine wpAny_bind (wpAny_bind (wpAny_typeOf (T := "ValueError") ⟨_, e2', rfl⟩ ?_))
  refine wpAny_bind (wpAny_of_eq (a := .type "type") ?_ ?_)
  · kernel_rfl
  rw [if_pos (by decide)]
  refine wpAny_pure ?_
  unfold setFlight
  refine wpAny_bind (wpAny_bind (wpAny_field e2' rfl (x := .none) rfl ?_))
  rw [if_neg (by decide)]
  refine wpAny_pure ?_
  unfold raiseNew
  refine wpAny_bind (wpAny_handled ?_)
  rw [hh]
  show wpAny _ A (if (Value.ref e1 != Value.ref e2) = true then (holding [.ref e2] (runValue (.builtin "proto.unchain" ⟨[.ref e2, .ref e1, .ref e1, .bool false], []⟩)) >>= fun _ => (updateField e2 2 (.ref e1) >>= fun _ => throw (.ref e2))) else throw (.ref e2)) _ _ _
  rw [if_pos (by simp [hne])]
  have ho1' : h₂.get? e1 = some o1 := hs₂.extBut _ _ hne (hs₁.extBut _ _ hne ho1)
  refine wpAny_bind (wpAny_holding (unchain_none ho1' hd1 hc1 ?_))
  unfold updateField
  refine wpAny_bind (wpAny_bind (wpAny_load e2' ?_))
  show wpAny _ A (if 2 < (#[Value.ref t, Value.none, Value.none, Value.none, Value.bool true, Value.none] : Array Value).size then update e2 (Obj.mapFields (·.setIfInBounds 2 (.ref e1))) else _) _ _ _
  rw [if_pos (by simp)]
  refine wpAny_update e2' (wpAny_throw (hE _ (Heap.get?_update_self _ e2' rfl) ?_))
  exact (hs₁.trans hs₂).trans (Heap.SameBut.update ..)
end
theorem Exc.keep {hb h h' : Heap} {e : Addr} {c2 fl : Value} (x : Exc hb h e c2 fl) (k : Keep h h') : Exc hb h' e c2 fl := by
  refine Classical.byContradiction fun zG => ?_
  obtain ⟨hn, oe, vs, T, oT, ts, he, hc, hd, h1, h2, hnT, hTe, hT, hdT, h3⟩ := x
  refine zG ?_
  clear zG
  exact ⟨hn, oe, vs, T, oT, ts, k _ _ he, hc, hd, h1, h2, hnT, hTe, k _ _ hT, hdT, h3⟩
theorem Exc.typeIs {hb : Heap} {s : Shared} {e : Addr} {c2 fl : Value} (x : Exc hb s.heap e c2 fl) : s.TypeIs (.ref e) "ValueError" := by
  refine Classical.byContradiction fun zG => ?_
  obtain ⟨_, oe, vs, T, oT, ts, he, hc, _⟩ := x
  refine zG ?_
  clear zG
  exact ⟨oe, he, hc⟩
theorem Exc.older {hb hb' h : Heap} {e : Addr} {c2 fl : Value} (x : Exc hb h e c2 fl) (k : Keep hb' hb) : Exc hb' h e c2 fl := by
  refine Classical.byContradiction fun zG => ?_
  obtain ⟨hn, oe, vs, T, oT, ts, he, hc, hd, h1, h2, hnT, hTe, hT, hdT, h3⟩ := x
  refine zG ?_
  clear zG
  have back : ∀ a, hb.get? a = none → hb'.get? a = none := fun a q => by
    cases w : hb'.get? a with
    | none => rfl
    | some o => rw [k a o w] at q; cases q
  exact ⟨back _ hn, oe, vs, T, oT, ts, he, hc, hd, h1, h2, back _ hnT, hTe, hT, hdT, h3⟩
section
variable {M : Model} {A : Around} {E : Value → Shared → Prop} {s : Shared}
-- the exception goes on, out of this frame's own block
theorem pass_on {S : List Addr} {hb : Heap} {e : Addr} {c2 fl : Value} {env : Env} {α : Type} {what : String} {Q : α → Shared → Prop} (hsk : SK S hb s.heap) (hx : Exc hb s.heap e c2 fl)
    (h : ∀ h', SK S hb h' → Exc hb h' e c2 (env.frame.elim .none fun f => rawInt f) → E (.ref e) { s with heap := h' }) : wpAny M A (passOn what (.ref e) env : Sem α) Q E s := by
  have hx' := hx
  refine Classical.byContradiction fun zG => ?_
  obtain ⟨_, oe, vs, T, _, _, he, _, hd, h1, _⟩ := hx
  refine zG ?_
  clear zG
  unfold passOn
  refine wpAny_bind (wpAny_field he hd h1 ?_)
  rw [if_neg (by simp)]
  exact wpAny_bind (flight hsk hx' fun h' a b => wpAny_throw (h h' a b))
theorem came_back {S : List Addr} {hb : Heap} {e : Addr} {c2 fl : Value} {env : Env} (hsk : SK S hb s.heap) (hx : Exc hb s.heap e c2 fl)
    (h : ∀ h', SK S hb h' → Exc hb h' e c2 (env.frame.elim .none fun f => rawInt f) → E (.ref e) { s with heap := h' }) : cameBackBy M A env E (.ref e) s := by
  have hx' := hx
  refine Classical.byContradiction fun zG => ?_
  obtain ⟨_, oe, vs, T, _, _, he, _, hd, h1, _⟩ := hx
  refine zG ?_
  clear zG
  unfold cameBackBy
  refine wpAny_bind (wpAny_field he hd h1 ?_)
  rw [if_neg (by simp)]
  exact flight hsk hx' fun h' a b => h h' a b
end
end Mine.Internal
end
section
open PySem PySem.Calls
set_option maxRecDepth 100000
namespace Mine.Internal
section
variable {prog : Program} {w : World} {mg mb : Str → Option Value} {A : Around}
end

theorem bare_frames {h base : Heap} {l : List Env} (x : h.FunFrames base l) : h.FunFrames {} l := by
  induction l with
  | nil => trivial
  | cons env rest ih =>
    refine Classical.byContradiction fun zG => ?_
    obtain ⟨hk, ⟨L, o, hf, _, ho, hd⟩, hr⟩ := x
    refine zG ?_
    clear zG
    exact ⟨hk, ⟨L, o, hf, no_obj L, ho, hd⟩, ih hr⟩
theorem FunFrames.keeps {h h' base : Heap} {l : List Env} (x : h.FunFrames base l) (k : Keep h h') : h'.FunFrames base l := frames_sk (S := []) (SK.of_keep k) x
-- what stood before the frames stands
theorem SK.base {hB h h' : Heap} {l : List Env} (x : SK (l.filterMap (·.frame)) h h') (hl : h.FunFrames hB l) (k : Keep hB h) : Keep hB h' := fun b o e =>
  x.out b o (fun q => by rw [(hl.mem q).1] at e; cases e) (k b o e)

section
variable {prog : Program} {w : World} {mg mb : Str → Option Value} {A : Around} {E : Value → Shared → Prop}
-- only the builtins' names are wanted
theorem In.bare {env : Env} {s : Shared} (g : Gl mg mb s.heap) (en : GEnv env) : In mg mb [] env [] s := ⟨g, en, fun _ _ h => (nomatch h), fun _ h => (nomatch h)⟩
noncomputable def innT : Expr := hT innH
noncomputable def innR : Expr := ex (sX (st (hB innH) 0)) 0
noncomputable def innQ : Pos × Pos × Pos := (xP (ex (sX (st (hB innH) 0)) 1), sP (st (hB innH) 0), hP innH)
theorem innH_eq : innH = .ExceptHandler (some innT) none [.Raise (some innR) (some (.Constant .none 0 innQ.1)) innQ.2.1] innQ.2.2 := rfl
noncomputable def tryT : Expr := hT tryH
noncomputable def trySt : Stmt := st (hB tryH) 0
noncomputable def trySu : List Stmt := (hB tryH).drop 1
noncomputable def tryQ : Pos := hP tryH
theorem tryH_eq : tryH = .ExceptHandler (some tryT) none (trySt :: trySu) tryQ := rfl
theorem sub_vv : isSubtype (.type "ValueError") (.type "ValueError") = pure true := by rw [isSubtype_type]; kernel_rfl
theorem sub_vt : isSubtype (.type "ValueError") (.type "TypeError") = pure false := by rw [isSubtype_type]; kernel_rfl
theorem sub_va : isSubtype (.type "ValueError") (.type "AttributeError") = pure false := by rw [isSubtype_type]; kernel_rfl
theorem exc_t : isSubtype (.type "TypeError") (.type "BaseException") = pure true := by rw [isSubtype_type]; kernel_rfl
theorem exc_a : isSubtype (.type "AttributeError") (.type "BaseException") = pure true := by rw [isSubtype_type]; kernel_rfl
theorem nt_v : isSubtype (.type ((Manifest.find? "ValueError").elim "type" fun x => x.metatype)) (.type "tuple") = pure false := by rw [isSubtype_type]; kernel_rfl
theorem nt_t : isSubtype (.type ((Manifest.find? "TypeError").elim "type" fun x => x.metatype)) (.type "tuple") = pure false := by rw [isSubtype_type]; kernel_rfl
theorem nt_a : isSubtype (.type ((Manifest.find? "AttributeError").elim "type" fun x => x.metatype)) (.type "tuple") = pure false := by rw [isSubtype_type]; kernel_rfl

theorem ev_innT {env : Env} {ρ : Vs} (hk : env.kindOf "ValueError" = some .globalImplicit) : Ev prog w mg mb A env ρ innT (rIs (.type "ValueError")) () := @ev_bname _ _ _ _ _ _ _ _ _ _ (by decide) (by decide +kernel) hk (by decide)
theorem ev_tryT {env : Env} {ρ : Vs} (hk : env.kindOf "TypeError" = some .globalImplicit) (hk2 : env.kindOf "AttributeError" = some .globalImplicit) : Ev prog w mg mb A env ρ tryT (rTup rRaw) [.type "TypeError", .type "AttributeError"] :=
  @ev_tup _ _ _ _ _ _ _ _ _ (0) _ ([_, _]) (rRaw) ([.type "TypeError", .type "AttributeError"]) rfl (.cons (@ev_bname _ _ _ _ _ _ _ _ (.type "TypeError") _ (by decide) (by decide +kernel) hk (by decide)) (.cons (@ev_bname _ _ _ _ _ _ _ _ (.type "AttributeError") _ (by decide) (by decide +kernel) hk2 (by decide)) .nil)) (by decide)
noncomputable def innNP : Pos := xP (ex (xX innR) 0)
noncomputable def innCP : Pos := xP innR
noncomputable def innMsg : Str := xS (ex (xX innR) 1)
noncomputable def innMP : Pos := xP (ex (xX innR) 1)
theorem innR_eq : innR = .Call (.Name "ValueError" innNP) [.Constant (.str innMsg) 0 innMP] [] innCP := rfl
-- ValueError(..), in the inner clause
theorem ev_innR {env : Env} {s : Shared} {Q : Value → Shared → Prop} (i : In mg mb [] env [] s) (hk : env.kindOf "ValueError" = some .globalImplicit)
    (h : ∀ s₁ h' e args, Keeps s s₁ → Heap.MadeExc s₁.heap h' e "ValueError" args → Q (.ref e) { s₁ with heap := h' }) : wpAny (model prog w) A (eval innR env) Q E s := by
  rw [innR_eq]
  refine wpAny_Call_ofName (wpAny_mono (ev_bname (mg := mg) (mb := mb) (ρ := []) (v := .type "ValueError") (by decide) (by decide +kernel) hk (by decide) [] s i E) (fun f s₁ q₁ => ?_) fun _ _ e => e)
  obtain ⟨k₁, hv⟩ := q₁
  cases (show f = .type "ValueError" from hv)
  have hts : backTo innCP (starEach [.Constant (.str innMsg) 0 innMP] env) = [eval (.Constant (.str innMsg) 0 innMP) env].map fun t => (false, t) := backTo_plain env innCP [.Constant (.str innMsg) 0 innMP] (fun e he => by rw [List.mem_singleton.mp he]; rfl)
  show wpAny _ A (callWith innCP (.type "ValueError") [] (backTo innCP (starEach [.Constant (.str innMsg) 0 innMP] env)) []) _ _ _
  rw [hts]
  refine callWith_excType rfl (wpAny_mono (evalArgs_ev (mg := mg) (mb := mb) (ρ := []) (ts := [eval (.Constant (.str innMsg) 0 innMP) env]) (Us := [⟨rStr, innMsg⟩]) (.cons (U := ⟨rStr, innMsg⟩) ev_str .nil) [] s₁ E (i.keeps k₁)) (fun a s₂ q₂ => ?_) fun _ _ e => e)
  refine Classical.byContradiction fun zG => ?_
  obtain ⟨k₂, hkw, hv⟩ := q₂
  refine zG ?_
  clear zG
  obtain ⟨apos, akw⟩ := a
  dsimp only at hkw hv
  subst hkw
  refine Classical.byContradiction fun zG => ?_
  obtain ⟨v, rfl, hv⟩ := vals1 hv
  refine zG ?_
  clear zG
  refine Classical.byContradiction fun zG => ?_
  obtain ⟨hp, g, d, tk, os⟩ := s₂
  refine zG ?_
  clear zG
  exact wpAny_call_exc F.excCall_ValueError (fun h' e hm => h ⟨hp, g, d, tk, os⟩ h' e _ (Keeps.trans k₁ k₂) hm) (by show 1 ≤ 2 ^ 24; decide)
end
end Mine.Internal
end
section
open PySem PySem.Calls
set_option maxRecDepth 100000
namespace Mine.Internal
section
variable {prog : Program} {w : World} {mg mb : Str → Option Value} {A : Around} {α : Type} [DecidableEq α]

theorem frames_mark (A : Around) (h : Option Value) : (A.mark h).frames = A.frames := rfl

-- the inner clause: ValueError goes in, another ValueError comes out
theorem raise_in {env : Env} {l : List Env} {L : Addr} {hb : Heap} {s : Shared} {e1 : Addr} (hfr : A.frames = some (env :: l)) (hbare : hb.FunFrames {} (env :: l)) (hfe : env.frame = some L) (hen : GEnv env) (hkV : env.kindOf "ValueError" = some .globalImplicit)
    (glAt : ∀ h'', SK ((env :: l).filterMap (·.frame)) hb h'' → Gl mg mb h'') (sk : SK ((env :: l).filterMap (·.frame)) hb s.heap) (hx0 : Exc0 hb s.heap e1 .none) {QN : Flow → Shared → Prop} {EN E2 E3 : Value → Shared → Prop}
    (h : ∀ e2 h₉ t₆, SK ((env :: l).filterMap (·.frame)) hb h₉ → Exc hb h₉ e2 (.ref e1) (rawInt L) → EN (.ref e2) { s with heap := h₉, toks := t₆ }) :
    wpAny (model prog w) A (noteFrame (.ref e1) env) (fun _ s₂ => wpAny (model prog w) A (setFlight (.ref e1) none) (fun _ s₃ => wpAny (model prog w) A (handleBy (.ref e1) env [innH]) QN EN s₃) E2 s₂) E3 s := by
  refine note_new hfr hbare hfe sk hx0 fun h₁ sk₁ x₁ => ?_
  refine flight (s := { s with heap := h₁ }) sk₁ x₁ fun h₂ sk₂ x₂ => ?_
  rw [innH_eq]
  refine wpAny_handleBy_builtin (X := "ValueError") (T := "ValueError") (b := true) PySem.F.excRaise_ValueError.isExc nt_v sub_vv ?_
  refine Tr.gos (@ev_innT _ _ (mg) (mb) _ _ ([]) hkV) (In.bare (glAt _ sk₂) hen) fun cv h₃ t₃ k₃ hcv => ?_
  have sk₃ := sk₂.trans (.of_keep k₃)
  have x₃ := x₂.keep k₃
  refine ⟨hcv, x₃.typeIs, ?_⟩
  simp only [if_true]
  refine flight (s := { s with heap := h₃, toks := t₃ }) sk₃ x₃ fun h₄ sk₄ x₄ => ?_
  refine wpAny_execs_cons (raise_none (e1 := e1) rfl ?_)
  refine ev_innR (mg := mg) (mb := mb) (In.bare (glAt _ sk₄) hen) hkV fun s₆ h₅ e2 args k₆ hM => ?_
  refine Classical.byContradiction fun zG => ?_
  obtain ⟨h₆, t₆, rfl, k₆⟩ := k₆
  dsimp only at k₆ hM
  have sk₆ := sk₄.trans (.of_keep k₆)
  have x₆ := x₄.keep k₆
  have x₇ := x₆.keep hM.keeps
  refine Classical.byContradiction fun zG => ?_
  obtain ⟨t, ht, _⟩ := hM.there
  refine zG ?_
  clear zG
  refine Classical.byContradiction fun zG => ?_
  obtain ⟨_, o1, vs1, T1, oT1, ts1, ho1, hc1, hd1, _, hc2, _⟩ := id x₇
  refine zG ?_
  clear zG
  refine zG ?_
  clear zG
  have hne : e1 ≠ e2 := fun w => by
    refine Classical.byContradiction fun zG => ?_
    obtain ⟨_, o1', _, _, _, _, ho1', _⟩ := x₆
    refine zG ?_
    clear zG
    rw [w, hM.new] at ho1'; cases ho1'
  have hnb : hb.get? e2 = none := by
    cases w : hb.get? e2 with
    | none => rfl
    | some o => obtain ⟨sl, w'⟩ := sk₆.slo e2 o w; rw [hM.new] at w'; cases w'
  refine ⟨e2, t, o1, vs1, rfl, ht, hne, ho1, hd1, hc2, fun h₇ he₇ hs₇ => ?_⟩
  have sk₇ : SK ((env :: l).filterMap (·.frame)) hb h₇ := (sk₆.trans (.of_keep hM.keeps)).new hs₇ hnb
  have x20 : Exc0 hb h₇ e2 (.ref e1) := ⟨hnb, _, _, he₇, rfl, rfl, rfl, rfl⟩
  refine note_new (s := { s with heap := h₇, toks := t₆ }) ((frames_mark _ _).trans hfr) hbare hfe sk₇ x20 fun h₈ sk₈ x₈ => ?_
  refine came_back (s := { s with heap := h₈, toks := t₆ }) sk₈ x₈ fun h₉ sk₉ x₉ => ?_
  rw [hfe] at x₉
  exact h e2 h₉ t₆ sk₉ x₉
-- the outer clause lets it pass
theorem raise_out {env : Env} {l : List Env} {L : Addr} {hb : Heap} {s : Shared} {e2 : Addr} {c2 : Value} (hfe : env.frame = some L) (hen : GEnv env) (hkT : env.kindOf "TypeError" = some .globalImplicit) (hkA : env.kindOf "AttributeError" = some .globalImplicit)
    (glAt : ∀ h'', SK ((env :: l).filterMap (·.frame)) hb h'' → Gl mg mb h'') (sk₉ : SK ((env :: l).filterMap (·.frame)) hb s.heap) (x₉ : Exc hb s.heap e2 c2 (rawInt L)) {QN : Flow → Shared → Prop} {EN E2 E3 : Value → Shared → Prop}
    (h : ∀ h₉ t₆, SK ((env :: l).filterMap (·.frame)) hb h₉ → Exc hb h₉ e2 c2 (rawInt L) → EN (.ref e2) { s with heap := h₉, toks := t₆ }) :
    wpAny (model prog w) A (noteFrame (.ref e2) env) (fun _ s₂ => wpAny (model prog w) A (setFlight (.ref e2) none) (fun _ s₃ => wpAny (model prog w) A (handleBy (.ref e2) env [tryH]) QN EN s₃) E2 s₂) E3 s := by
  refine note_again hfe x₉ ?_
  refine flight sk₉ x₉ fun h₁₀ sk₁₀ x₁₀ => ?_
  rw [tryH_eq]
  refine PyProof.Rows.wpAny_handleBy_tup2 (X := "ValueError") (T1 := "TypeError") (T2 := "AttributeError") (b1 := false) (b2 := false) exc_t nt_t exc_a nt_a sub_vt sub_va ?_
  refine wpAny_mono (ev_tryT (mg := mg) (mb := mb) (ρ := []) hkT hkA [] _ (In.bare (glAt _ sk₁₀) hen) _) (fun cv s₁₁ q₁₁ => ?_) fun _ _ e => e
  refine Classical.byContradiction fun zG => ?_
  obtain ⟨⟨h₁₁, t₁₁, rfl, k₁₁⟩, tp, us, rfl, _, ho, hp⟩ := q₁₁
  refine zG ?_
  clear zG
  have sk₁₁ := sk₁₀.trans (.of_keep k₁₁)
  have x₁₁ := x₁₀.keep k₁₁
  have hus : us = [.type "TypeError", .type "AttributeError"] := by
    cases hp with
    | cons a1 r1 => cases r1 with
      | cons a2 r2 => cases r2; rw [show _ = _ from a1, show _ = _ from a2]
  rw [hus] at ho
  refine ⟨tp, rfl, ho, x₁₁.typeIs, ?_⟩
  simp only [Bool.or_self, Bool.false_eq_true, if_false]
  refine wpAny_handleBy_nil (pass_on (s := { s with heap := h₁₁, toks := t₁₁ }) sk₁₁ x₁₁ fun h₁₂ sk₁₂ x₁₂ => ?_)
  rw [hfe] at x₁₂
  exact h h₁₂ t₁₁ sk₁₂ x₁₂

set_option maxHeartbeats 2000000 in
-- commonpath of paths with a root and without: it raises ValueError
theorem raise_common (T : TK α) (hlit : LitOk T) {n : Nat} (hR : Rm (n + 9) A) {l : List Env} (hfr : A.frames = some l) {p0 : α} {ps : List α} (hl : ps.length ≤ 999) (hlen : ∀ p ∈ p0 :: ps, T.len p ≤ 5000)
    (h1 : (p0 :: ps).any T.starts = true) (h0 : ((p0 :: ps).any fun z => !T.starts z) = true) {hB : Heap} {X : List Addr} {s : Shared} {a : Addr} {vs : List Value} (hGB : Gl mg mb hB) (hG : Gl mg mb s.heap) (hX : Hr X s) (hkB : Keep hB s.heap)
    (hfl : s.heap.FunFrames hB l) (hm : mg (defAt 13).name = some (.ref a)) (hv : Vals X s.heap vs [⟨rList T.K.r, p0 :: ps⟩]) {E : Value → Shared → Prop} {Q : Value → Shared → Prop}
    (h : ∀ e h' tk c2, SK (l.filterMap (·.frame)) s.heap h' → Exc s.heap h' e c2 .none → E (.ref e) { s with heap := h', toks := tk }) : wpAny (model prog w) A (call (.ref a) vs) Q E s := by
  refine Classical.byContradiction fun zG => ?_
  obtain ⟨v, rfl, hrd⟩ := vals1 hv
  refine zG ?_
  clear zG
  refine enterF (k := 13) (binds := [(("paths" : Str), v)]) (ρ := [("paths", ⟨rList T.K.r, p0 :: ps⟩)]) (by decide) hR hG hX hm (fun pm cd doc => rfl) (.cons hrd .nil) (by simp) (by intro x hx; simp at hx; subst hx; exact .inl rfl) (fun L cells q f c X₁ s₁ F hLn hcl hXX hR' => ?_)
  refine com_head T hlit (n := n + 2) hR' (Nat.le_succ_of_le hl) hcl (fun s₂ F₂ => ?_) s₁ F
  rw [try13_eq]
  refine wpAny_execs_cons (wpAny_Try_except ?_)
  rw [tryB_eq]
  refine com_split T (ps := p0 :: ps) hR' ?_ hlen (fun s₃ F₃ => wpAny_execs_cons (wpAny_Try_except ?_)) s₂ F₂
  · simp only [List.length_cons]; lia -abstractProof
  have key := @ev_isabs (prog) (w) (mg) (mb) _ _ _ T _ hR' _ hlen (L) (cells) (q) (f) (c) (some L) (("split_paths", ⟨rList (rList T.K.r), splitsF T (p0 :: ps)⟩) :: ρ13 T (p0 :: ps)) rfl rfl
  rw [h1, h0] at key
  refine blk_unpack2 hR'.none key (fun s₄ F₄ h' tk e1 hN => ?_) rfl rfl s₃ F₃
  have hkV : (envK 13 L cells q f c (some L)).kindOf "ValueError" = some .globalImplicit := rfl
  have hkT : (envK 13 L cells q f c (some L)).kindOf "TypeError" = some .globalImplicit := rfl
  have hkA : (envK 13 L cells q f c (some L)).kindOf "AttributeError" = some .globalImplicit := rfl
  have hfe : (envK 13 L cells q f c (some L)).frame = some L := rfl
  have hLS : (envK 13 L cells q f c (some L)).locals = L := rfl
  clear key
  generalize envK 13 L cells q f c (some L) = env at *
  revert env; refine held ?_; intro env F hR' F₂ F₃ F₄ hkV hkT hkA hfe hLS
  have hfr' : (A.deeper env).frames = some (env :: l) := Around.frames_deeper hfr
  have hen : GEnv env := F.inn.en
  -- the raise, in commonpath's own frame
  have hks : Keep s.heap s₄.heap := Keeps.keep F₄.done
  have hFF : s₄.heap.FunFrames hB (env :: l) := by
    refine Classical.byContradiction fun zG => ?_
    obtain ⟨m, cm, fr⟩ := F₄.fr
    refine zG ?_
    clear zG
    refine Heap.FunFrames.cons (by rw [hen.2.2]; decide) hfe (hLS ▸ fr.toInCall.ns) ?_ (FunFrames.keeps hfl hks)
    cases e : hB.get? L with
    | none => rfl
    | some o => rw [hkB _ _ e] at hLn; cases hLn
  have hkB₄ : Keep hB s₄.heap := fun b o e => hks b o (hkB b o e)
  have hbare := bare_frames hFF
  have glAt : ∀ h'', SK ((env :: l).filterMap (·.frame)) s₄.heap h'' → Gl mg mb h'' := fun h'' k => hGB.keeps (k.base hFF hkB₄)
  have hx0 : Exc0 s₄.heap h' e1 .none := by
    refine Classical.byContradiction fun zG => ?_
    obtain ⟨ob, t, g1, g2, g3⟩ := hN.there
    refine zG ?_
    clear zG
    exact ⟨hN.new, ob, _, g1, g2, g3, rfl, rfl⟩
  refine raise_in (s := { s₄ with heap := h', toks := tk }) hfr' hbare hfe hen hkV glAt (.of_keep hN.keeps) hx0 fun e2 h₉ t₆ sk₉ x₉ => ?_
  refine raise_out (s := { s₄ with heap := h₉, toks := t₆ }) hfe hen hkT hkA glAt sk₉ x₉ fun h₁₂ t₁₁ sk₁₂ x₁₂ => ?_
  unfold leaving
  refine wpAny_bind (note_again (s := { s₄ with heap := h₁₂, toks := t₁₁ }) hfe x₁₂ ?_)
  refine flight (s := { s₄ with heap := h₁₂, toks := t₁₁ }) sk₁₂ x₁₂ fun h₁₃ sk₁₃ x₁₃ => ?_
  refine Classical.byContradiction fun zG => ?_
  obtain ⟨hh, tt, es, _⟩ := F₄.done
  refine zG ?_
  clear zG
  have := h e2 h₁₃ t₁₁ (.ref e1) ⟨fun b o hb e => sk₁₃.out b o (fun w => ?_) (hks b o e), fun b o e => sk₁₃.slo b o (hks b o e)⟩ (x₁₃.older hks)
  · rw [es]; exact this
  · rw [List.filterMap_cons, hfe] at w
    rcases List.mem_cons.mp w with rfl | w
    · rw [hLn] at e; cases e
    · exact hb w
end
end Mine.Internal
end
section
open PySem PySem.Calls
set_option maxRecDepth 100000
namespace Mine.Internal
section
variable {prog : Program} {w : World} {mg mb : Str → Option Value} {A : Around} {α : Type} [DecidableEq α]
noncomputable def lcH : ExceptHandler := sH (st (defAt 24).body 0)
noncomputable def lcT : Expr := hT lcH
noncomputable def lcQ : Pos × Pos × Pos := (xP (ex (sX (st (hB lcH) 0)) 0), sP (st (hB lcH) 0), hP lcH)
theorem lcH_eq : lcH = .ExceptHandler (some lcT) none [.Return (some (.Constant .none 0 lcQ.1)) lcQ.2.1] lcQ.2.2 := rfl
noncomputable def lcS : Stmt := st (sB (st (defAt 24).body 0)) 0
noncomputable def lcE : Expr := ex (sX lcS) 0
noncomputable def lcN : Pos × Pos × Pos × Pos × Pos := (xP (ex (xX lcE) 0), xP (ex (xX lcE) 1), xP lcE, sP lcS, sP (st (defAt 24).body 0))
theorem lc_body : (defAt 24).body = [.Try [.Return (some (.Call (.Name "commonpath" lcN.1) [.Name "paths" lcN.2.1] [] lcN.2.2.1)) lcN.2.2.2.1] [lcH] [] [] lcN.2.2.2.2] := rfl
theorem ev_lcT {env : Env} {ρ : Vs} (hk : env.kindOf "ValueError" = some .globalImplicit) : Ev prog w mg mb A env ρ lcT (rIs (.type "ValueError")) () := @ev_bname _ _ _ _ _ _ _ _ _ _ (by decide) (by decide +kernel) hk (by decide)

-- the clause catches it and gives None
theorem lc_in {env : Env} {l : List Env} {L : Addr} {hb : Heap} {s : Shared} {e : Addr} {c2 : Value} (hfr : A.frames = some (env :: l)) (hbare : hb.FunFrames {} (env :: l)) (hfe : env.frame = some L) (hen : GEnv env) (hkV : env.kindOf "ValueError" = some .globalImplicit)
    (glAt : ∀ h'', SK ((env :: l).filterMap (·.frame)) hb h'' → Gl mg mb h'') (sk : SK ((env :: l).filterMap (·.frame)) hb s.heap) (x : Exc hb s.heap e c2 .none) {QN : Flow → Shared → Prop} {EN E2 E3 : Value → Shared → Prop}
    (h : ∀ h₄ t₃, SK ((env :: l).filterMap (·.frame)) hb h₄ → QN (.ret .none) { s with heap := h₄, toks := t₃ }) :
    wpAny (model prog w) A (noteFrame (.ref e) env) (fun _ s₂ => wpAny (model prog w) A (setFlight (.ref e) none) (fun _ s₃ => wpAny (model prog w) A (handleBy (.ref e) env [lcH]) QN EN s₃) E2 s₂) E3 s := by
  refine note_next hfr hbare hfe sk x fun h₁ sk₁ x₁ => ?_
  refine flight (s := { s with heap := h₁ }) sk₁ x₁ fun h₂ sk₂ x₂ => ?_
  rw [lcH_eq]
  refine wpAny_handleBy_builtin (X := "ValueError") (T := "ValueError") (b := true) PySem.F.excRaise_ValueError.isExc nt_v sub_vv ?_
  refine Tr.gos (@ev_lcT _ _ (mg) (mb) _ _ ([]) hkV) (In.bare (glAt _ sk₂) hen) fun cv h₃ t₃ k₃ hcv => ?_
  have sk₃ := sk₂.trans (.of_keep k₃)
  have x₃ := x₂.keep k₃
  refine ⟨hcv, x₃.typeIs, ?_⟩
  simp only [if_true]
  refine flight (s := { s with heap := h₃, toks := t₃ }) sk₃ x₃ fun h₄ sk₄ x₄ => ?_
  exact wpAny_execs_cons (wpAny_Return_some (PyProof.Rows.Constant_none (h h₄ t₃ sk₄)))

set_option maxHeartbeats 2000000 in
-- _law_common of such paths gives None
theorem lc_none (T : TK α) (hlit : LitOk T) {n : Nat} (hR : Rm (n + 10) A) {l : List Env} (hfr : A.frames = some l) {p0 : α} {ps : List α} (hl : ps.length ≤ 999) (hlen : ∀ p ∈ p0 :: ps, T.len p ≤ 5000)
    (h1 : (p0 :: ps).any T.starts = true) (h0 : ((p0 :: ps).any fun z => !T.starts z) = true) {hB : Heap} {X : List Addr} {s : Shared} {a : Addr} {vs : List Value} (hGB : Gl mg mb hB) (hG : Gl mg mb s.heap) (hX : Hr X s) (hkB : Keep hB s.heap)
    (hfl : s.heap.FunFrames hB l) (hm : mg (defAt 24).name = some (.ref a)) (hv : Vals X s.heap vs [⟨rList T.K.r, p0 :: ps⟩]) {E : Value → Shared → Prop} {Q : Value → Shared → Prop}
    (h : ∀ h' tk, SK (l.filterMap (·.frame)) s.heap h' → Q .none { s with heap := h', toks := tk }) : wpAny (model prog w) A (call (.ref a) vs) Q E s := by
  refine Classical.byContradiction fun zG => ?_
  obtain ⟨v, rfl, hrd⟩ := vals1 hv
  refine zG ?_
  clear zG
  refine enterF (k := 24) (binds := [(("paths" : Str), v)]) (ρ := [("paths", ⟨rList T.K.r, p0 :: ps⟩)]) (by decide) hR hG hX hm (fun pm cd doc => rfl) (.cons hrd .nil) (by simp) (by intro x hx; simp at hx; subst hx; exact .inl rfl) (fun L cells q f c X₁ s₁ F hLn hcl hXX hR' => ?_)
  rw [lc_body]
  have hkV : (envK 24 L cells q f c (some L)).kindOf "ValueError" = some .globalImplicit := rfl
  have hkC : (envK 24 L cells q f c (some L)).kindOf "commonpath" = some .globalImplicit := rfl
  have hfe : (envK 24 L cells q f c (some L)).frame = some L := rfl
  have hLS : (envK 24 L cells q f c (some L)).locals = L := rfl
  generalize envK 24 L cells q f c (some L) = env at *
  revert env; refine held ?_; intro env F hR' hkV hkC hfe hLS
  have hfr' : (A.deeper env).frames = some (env :: l) := Around.frames_deeper hfr
  have hen : GEnv env := F.inn.en
  refine wpAny_execs_cons (wpAny_Try_except (wpAny_execs_cons (wpAny_Return_some ?_)))
  refine Classical.byContradiction fun zG => ?_
  obtain ⟨a13, o, pm, code, doc, g1, g2, g3, g4⟩ := F.inn.gl.fn 13 (by decide)
  refine zG ?_
  clear zG
  refine wpAny_Call_Name_kw (Name_function_global hen.2.2 hkC (loadGlobal_global (hen.1 ▸ F.inn.gl.g) (show mg ("commonpath" : Str) = some (.ref a13) from g1) ?_) (by decide))
  have hts : backTo lcN.2.2.1 (starEach [.Name "paths" lcN.2.1] env) = [eval (.Name "paths" lcN.2.1) env].map fun t => (false, t) := backTo_plain env _ [.Name "paths" lcN.2.1] (fun e he => by rw [List.mem_singleton.mp he]; rfl)
  show wpAny _ _ (callWith lcN.2.2.1 (.ref a13) [] (backTo lcN.2.2.1 (starEach [.Name "paths" lcN.2.1] env)) []) _ _ s₁
  rw [hts]
  refine callWith_function (o := o) (fd := docDef (defAt 13).name (defAt 13).params (defAt 13).body (defAt 13).scope pm code doc) (wpAny_mono (evalArgs_ev (mg := mg) (mb := mb) (ρ := [("paths", ⟨rList T.K.r, p0 :: ps⟩)]) (ts := [eval (.Name "paths" lcN.2.1) env]) (Us := [⟨rList T.K.r, p0 :: ps⟩]) (.cons (U := ⟨rList T.K.r, p0 :: ps⟩) (@ev_name _ _ _ _ _ _ _ _ _ _ _ _ rfl (by decide) (by decide)) .nil) X₁ s₁ _ F.inn) (fun x s₂ q₂ => ?_) fun _ _ e => e)
  refine Classical.byContradiction fun zG => ?_
  obtain ⟨k₂, hkw, hv₂⟩ := q₂
  refine zG ?_
  clear zG
  refine ⟨⟨Keeps.keep k₂ _ _ g2, g3⟩, ?_⟩
  rw [hkw]
  have F₂ := F.keeps k₂
  have hks : Keep s.heap s₂.heap := Keeps.keep F₂.done
  have hFF : s₂.heap.FunFrames hB (env :: l) := by
    refine Classical.byContradiction fun zG => ?_
    obtain ⟨m, cm, fr⟩ := F₂.fr
    refine zG ?_
    clear zG
    refine Heap.FunFrames.cons (by rw [hen.2.2]; decide) hfe (hLS ▸ fr.toInCall.ns) ?_ (FunFrames.keeps hfl hks)
    cases e : hB.get? L with
    | none => rfl
    | some o => rw [hkB _ _ e] at hLn; cases hLn
  have hkB₂ : Keep hB s₂.heap := fun b o e => hks b o (hkB b o e)
  have hbare := bare_frames hFF
  refine raise_common T hlit hR' hfr' hl hlen h1 h0 hGB F₂.inn.gl F₂.inn.here hkB₂ hFF g1 hv₂ fun e h' tk c2 sk x => ?_
  have glAt : ∀ h'', SK ((env :: l).filterMap (·.frame)) s₂.heap h'' → Gl mg mb h'' := fun h'' k => hGB.keeps (k.base hFF hkB₂)
  refine lc_in (s := { s₂ with heap := h', toks := tk }) hfr' hbare hfe hen hkV glAt sk x fun h₄ t₃ sk₄ => ?_
  refine Classical.byContradiction fun zG => ?_
  obtain ⟨hh, tt, es, _⟩ := F₂.done
  refine zG ?_
  clear zG
  have := h h₄ t₃ ⟨fun b o hb e => sk₄.out b o (fun w => ?_) (hks b o e), fun b o e => sk₄.slo b o (hks b o e)⟩
  · rw [es]; exact this
  · rw [List.filterMap_cons, hfe] at w
    rcases List.mem_cons.mp w with rfl | w
    · rw [hLn] at e; cases e
    · exact hb w
end
end Mine.Internal
end
section
open PySem PySem.Calls
set_option maxRecDepth 100000
namespace Mine.Internal
-- the codes that stand in a path
noncomputable def Al : List Int := [1, 33, 46, 47, 63, 65, 94, 97, 98, 127, 129, 174, 175]

theorem rIter_ok (p : List Int × Int) (h : ∀ x ∈ p.1, 0 ≤ x ∧ x < 7) : ∀ n, ∀ x ∈ (rIter n p).1, 0 ≤ x ∧ x < 7
  | 0 => h
  | n + 1 => by
    have ih := rIter_ok p h n
    intro x hx
    simp only [rIter, rStep] at hx
    split at hx
    · rcases List.mem_append.mp hx with hx | hx
      · exact ih x hx
      · simp at hx; subst hx
        exact ⟨Int.emod_nonneg _ (by decide), Int.emod_lt_of_pos _ (by decide)⟩
    · exact ih x hx
theorem rowF_ok (number : Int) : (∀ x ∈ rowF number, 0 ≤ x ∧ x < 7) ∧ 5 ≤ (rowF number).length ∧ (rowF number).length ≤ 9 := by
  have h1 := rIter_ok ([number % 7], number / 7) (by simp; exact ⟨Int.emod_nonneg _ (by decide), Int.emod_lt_of_pos _ (by decide)⟩) 3
  have h2 := rIter_len ([number % 7], number / 7) 3
  refine ⟨fun x hx => ?_, ?_, ?_⟩
  · unfold rowF at hx
    rcases List.mem_append.mp hx with hx | hx
    · exact h1 x hx
    · have : ∀ x ∈ ([6, 0, 2, 3, 5] : List Int), 0 ≤ x ∧ x < 7 := by decide
      exact this x hx
  · unfold rowF; simp
  · unfold rowF; simp at h2 ⊢; lia -abstractProof

theorem getD_of_all {α : Type} {P : α → Prop} {l : List α} {d : α} (h : ∀ x ∈ l, P x) (hd : P d) (j : Nat) : P (l.getD j d) := by
  rw [List.getD_eq_getElem?_getD]
  cases e : l[j]? with
  | none => exact hd
  | some x => exact h x (List.mem_of_getElem? e)
theorem spell_al : ∀ l ∈ spell, ∀ y ∈ l, ∀ c ∈ y, c ∈ Al := by decide
theorem ends_al : ∀ y ∈ endsL, ∀ c ∈ y, c ∈ Al := by decide
theorem spell_pos : ∀ i, i < 7 → ∀ y ∈ spell.getD i [], 1 ≤ y.length := by decide
theorem cStep_al (p : List Int × Int) (k : Int) (h : ∀ c ∈ p.1, c ∈ Al) : ∀ c ∈ (cStep p k).1, c ∈ Al := by
  intro c hc
  unfold cStep at hc
  rcases List.mem_append.mp hc with hc | hc
  · exact h c hc
  · have := getD_of_all (P := fun y : List Int => ∀ c ∈ y, c ∈ Al) (l := spell.getD k.toNat []) (d := []) (getD_of_all (P := fun l : List (List Int) => ∀ y ∈ l, ∀ c ∈ y, c ∈ Al) spell_al (by simp) _) (by simp)
    exact this _ c hc
theorem fold_al : ∀ (l : List Int) (p : List Int × Int), (∀ c ∈ p.1, c ∈ Al) → ∀ c ∈ (l.foldl cStep p).1, c ∈ Al
  | [], _, h => h
  | k :: l, p, h => fold_al l (cStep p k) (cStep_al p k h)
theorem cStep_pos (p : List Int × Int) (k : Int) (h0 : 0 ≤ k) (h7 : k < 7) : p.1.length + 1 ≤ (cStep p k).1.length := by
  have hk : k.toNat < 7 := (Int.toNat_lt h0).mpr h7
  refine Classical.byContradiction fun zG => ?_
  obtain ⟨hj0, hjl, hj, _⟩ := spell_at hk (p.2 % 6)
  refine zG ?_
  clear zG
  obtain ⟨hi1, hi2⟩ := spell_item _ hk _ hj
  have := spell_pos _ hk _ (List.mem_of_getElem? hi1)
  unfold cStep
  rw [List.length_append]; lia -abstractProof
theorem fold_pos : ∀ (l : List Int) (p : List Int × Int), (∀ x ∈ l, 0 ≤ x ∧ x < 7) → p.1.length + l.length ≤ (l.foldl cStep p).1.length
  | [], p, _ => by simp
  | k :: l, p, h => by
    have h1 := fold_pos l (cStep p k) fun x hx => h x (List.mem_cons_of_mem _ hx)
    have h2 := cStep_pos p k (h k List.mem_cons_self).1 (h k List.mem_cons_self).2
    simp only [List.foldl_cons, List.length_cons]; lia -abstractProof
theorem codes_ok (row : List Int) (draw : Int) (hrow : ∀ x ∈ row, 0 ≤ x ∧ x < 7) (hl0 : 5 ≤ row.length) (hl : row.length ≤ 9) : (∀ c ∈ codesF row draw, c ∈ Al) ∧ 2 ≤ (codesF row draw).length ∧ (codesF row draw).length ≤ 31 := by
  have hm4 : 0 ≤ draw % 4 ∧ draw % 4 < 4 := ⟨Int.emod_nonneg _ (by decide), Int.emod_lt_of_pos _ (by decide)⟩
  have hcr : (cRow row draw).length = row.length - (draw % 4).toNat := by unfold cRow; simp
  have hs : ∀ c ∈ cStart draw, c ∈ Al := by unfold cStart; split <;> decide
  refine ⟨fun c hc => ?_, ?_, ?_⟩
  · unfold codesF at hc
    rcases List.mem_append.mp hc with hc | hc
    · exact fold_al _ _ hs c hc
    · exact getD_of_all (P := fun y : List Int => ∀ c ∈ y, c ∈ Al) ends_al (by simp) _ c hc
  · have h1 := fold_pos (cRow row draw) (cStart draw, draw / 4) fun x hx => hrow x (List.mem_of_mem_take hx)
    unfold codesF
    rw [List.length_append]
    lia -abstractProof
  · have h1 := fold_len (cRow row draw) (cStart draw, draw / 4)
    have h2 := cStart_len draw
    have h3 : (endsL.getD (draw % 5).toNat []).length ≤ 3 := getD_of_all (P := fun y : List Int => y.length ≤ 3) (by decide) (by simp) _
    unfold codesF
    rw [List.length_append]
    dsimp only at h1
    lia -abstractProof
theorem al_low : ∀ c ∈ Al, (0 ≤ low c ∧ low c ≤ 1114111) ∧ (0 ≤ Builtin.bitOr (low c) 32 + 32 ∧ Builtin.bitOr (low c) 32 + 32 ≤ 1114111) := by decide
theorem al_byte : ∀ c ∈ Al, 0 ≤ c ∧ c < 256 := by decide
theorem al_pic : ∀ c ∈ Al, (picF c).length ≤ 3 := by decide

section
variable {prog : Program} {w : World} {mg mb : Str → Option Value} {A : Around} {env : Env} {s₀ : Shared} {X : List Addr} {ρ : Vs}
theorem con_int {k : Int} : ConB prog w A (.type "int") [⟨rInt, k⟩] rInt k := by
  intro X s vs _ hv E
  refine Classical.byContradiction fun zG => ?_
  obtain ⟨v, rfl, t, rfl⟩ := vals1 hv
  refine zG ?_
  clear zG
  exact call_int_int ⟨Keeps.refl _, t, rfl⟩
theorem intsAre_of {X : List Addr} {h : Heap} {vs : List Value} {ns : List Int} (p : Paired (rInt.rd X h) vs ns) : PyProof.Rows.IntsAre vs ns := by
  induction p with
  | nil => exact .nil
  | cons h _ ih => obtain ⟨t, rfl⟩ := h; exact .cons _ _ ih
theorem con_bytes {ns : List Int} (hh : A.handled = none) (hr : ∀ n ∈ ns, 0 ≤ n ∧ n < 256) (hz : ns.length ≤ 1000) : ConB prog w A (.type "bytes") [⟨rList rInt, ns⟩] rBytes (byteArr ns) := by
  intro X s vs _ hv E
  refine Classical.byContradiction fun zG => ?_
  obtain ⟨v, rfl, l, ws, rfl, _, ho, hp⟩ := vals1 hv
  refine zG ?_
  clear zG
  have hl := hp.length
  dsimp only at hl
  exact call_bytes_ints (l := l) ho (intsAre_of hp) hr (by show _ ≤ 2 ^ 24; lia -abstractProof) hh fun h' t k hk => ⟨Keeps.of hk, t, rfl⟩
theorem ev_pow10 {p1 p2 p3 : Pos} {j1 j2 : Nat} : Ev prog w mg mb A env ρ (.BinOp (.Constant (.int 10) j1 p1) .Pow (.Constant (.int 6) j2 p2) p3) rInt 1000000 :=
  @ev_binop _ _ _ _ _ _ _ _ _ _ _ _ _ _ _ (10) _ (6) _ _ ev_int ev_int (op_int fun s t u Q E h => PyProof.Rows.pow_int_small (by decide) (by decide) (by decide) (h _))
theorem tru_list {α : Type} {r : Rep α} {xs : List α} (hl : xs.length < 2 ^ 62) : ∀ X s v E, (rList r).rd X (s : Shared).heap v xs → wpAny (model prog w) A (truthy v) (fun c s' => Keeps s s' ∧ c = decide (xs ≠ [])) E s := by
  intro X s v E hv
  refine Classical.byContradiction fun zG => ?_
  obtain ⟨a, vs, rfl, _, ho, hp⟩ := hv
  refine zG ?_
  clear zG
  have hl := hp.length
  refine wpAny_truthy_list (items := vs.toArray) ho (by simp; lia -abstractProof) ⟨Keeps.tok _ _, ?_⟩
  cases xs with
  | nil => cases vs with
    | nil => simp
    | cons _ _ => cases hl
  | cons _ _ => cases vs with
    | nil => cases hl
    | cons _ _ => simp
theorem op_is_none : ∀ X (s : Shared) a b, Hr X s → (rIs .none).rd X s.heap a () → (rIs .none).rd X s.heap b () → Sv prog w A (compareOp .Is a b) X s rBool true := by
  intro X s a b _ ha hb E
  cases (show a = .none from ha)
  cases (show b = .none from hb)
  exact PyProof.Rows.is_none_none ⟨Keeps.refl _, rfl⟩
theorem op_eq_str {x y : Str} : ∀ X (s : Shared) a b, Hr X s → rStr.rd X s.heap a x → rStr.rd X s.heap b y → Sv prog w A (compareOp .Eq a b) X s rBool (decide (x = y)) := by
  intro X s a b _ ha hb E
  obtain ⟨t, rfl⟩ := ha
  obtain ⟨u, rfl⟩ := hb
  exact PyProof.Rows.eq_str ⟨Keeps.refl _, rfl⟩
theorem op_eq_bytes {x y : Array UInt8} : ∀ X (s : Shared) a b, Hr X s → rBytes.rd X s.heap a x → rBytes.rd X s.heap b y → Sv prog w A (compareOp .Eq a b) X s rBool (decide (x = y)) := by
  intro X s a b _ ha hb E
  obtain ⟨t, rfl⟩ := ha
  obtain ⟨u, rfl⟩ := hb
  refine PySem.W.eq_bytes ⟨Keeps.refl _, ?_⟩
  show Value.bool _ = Value.bool _
  congr 1
  rw [Bool.eq_iff_iff]
  simp

theorem Fm.slots {s : Shared} {h' : Heap} {tk : Nat} (F : Fm mg mb s₀ env X ρ s) (hLn : s₀.heap.get? env.locals = none) (k : SK [env.locals] s.heap h') : Fm mg mb s₀ env X ρ { s with heap := h', toks := tk } := by
  refine Classical.byContradiction fun zG => ?_
  obtain ⟨m, cm, fr⟩ := F.fr
  refine zG ?_
  clear zG
  have hout : ∀ b o, b ≠ env.locals → s.heap.get? b = some o → h'.get? b = some o := fun b o hb e => k.out b o (by simpa using hb) e
  have ns : ∀ m', s.heap.Ns env.locals m' → h'.Ns env.locals m' := fun m' ⟨o, es, ep, ho, hd, r⟩ => by
    obtain ⟨sl, e⟩ := k.slo _ _ ho
    exact ⟨_, es, ep, e, hd, r⟩
  have notL : ∀ n c, env.cells.lookup n = some c → c ≠ env.locals := fun n c hc => Nat.ne_of_gt (fr.above n c (mem_of_lookup hc))
  have fr' : InCallC s₀ env.locals m env.cells cm { s with heap := h', toks := tk } := by
    refine ⟨⟨?_, ns m fr.toInCall.ns, fun b o e => ?_, fr.toInCall.fresh⟩, fun n c hc => ?_, fr.apart, fr.above⟩
    · obtain ⟨h₁, tk₁, e⟩ := fr.toInCall.same
      rw [e]; exact ⟨h', _, rfl⟩
    · exact hout b o (fun q => by rw [q, hLn] at e; cases e) (fr.toInCall.keep b o e)
    · obtain ⟨o, ho, hd⟩ := fr.cell n c hc
      exact ⟨o, hout _ _ (notL n c hc) ho, hd⟩
  refine ⟨F.gl0, ⟨F.gl0.keeps fr'.toInCall.keep, F.inn.en, ?_, ?_⟩, ⟨_, _, fr'⟩, F.lX, F.cX⟩
  · intro y W hy
    refine Classical.byContradiction fun zG => ?_
    obtain ⟨u, hu, hr⟩ := F.inn.vars y W hy
    refine zG ?_
    clear zG
    refine ⟨u, ?_, W.r.mono hr fun b o hb e => hout b o (fun q => hb (q ▸ F.lX)) e⟩
    rcases hu with ⟨a, m', b, d⟩ | ⟨a, c, b, o, ho, hd⟩
    · exact .inl ⟨a, m', ns m' b, d⟩
    · exact .inr ⟨a, c, b, o, hout _ _ (notL y c b) ho, hd⟩
  · intro a ha
    obtain ⟨o, ho⟩ := F.inn.here a ha
    obtain ⟨sl, e⟩ := k.slo a o ho
    exact ⟨_, e⟩
end
end Mine.Internal
end
section
open PySem PySem.Calls
set_option maxRecDepth 100000
namespace Mine.Internal
noncomputable def rowS (script : List Int) : List Int := rowF ((script.head?.getD 8) % 1000000)
noncomputable def drawsS (script : List Int) : List Int := (script.drop 1).take 4 ++ [0, 223948]
noncomputable def pathsS (script : List Int) : List (List Int) := (drawsS script).map fun c => codesF (rowS script) (c % 1000000)
noncomputable def seenP (p : List Int) : Str := Txt.join "" (p.map picF)
noncomputable def rootN (paths : List (List Int)) : Nat := (paths.filter fun p => decide (p.getD 0 0 = 47)).length

theorem paths_ok (script : List Int) : ∀ p ∈ pathsS script, (∀ c ∈ p, c ∈ Al) ∧ 2 ≤ p.length ∧ p.length ≤ 31 := by
  intro p hp
  refine Classical.byContradiction fun zG => ?_
  obtain ⟨c, _, rfl⟩ := List.mem_map.mp hp
  refine zG ?_
  clear zG
  refine Classical.byContradiction fun zG => ?_
  obtain ⟨h1, h2, h3⟩ := rowF_ok ((script.head?.getD 8) % 1000000)
  refine zG ?_
  clear zG
  exact codes_ok _ _ h1 h2 h3
theorem draws_len (script : List Int) : (drawsS script).length ≤ 6 := by unfold drawsS; simp; omega
theorem filt_self {α : Type} (l : List α) : (l.filter fun _ => true) = l := List.filter_eq_self.mpr fun _ _ => rfl

section
variable {prog : Program} {w : World} {mg mb : Str → Option Value} {A : Around} {X : List Addr} {s₀ : Shared} {L : Addr} {cells : List (Str × Addr)} {q : Str} {f : Option Addr} {c : Value} {fr : Option Addr} {Q : Flow → Shared → Prop} {E : Value → Shared → Prop} {rest : List Stmt}

noncomputable def lw (k : Nat) : List Stmt := (defAt 25).body.drop k

set_option maxHeartbeats 1000000 in
theorem law_head {n : Nat} (hR : Rm (n + 1) A) {script : List Int} (hs : script.length ≤ 63) (hcl : ∀ y, (defAt 25).scope.names.lookup y = some .cell → ∃ c, cells.lookup y = some c)
    (h : Blk prog w mg mb A s₀ (envK 25 L cells q f c fr) X [("paths", ⟨rList (rList rInt), pathsS script⟩), ("row", ⟨rList rInt, rowS script⟩), ("script", ⟨rList rInt, script⟩)] (lw 2) Q E) :
    Blk prog w mg mb A s₀ (envK 25 L cells q f c fr) X [("script", ⟨rList rInt, script⟩)] (defAt 25).body Q E := by
  generalize hrt : lw 2 = rt at h
  revert rt; refine held ?_; intro rt hrt h
  have hbody : (defAt 25).body = (defAt 25).body.take 2 ++ rt := by rw [← hrt]; rfl
  rw [hbody]
  refine Classical.byContradiction fun zG => ?_
  obtain ⟨hw1, hw2, hw3⟩ := rowF_ok ((script.head?.getD 8) % 1000000)
  refine zG ?_
  clear zG
  have e8 : (if decide (script.take 1 ≠ []) then script.take 1 else [8])[(0 : Int).toNat]? = some (script.head?.getD 8) := by
    cases script with
    | nil => rfl
    | cons a r => rfl
  refine @blk_assign _ _ _ _ _ _ _ _ _ _ _ _ _ _ _ _ _ (rList rInt) (rowS script) (@ev_call _ _ _ _ _ _ _ _ (19) ("_law_row") _ _ _ ([_]) _ _ _ (by decide) (by decide +kernel) rfl rfl (.cons (U := ⟨rInt, (script.head?.getD 8) % 1000000⟩) ?_ .nil) (@con_row _ _ _ _ _ _ hR _) (by decide)) (.inr ⟨rfl, hcl "row" rfl⟩) ?_ (by rfl)
  · refine @ev_mod _ _ _ _ _ _ _ _ _ _ _ _ (@ev_tcall _ _ _ _ _ _ _ _ ("int") _ _ _ _ ([_]) _ _ _ (by decide) (by decide +kernel) rfl rfl (.cons (U := ⟨rInt, script.head?.getD 8⟩) (@ev_item _ _ _ _ _ _ _ _ _ _ _ _ _ (0) _ (@ev_or _ _ _ _ _ _ _ _ _ _ _ _ _ _ (decide (script.take 1 ≠ [])) ?_ (tru_list (by simp; omega)) (fun _ => @ev_ints _ _ _ _ _ _ _ _ _ rfl)) ev_int (by decide) (by decide) e8 (by intro _ _; with_unfolding_all rfl)) .nil) con_int (by decide)) ev_pow10 (by decide)
    exact @ev_cut _ _ _ _ _ _ _ _ _ _ _ _ _ _ _ _ _ (some ((1 : Nat) : Int)) (@ev_name _ _ _ _ _ _ _ _ _ _ _ _ rfl (by decide) (by decide)) evp_none (@evp_some _ _ _ _ _ _ _ _ _ ev_int) (fun h => cut_upto _ h) (by show _ ≤ 2 ^ 24; omega)
  · have e : pathsS script = ((drawsS script).filter fun _ => true).map fun c => codesF (rowS script) (c % 1000000) := by rw [filt_self]; rfl
    rw [e] at h
    refine @blk_assign_comp _ _ _ _ _ _ _ _ _ _ _ _ _ _ _ _ _ _ _ _ _ _ _ _ (rInt) (drawsS script) _ _ _ ([("row", ⟨rList rInt, rowS script⟩)]) (@evs_list _ _ _ _ _ _ _ _ _ _ _ hR.none ?_) (Frees.one rfl rfl rfl (fun h => nomatch (show some NameKind.cell = some NameKind.local from h)) rfl) (fun z hz cenv ce => TstAll.nil) (fun z hz _ cenv ce => ?_) h (by have := draws_len script; show _ ≤ 2 ^ 24; omega) rfl (.inl rfl) (by decide) rfl rfl (by intro _; rfl)
    · refine @ev_binop _ _ _ _ _ _ _ _ _ _ _ _ _ _ _ _ _ _ _ _ (@ev_cut _ _ _ _ _ _ _ _ _ _ _ _ _ _ _ _ (some ((1 : Nat) : Int)) (some ((5 : Nat) : Int)) (@ev_name _ _ _ _ _ _ _ _ _ _ _ _ rfl (by decide) (by decide)) (@evp_some _ _ _ _ _ _ _ _ _ ev_int) (@evp_some _ _ _ _ _ _ _ _ _ ev_int) (fun h => cut_run 1 5 h) (by show _ ≤ 2 ^ 24; omega)) (@ev_ints _ _ _ _ _ _ _ _ ([0, 223948]) rfl) (op_list (by simp; show _ ≤ 2 ^ 24; omega))
    · refine @ev_call _ _ _ _ _ _ _ _ (20) ("_law_codes") _ _ _ ([_, _]) _ _ _ (by decide) (by decide +kernel) (ce.kind rfl) rfl (.cons (@ev_name _ _ _ _ _ _ _ _ _ _ _ _ rfl (by decide) (by decide)) (.cons (U := ⟨rInt, z % 1000000⟩) ?_ .nil)) (@con_codes _ _ _ _ _ _ hR _ _ hw1 (by show 3 ≤ (rowF _).length; omega) (by show (rowF _).length ≤ 1000; omega) (Int.emod_nonneg _ (by decide))) (by decide)
      exact @ev_mod _ _ _ _ _ _ _ _ _ _ _ _ (@ev_tcall _ _ _ _ _ _ _ _ ("int") _ _ _ _ ([_]) _ _ _ (by decide) (by decide +kernel) (ce.kind rfl) rfl (.cons (@ev_name _ _ _ _ _ _ _ _ _ _ _ _ rfl (by decide) (by decide)) .nil) con_int (by decide)) ev_pow10 (by decide)

-- the pictures of the paths
set_option maxHeartbeats 1000000 in
theorem ev_seen {n : Nat} (hR : Rm (n + 3) A) {paths : List (List Int)} {ρ : Vs} (hp : ρ.lookup ("paths" : Str) = some ⟨rList (rList rInt), paths⟩) (hpl : paths.length ≤ 1000) (hok : ∀ p ∈ paths, (∀ c ∈ p, c ∈ Al) ∧ 2 ≤ p.length ∧ p.length ≤ 31) :
    Ev prog w mg mb A (envK 25 L cells q f c fr) ρ (ex (xX (ex (sX (st (lw 2) 0)) 0)) 1) (rList rStr) (paths.map seenP) := by
  have e : paths.map seenP = (paths.filter fun _ => true).map seenP := by rw [filt_self]
  rw [e]
  refine @ev_comp _ _ _ _ _ _ _ _ _ _ _ _ _ _ _ _ _ _ _ _ _ ([]) (@evs_list _ _ _ _ _ _ _ _ _ _ _ hR.none (@ev_name _ _ _ _ _ _ _ _ _ _ _ _ hp (by decide) (by decide))) (Frees.nil (by decide)) (fun z hz cenv ce => TstAll.nil) (fun z hz _ cenv ce => ?_) (by show _ ≤ 2 ^ 24; exact Nat.le_trans hpl (by decide)) rfl (.inl rfl) (by decide) (by intro _; rfl)
  refine Classical.byContradiction fun zG => ?_
  obtain ⟨h1, h2, h3⟩ := hok z hz
  refine zG ?_
  clear zG
  have hsum : ((z.map picF).map Str.length).sum + (z.map picF).length ≤ 100000 := by
    have : ∀ l : List Int, (∀ c ∈ l, c ∈ Al) → ((l.map picF).map Str.length).sum ≤ 3 * l.length := fun l hl => by
      induction l with
      | nil => simp
      | cons c l ih =>
        have := al_pic c (hl c List.mem_cons_self)
        have := ih fun x hx => hl x (List.mem_cons_of_mem _ hx)
        simp only [List.map_cons, List.sum_cons, List.length_cons]; omega
    have := this z h1
    simp only [List.length_map]
    omega
  refine @ev_meth _ _ _ _ _ _ _ _ _ _ _ _ _ _ ("str") ("str.join") ([_]) ([⟨rList rStr, z.map picF⟩]) (rStr) ("") _ _ rfl rfl F.plainAttrs_str F.slot_str_join F.type_str_join ev_str (fun X s v hv => ?_) rfl (by decide) (.cons ?_ .nil) (@sJoin_c _ _ _ _ _ (by decide) hsum)
  · obtain ⟨t, rfl⟩ := hv; exact ⟨typeIs_str s _ t, fun a h => nomatch h⟩
  · have e : z.map picF = ((z.filter fun _ => true).map picF) := by rw [filt_self]
    show Ev _ _ _ _ _ _ _ _ (rList rStr) (z.map picF)
    rw [e]
    refine @ev_comp _ _ _ _ _ _ _ _ _ _ _ _ _ _ _ _ _ _ _ _ _ ([]) (@evs_list _ _ _ _ _ _ _ _ _ _ _ hR.none (@ev_name _ _ _ _ _ _ _ _ _ _ _ _ rfl (by decide) (by decide))) (Frees.nil (by decide)) (fun z hz cenv ce => TstAll.nil) (fun c hc _ cenv' ce' => ?_) (by show _ ≤ 2 ^ 24; omega) rfl (.inl rfl) (by decide) (by intro _; rfl)
    obtain ⟨g1, g2⟩ := al_low c (h1 c hc)
    exact @ev_call _ _ _ _ _ _ _ _ (17) ("unctrl") _ _ _ ([_]) _ _ _ (by decide) (by decide +kernel) (ce'.kind rfl) rfl (.cons (@ev_name _ _ _ _ _ _ _ _ _ _ _ _ rfl (by decide) (by decide)) .nil) (@con_unctrl _ _ _ _ _ _ hR c g1 g2) (by decide)

-- the octets of the paths
set_option maxHeartbeats 1000000 in
theorem ev_oct {n : Nat} (hR : Rm n A) {paths : List (List Int)} {ρ : Vs} (hp : ρ.lookup ("paths" : Str) = some ⟨rList (rList rInt), paths⟩) (hpl : paths.length ≤ 1000) (hok : ∀ p ∈ paths, (∀ c ∈ p, c ∈ Al) ∧ 2 ≤ p.length ∧ p.length ≤ 31) :
    Ev prog w mg mb A (envK 25 L cells q f c fr) ρ (ex (xX (ex (sX (st (lw 3) 0)) 0)) 1) (rList rBytes) (paths.map byteArr) := by
  have e : paths.map byteArr = (paths.filter fun _ => true).map byteArr := by rw [filt_self]
  rw [e]
  refine @ev_comp _ _ _ _ _ _ _ _ _ _ _ _ _ _ _ _ _ _ _ _ _ ([]) (@evs_list _ _ _ _ _ _ _ _ _ _ _ hR.none (@ev_name _ _ _ _ _ _ _ _ _ _ _ _ hp (by decide) (by decide))) (Frees.nil (by decide)) (fun z hz cenv ce => TstAll.nil) (fun z hz _ cenv ce => ?_) (by show _ ≤ 2 ^ 24; omega) rfl (.inl rfl) (by decide) (by intro _; rfl)
  refine Classical.byContradiction fun zG => ?_
  obtain ⟨h1, h2, h3⟩ := hok z hz
  refine zG ?_
  clear zG
  exact @ev_tcall _ _ _ _ _ _ _ _ ("bytes") ("bytes") _ _ _ ([_]) _ _ _ (by decide) (by decide +kernel) (ce.kind rfl) rfl (.cons (@ev_name _ _ _ _ _ _ _ _ _ _ _ _ rfl (by decide) (by decide)) .nil) (@con_bytes _ _ _ _ hR.none (fun n hn => al_byte n (h1 n hn)) (by omega)) (by decide)

-- how many have a root
theorem law_rooted {n : Nat} (hR : Rm n A) {paths : List (List Int)} {ρ : Vs} (hp : ρ.lookup ("paths" : Str) = some ⟨rList (rList rInt), paths⟩) (hpl : paths.length ≤ 1000) (hok : ∀ p ∈ paths, (∀ c ∈ p, c ∈ Al) ∧ 2 ≤ p.length ∧ p.length ≤ 31)
    (h : Blk prog w mg mb A s₀ (envK 25 L cells q f c fr) X (("rooted", ⟨rInt, (rootN paths : Int)⟩) :: ρ) (lw 5) Q E) : Blk prog w mg mb A s₀ (envK 25 L cells q f c fr) X ρ (lw 4) Q E := by
  generalize hrt : lw 5 = rt at h
  revert rt; refine held ?_; intro rt hrt h
  have hbody : lw 4 = (lw 4).take 1 ++ rt := by rw [← hrt]; rfl
  rw [hbody]
  have e : (rootN paths : Int) = (((paths.filter fun p => decide (p.getD 0 0 = 47)).map fun p => p).length : Int) := by simp [rootN]
  rw [e] at h
  have hle : (paths.filter fun p => decide (p.getD 0 0 = 47)).length ≤ paths.length := List.length_filter_le _ _
  refine @blk_assign _ _ _ _ _ _ _ _ _ _ _ _ _ _ _ _ _ _ _ (@ev_bcall _ _ _ _ _ _ _ _ ("len") _ _ _ _ ([_]) _ _ _ (by decide) (by decide +kernel) rfl rfl (.cons (U := ⟨rList (rList rInt), (paths.filter fun p => decide (p.getD 0 0 = 47)).map fun p => p⟩) ?_ .nil) (@ev_len _ _ _ _ _ _ (by rw [List.length_map]; omega)) (by decide)) (.inl rfl) h (by rfl)
  refine @ev_comp _ _ _ _ _ _ _ _ _ _ _ _ _ _ _ _ _ _ _ _ _ ([]) (@evs_list _ _ _ _ _ _ _ _ _ _ _ hR.none (@ev_name _ _ _ _ _ _ _ _ _ _ _ _ hp (by decide) (by decide))) (Frees.nil (by decide)) (fun z hz cenv ce => TstAll.one ?_) (fun z hz _ cenv ce => @ev_name _ _ _ _ _ _ _ _ _ _ _ _ rfl (by decide) (by decide)) (by show _ ≤ 2 ^ 24; omega) rfl (.inl rfl) (by decide) (by intro _; rfl)
  refine Classical.byContradiction fun zG => ?_
  obtain ⟨h1, h2, h3⟩ := hok z hz
  refine zG ?_
  clear zG
  refine @tst_cmp _ _ _ _ _ _ _ _ _ _ _ _ _ _ (z.getD 0 0) _ (47) _ (@ev_item _ _ _ _ _ _ _ _ _ _ _ _ _ (0) _ (@ev_name _ _ _ _ _ _ _ _ _ _ _ _ rfl (by decide) (by decide)) ev_int (by decide) (by decide) ?_ (by intro _ _; with_unfolding_all rfl)) ev_int (cmp_int fun s t u Q E h => PyProof.Rows.eq_int (by rw [beq_eq_decide]; exact h)) (by with_unfolding_all rfl)
  cases z with
  | nil => simp at h2
  | cons a r => rfl
end
end Mine.Internal
end
section
open PySem PySem.Calls
set_option maxRecDepth 100000
namespace Mine.Internal
theorem pStep_codes (seen : Bool) (p : List (List Int) × List Int) (c : Int) (hc : c ∈ Al) (h : ∀ q ∈ p.1 ++ [p.2], ∀ x ∈ q, x ∈ Al ∧ x ≠ 47 ∧ (seen = true → x ≠ 175)) :
    ∀ q ∈ (pStep seen p c).1 ++ [(pStep seen p c).2], ∀ x ∈ q, x ∈ Al ∧ x ≠ 47 ∧ (seen = true → x ≠ 175) := by
  have h1 : ∀ q ∈ p.1, ∀ x ∈ q, x ∈ Al ∧ x ≠ 47 ∧ (seen = true → x ≠ 175) := fun q hq => h q (List.mem_append_left _ hq)
  have h2 : ∀ x ∈ p.2, x ∈ Al ∧ x ≠ 47 ∧ (seen = true → x ≠ 175) := h p.2 (by simp)
  intro q hq
  unfold pStep at hq
  split at hq
  · simp at hq
    rcases hq with hq | rfl | rfl
    · exact h1 q hq
    · exact h2
    · intro x hx; simp at hx
  · rename_i h47
    split at hq
    · simp at hq
      rcases hq with hq | rfl | rfl
      · exact h1 q hq
      · intro x hx
        simp at hx
        rcases hx with hx | rfl
        · exact h2 x hx
        · exact ⟨by decide, by decide, fun _ => by decide⟩
      · intro x hx; simp at hx
    · rename_i h175
      simp at hq
      rcases hq with hq | rfl
      · exact h1 q hq
      · intro x hx
        simp at hx
        rcases hx with hx | rfl
        · exact h2 x hx
        · refine ⟨hc, h47, fun hs q => h175 ?_⟩
          subst q; rw [hs]; decide
theorem pAll_codes (seen : Bool) (codes : List Int) (h : ∀ c ∈ codes, c ∈ Al) : ∀ q ∈ pAll seen codes, ∀ x ∈ q, x ∈ Al ∧ x ≠ 47 ∧ (seen = true → x ≠ 175) := by
  have loop : ∀ (l : List Int) (p : List (List Int) × List Int), (∀ c ∈ l, c ∈ Al) → (∀ q ∈ p.1 ++ [p.2], ∀ x ∈ q, x ∈ Al ∧ x ≠ 47 ∧ (seen = true → x ≠ 175)) → ∀ q ∈ (l.foldl (pStep seen) p).1 ++ [(l.foldl (pStep seen) p).2], ∀ x ∈ q, x ∈ Al ∧ x ≠ 47 ∧ (seen = true → x ≠ 175) := by
    intro l
    induction l with
    | nil => intro p _ hp; exact hp
    | cons c l ih => intro p hl hp; exact ih _ (fun x hx => hl x (List.mem_cons_of_mem _ hx)) (pStep_codes seen p c (hl c List.mem_cons_self) hp)
  exact loop codes ([], []) h (by simp)
theorem al_pics : ∀ c ∈ Al, c ≠ 47 → c ≠ 175 → (picAt picsL c).isSome = true := by decide

section
variable {prog : Program} {w : World} {mg mb : Str → Option Value} {A : Around} {X : List Addr} {s₀ : Shared} {L : Addr} {cells : List (Str × Addr)} {q : Str} {f : Option Addr} {c : Value} {fr : Option Addr} {Q : Flow → Shared → Prop} {E : Value → Shared → Prop} {rest : List Stmt}

noncomputable def textRow (p : List Int) : List Str := (piecesF true p).map drawnF
-- _law_alike over what _law_pieces gives, pictures
theorem ev_textRows {n : Nat} (hR : Rm (n + 2) A) {paths : List (List Int)} {ρ : Vs} (hp : ρ.lookup ("paths" : Str) = some ⟨rList (rList rInt), paths⟩) (hpl : paths.length ≤ 1000) (hok : ∀ p ∈ paths, (∀ c ∈ p, c ∈ Al) ∧ 2 ≤ p.length ∧ p.length ≤ 31) :
    Ev prog w mg mb A (envK 25 L cells q f c fr) ρ (ex (xX (ex (xX (ex (sX (st (lw 6) 0)) 0)) 1)) 1) (rList (rList rStr)) (paths.map textRow) := by
  have e : paths.map textRow = (paths.filter fun _ => true).map textRow := by rw [filt_self]
  rw [e]
  refine @ev_comp _ _ _ _ _ _ _ _ _ _ _ _ _ _ _ _ _ _ _ _ _ ([]) (@evs_list _ _ _ _ _ _ _ _ _ _ _ hR.none (@ev_name _ _ _ _ _ _ _ _ _ _ _ _ hp (by decide) (by decide))) (Frees.nil (by decide)) (fun z hz cenv ce => TstAll.nil) (fun z hz _ cenv ce => ?_) (by show _ ≤ 2 ^ 24; lia -abstractProof) rfl (.inl rfl) (by decide) (by intro _; rfl)
  refine Classical.byContradiction fun zG => ?_
  obtain ⟨h1, h2, h3⟩ := hok z hz
  refine zG ?_
  clear zG
  refine @ev_call _ _ _ _ _ _ _ _ (22) ("_law_pieces") _ _ _ ([_, _]) _ _ _ (by decide) (by decide +kernel) (ce.kind rfl) rfl (.cons (@ev_name _ _ _ _ _ _ _ _ _ _ _ _ rfl (by decide) (by decide)) (.cons (U := ⟨rBool, true⟩) ?_ .nil)) (@con_pieces_t _ _ _ _ _ _ hR z (by lia -abstractProof) (fun q hq c hc => ?_)) (by decide)
  · exact @ev_true prog w mg mb A cenv _ true 0 ⟨159, 52, 159, 56⟩
  refine Classical.byContradiction fun zG => ?_
  obtain ⟨g1, g2, g3⟩ := pAll_codes true z h1 q (List.mem_filter.mp hq).1 c hc
  refine zG ?_
  clear zG
  exact al_pics c g1 g2 (g3 rfl)
theorem ev_octRows {n : Nat} (hR : Rm (n + 1) A) {paths : List (List Int)} {ρ : Vs} (hp : ρ.lookup ("paths" : Str) = some ⟨rList (rList rInt), paths⟩) (hpl : paths.length ≤ 1000) (hok : ∀ p ∈ paths, (∀ c ∈ p, c ∈ Al) ∧ 2 ≤ p.length ∧ p.length ≤ 31) :
    Ev prog w mg mb A (envK 25 L cells q f c fr) ρ (ex (xX (ex (xX (ex (xX (ex (sX (st (lw 7) 0)) 0)) 1)) 0)) 1) (rList (rList (rList rInt))) (paths.map (piecesF false)) := by
  have e : paths.map (piecesF false) = (paths.filter fun _ => true).map (piecesF false) := by rw [filt_self]
  rw [e]
  refine @ev_comp _ _ _ _ _ _ _ _ _ _ _ _ _ _ _ _ _ _ _ _ _ ([]) (@evs_list _ _ _ _ _ _ _ _ _ _ _ hR.none (@ev_name _ _ _ _ _ _ _ _ _ _ _ _ hp (by decide) (by decide))) (Frees.nil (by decide)) (fun z hz cenv ce => TstAll.nil) (fun z hz _ cenv ce => ?_) (by show _ ≤ 2 ^ 24; lia -abstractProof) rfl (.inl rfl) (by decide) (by intro _; rfl)
  refine Classical.byContradiction fun zG => ?_
  obtain ⟨h1, h2, h3⟩ := hok z hz
  refine zG ?_
  clear zG
  refine @ev_call _ _ _ _ _ _ _ _ (22) ("_law_pieces") _ _ _ ([_, _]) _ _ _ (by decide) (by decide +kernel) (ce.kind rfl) rfl (.cons (@ev_name _ _ _ _ _ _ _ _ _ _ _ _ rfl (by decide) (by decide)) (.cons (U := ⟨rBool, false⟩) ?_ .nil)) (@con_pieces_f _ _ _ _ _ _ hR z (by lia -abstractProof)) (by decide)
  exact @ev_true prog w mg mb A cenv _ false 0 ⟨160, 81, 160, 86⟩

-- how far rows run alike
structure Common {β : Type} (row0 : List β) (rest : List (List β)) (k : Nat) : Prop where
  le : ∀ row ∈ row0 :: rest, k ≤ row.length
  eq : ∀ row ∈ row0 :: rest, row.take k = row0.take k
  top : ∀ c, (∀ row ∈ row0 :: rest, c ≤ row.length) → (∀ row ∈ row0 :: rest, row.take c = row0.take c) → c ≤ k

theorem least {l : List Nat} : ∀ x, ∃ m, m ∈ x :: l ∧ ∀ a ∈ x :: l, m ≤ a := by
  induction l with
  | nil => intro x; exact ⟨x, by simp, by simp⟩
  | cons y l ih =>
    intro x
    refine Classical.byContradiction fun zG => ?_
    obtain ⟨m, h1, h2⟩ := ih y
    refine zG ?_
    clear zG
    by_cases h : x ≤ m
    · refine ⟨x, by simp, fun a ha => ?_⟩
      rcases List.mem_cons.mp ha with rfl | ha
      · exact Nat.le_refl _
      · exact Nat.le_trans h (h2 a ha)
    · refine ⟨m, List.mem_cons_of_mem _ h1, fun a ha => ?_⟩
      rcases List.mem_cons.mp ha with rfl | ha
      · lia -abstractProof
      · exact h2 a ha

theorem altRows_eq {β : Type} {row0 : List β} {rest : List (List β)} {c : Nat} : altRows (row0 :: rest) c = List.replicate (rest.length + 1) (row0.take c) ↔ ∀ row ∈ row0 :: rest, row.take c = row0.take c := by
  rw [List.eq_replicate_iff]
  unfold altRows
  constructor
  · intro h row hr
    exact h.2 _ (List.mem_map.mpr ⟨row, hr, rfl⟩)
  · intro h
    refine ⟨by simp, fun b hb => ?_⟩
    refine Classical.byContradiction fun zG => ?_
    obtain ⟨row, hr, rfl⟩ := List.mem_map.mp hb
    refine zG ?_
    clear zG
    exact h row hr

theorem con_alike2 {α : Type} [DecidableEq α] {r : Rep α} {d : Nat} (H : EqR r d) (hd : d ≤ 3) {n : Nat} (hR : Rm (n + 1) A) (row0 : List α) (rest : List (List α)) (hl : rest.length ≤ 100) (hrow : ∀ row ∈ row0 :: rest, row.length ≤ 10000) (k : Nat) (C : Common row0 rest k) :
    Con prog w mg mb A 23 [⟨rList (rList r), row0 :: rest⟩] (rList r) (row0.take k) := by
  refine Classical.byContradiction fun zG => ?_
  obtain ⟨m, m1, m2⟩ := least (l := rest.map List.length) row0.length
  refine zG ?_
  clear zG
  refine @con_alike _ _ _ _ _ _ _ _ _ H hd _ hR row0 rest hl hrow m k ⟨m1, m2⟩ ⟨?_, altRows_eq.mpr C.eq, fun c hc h => C.top c (fun row hr => ?_) (altRows_eq.mp h)⟩
  · obtain ⟨row, h1, h2⟩ := List.mem_map.mp (show m ∈ (row0 :: rest).map List.length from m1)
    have := C.le row h1; lia -abstractProof
  · have := m2 row.length (List.mem_map.mpr ⟨row, hr, rfl⟩ : row.length ∈ (row0 :: rest).map List.length); lia -abstractProof
end
end Mine.Internal
end
section
open PySem PySem.Calls
set_option maxRecDepth 100000
namespace Mine.Internal
section
variable {prog : Program} {w : World} {mg mb : Str → Option Value} {A : Around} {X : List Addr} {s₀ : Shared} {L : Addr} {cells : List (Str × Addr)} {q : Str} {f : Option Addr} {c : Value} {fr : Option Addr} {E : Value → Shared → Prop}

noncomputable abbrev ρ25 (script : List Int) : Vs := [("paths", ⟨rList (rList rInt), pathsS script⟩), ("row", ⟨rList rInt, rowS script⟩), ("script", ⟨rList rInt, script⟩)]

theorem law_if {ρ : Vs} {rn : Nat} {paths : List (List Int)} {Q : Flow → Shared → Prop} (hrt : ρ.lookup ("rooted" : Str) = some ⟨rInt, (rn : Int)⟩) (hp : ρ.lookup ("paths" : Str) = some ⟨rList (rList rInt), paths⟩) (hpl : paths.length ≤ 1000) (b : Bool) (hb : b = (decide (0 < rn) && decide (rn < paths.length)))
    (h1 : b = true → Blk prog w mg mb A s₀ (envK 25 L cells q f c fr) X ρ (sB (st (lw 5) 0)) (Then prog w A (envK 25 L cells q f c fr) (lw 6) Q E) E)
    (h2 : b = false → Blk prog w mg mb A s₀ (envK 25 L cells q f c fr) X ρ (lw 6) Q E) : Blk prog w mg mb A s₀ (envK 25 L cells q f c fr) X ρ (lw 5) Q E := by
  generalize hrt6 : lw 6 = rt at h1 h2
  have hbody : lw 5 = (lw 5).take 1 ++ rt := by rw [← hrt6]; rfl
  rw [hbody]
  have ht : Tst prog w mg mb A (envK 25 L cells q f c fr) ρ (ex (sX (st (lw 5) 0)) 0) b := by
    have e : b = (decide ((0 : Int) < (rn : Int)) && decide ((rn : Int) < (paths.length : Int))) := by
      rw [hb]; congr 1 <;> simp
    rw [e]
    exact @tst_chain _ _ _ _ _ _ _ _ _ _ _ _ _ _ _ _ _ _ _ _ _ _ _ _ ev_int (@ev_name _ _ _ _ _ _ _ _ _ _ _ _ hrt (by decide) (by decide)) (@ev_bcall _ _ _ _ _ _ _ _ ("len") _ _ _ _ ([_]) _ _ _ (by decide) (by decide +kernel) rfl rfl (.cons (@ev_name _ _ _ _ _ _ _ _ _ _ _ _ hp (by decide) (by decide)) .nil) (@ev_len _ _ _ _ _ _ (by lia -abstractProof)) (by decide)) (cmp_int fun s t u Q E h => PyProof.Rows.lt_int h) (cmp_int fun s t u Q E h => PyProof.Rows.lt_int h) (by with_unfolding_all rfl)
  exact blk_if ht h1 fun hc => @blk_fall _ _ _ _ _ _ _ _ _ _ _ _ (h2 hc)

-- a root here and none there: both are None
theorem law_mixed {n : Nat} (hR : Rm n A) {script : List Int} (hm : 0 < rootN (pathsS script) ∧ rootN (pathsS script) < (pathsS script).length) (hpl : (pathsS script).length ≤ 1000) :
    Blk prog w mg mb A s₀ (envK 25 L cells q f c fr) X (("rooted", ⟨rInt, (rootN (pathsS script) : Int)⟩) :: ("octets", ⟨rIs .none, ()⟩) :: ("seen", ⟨rIs .none, ()⟩) :: ρ25 script) (lw 5) (fun fl s' => ∃ v, fl = .ret v ∧ Keeps s₀ s' ∧ rBool.rd X s'.heap v true) E := by
  refine @law_if _ _ _ _ _ _ _ _ _ _ _ _ _ _ _ _ _ _ rfl rfl hpl true (by rw [decide_eq_true hm.1, decide_eq_true hm.2]; rfl) (fun _ => ?_) (fun h => nomatch h)
  exact @blk_ret _ _ _ _ _ _ _ _ _ _ _ _ _ _ _ _ (true) (@ev_and _ _ _ _ _ _ _ _ _ _ (true) (true) (@ev_cmp _ _ _ _ _ _ _ _ _ _ _ _ _ _ _ _ _ _ _ _ (@ev_name _ _ _ _ _ _ _ _ _ _ _ _ rfl (by decide) (by decide)) ev_none op_is_none (by with_unfolding_all rfl)) (fun _ => @ev_cmp _ _ _ _ _ _ _ _ _ _ _ _ _ _ _ _ _ _ _ _ (@ev_name _ _ _ _ _ _ _ _ _ _ _ _ rfl (by decide) (by decide)) ev_none op_is_none (by with_unfolding_all rfl))) (fun v s' k hr => ⟨v, rfl, k, hr⟩)

set_option maxHeartbeats 1000000 in
-- all with a root, or none
theorem law_even {n : Nat} (hR : Rm (n + 3) A) {script : List Int} {sv : Str} {ov : Array UInt8} (hm : ¬ (0 < rootN (pathsS script) ∧ rootN (pathsS script) < (pathsS script).length)) (hpl : (pathsS script).length ≤ 100)
    {a0 : List Str} {as : List (List Str)} {j1 : Nat} (ha : (pathsS script).map textRow = a0 :: as) (C1 : Common a0 as j1) (hr1 : ∀ row ∈ a0 :: as, row.length ≤ 10000) (hb1 : ((a0.take j1).map Str.length).sum + (a0.take j1).length ≤ 100000) (hc1 : (Txt.join sSep (a0.take j1)).length ≤ 900000)
    {b0 : List (List Int)} {bs : List (List (List Int))} {j2 : Nat} (hb : (pathsS script).map (piecesF false) = b0 :: bs) (C2 : Common b0 bs j2) (hr2 : ∀ row ∈ b0 :: bs, row.length ≤ 10000) (hok2 : ∀ p ∈ b0.take j2, (∀ n ∈ p, 0 ≤ n ∧ n < 256) ∧ p.length ≤ 1000)
    (hb2 : (((b0.take j2).map byteArr).map (·.size)).sum + ((b0.take j2).map byteArr).length * bSep.size ≤ 100000) (hc2 : (Builtin.Bytes.joined bSep ((b0.take j2).map byteArr)).size ≤ 900000) (y : Bool)
    (hy : y = (decide (sv = (if rootN (pathsS script) ≠ 0 then sSep else Str.empty) ++ Txt.join sSep (a0.take j1)) && decide (ov = (if rootN (pathsS script) ≠ 0 then bSep else #[]) ++ Builtin.Bytes.joined bSep ((b0.take j2).map byteArr)))) :
    Blk prog w mg mb A s₀ (envK 25 L cells q f c fr) X (("rooted", ⟨rInt, (rootN (pathsS script) : Int)⟩) :: ("octets", ⟨rBytes, ov⟩) :: ("seen", ⟨rStr, sv⟩) :: ρ25 script) (lw 5) (fun fl s' => ∃ v, fl = .ret v ∧ Keeps s₀ s' ∧ rBool.rd X s'.heap v y) E := by
  refine @law_if _ _ _ _ _ _ _ _ _ _ _ _ _ _ _ _ _ _ rfl rfl (by lia -abstractProof) false ?_ (fun h => nomatch h) (fun _ => ?_)
  · symm; rw [Bool.and_eq_false_iff]
    by_cases h : 0 < rootN (pathsS script)
    · right; exact decide_eq_false fun h' => hm ⟨h, h'⟩
    · left; exact decide_eq_false h
  have hlen1 : as.length ≤ 100 := by
    have := congrArg List.length ha; simp at this; lia -abstractProof
  have hlen2 : bs.length ≤ 100 := by
    have := congrArg List.length hb; simp at this; lia -abstractProof
  have k1 := @ev_textRows (prog) (w) (mg) (mb) _ (L) (cells) (q) (f) (c) (fr) (n + 1) hR (pathsS script) (("rooted", ⟨rInt, (rootN (pathsS script) : Int)⟩) :: ("octets", ⟨rBytes, ov⟩) :: ("seen", ⟨rStr, sv⟩) :: ρ25 script) rfl (by lia -abstractProof) (paths_ok script)
  rw [ha] at k1
  have k2 := @ev_octRows (prog) (w) (mg) (mb) _ (L) (cells) (q) (f) (c) (fr) (n + 2) hR (pathsS script) (("shown", ⟨rStr, Txt.join sSep (a0.take j1)⟩) :: ("rooted", ⟨rInt, (rootN (pathsS script) : Int)⟩) :: ("octets", ⟨rBytes, ov⟩) :: ("seen", ⟨rStr, sv⟩) :: ρ25 script) rfl (by lia -abstractProof) (paths_ok script)
  rw [hb] at k2
  refine @blk_assign _ _ _ _ _ _ _ _ _ _ _ _ _ _ _ _ _ (rStr) (Txt.join sSep (a0.take j1)) (@ev_meth _ _ _ _ _ _ _ _ _ _ _ _ _ _ ("str") ("str.join") ([_]) ([⟨rList rStr, a0.take j1⟩]) (rStr) (sSep) _ _ rfl rfl F.plainAttrs_str F.slot_str_join F.type_str_join ev_str (fun X s v hv => ?_) rfl (by decide) (.cons (U := ⟨rList rStr, a0.take j1⟩) (@ev_call _ _ _ _ _ _ _ _ (23) ("_law_alike") _ _ _ ([_]) _ _ _ (by decide) (by decide +kernel) rfl rfl (.cons (U := ⟨rList (rList rStr), a0 :: as⟩) k1 .nil) (@con_alike2 _ _ _ _ _ _ _ _ _ eqR_str (by decide) _ hR a0 as hlen1 hr1 j1 C1) (by decide)) .nil) (@sJoin_c _ _ _ _ _ (by decide) hb1)) (.inl rfl) ?_ (by rfl)
  · obtain ⟨t, rfl⟩ := hv; exact ⟨typeIs_str s _ t, fun a h => nomatch h⟩
  refine @blk_assign _ _ _ _ _ _ _ _ _ _ _ _ _ _ _ _ _ (rBytes) (Builtin.Bytes.joined bSep ((b0.take j2).map byteArr)) (@ev_meth _ _ _ _ _ _ _ _ _ _ _ _ _ _ ("bytes") ("bytes.join") ([_]) ([⟨rList rBytes, (b0.take j2).map byteArr⟩]) (rBytes) (bSep) _ _ rfl rfl tkBytes.pa tkBytes.slotJoin tkBytes.tyJoin ev_bytes (fun X s v hv => kBytes.ty s hv) rfl (by decide) (.cons (U := ⟨rList rBytes, (b0.take j2).map byteArr⟩) ?_ .nil) (@bJoin_c _ _ _ _ _ (by lia -abstractProof) (by have := hr2 b0 List.mem_cons_self; simp; lia -abstractProof))) (.inl rfl) ?_ (by rfl)
  · have e : (b0.take j2).map byteArr = ((b0.take j2).filter fun _ => true).map byteArr := by rw [filt_self]
    show Ev _ _ _ _ _ _ _ _ (rList rBytes) ((b0.take j2).map byteArr)
    rw [e]
    refine @ev_comp _ _ _ _ _ _ _ _ _ _ _ _ _ _ _ (rList rInt) (b0.take j2) _ _ _ _ ([]) (@evs_list _ _ _ _ _ _ _ _ _ _ _ hR.none (@ev_call _ _ _ _ _ _ _ _ (23) ("_law_alike") _ _ _ ([_]) _ _ _ (by decide) (by decide +kernel) rfl rfl (.cons (U := ⟨rList (rList (rList rInt)), b0 :: bs⟩) k2 .nil) (@con_alike2 _ _ _ _ _ _ _ _ _ (eqR_list eqR_int) (by decide) _ hR b0 bs hlen2 hr2 j2 C2) (by decide))) (Frees.nil (by decide)) (fun z hz cenv ce => TstAll.nil) (fun z hz _ cenv ce => ?_) ?_ rfl (.inl rfl) (by decide) (by intro _; rfl)
    · obtain ⟨g1, g2⟩ := hok2 z hz
      exact @ev_tcall _ _ _ _ _ _ _ _ ("bytes") ("bytes") _ _ _ ([_]) _ _ _ (by decide) (by decide +kernel) (ce.kind rfl) rfl (.cons (@ev_name _ _ _ _ _ _ _ _ _ _ _ _ rfl (by decide) (by decide)) .nil) (@con_bytes _ _ _ _ hR.none g1 g2) (by decide)
    · have := hr2 b0 List.mem_cons_self
      show _ ≤ 2 ^ 24
      simp; lia -abstractProof
  rw [hy]
  refine @blk_ret _ _ _ _ _ _ _ _ _ _ _ _ _ _ _ _ _ (@ev_and _ _ _ _ _ _ _ _ _ _ _ _ (@ev_cmp _ _ _ _ _ _ _ _ _ _ _ _ _ _ _ _ _ _ _ _ (@ev_name _ _ _ _ _ _ _ _ _ _ _ _ rfl (by decide) (by decide)) (@ev_binop _ _ _ _ _ _ _ _ _ _ _ _ _ _ _ _ _ _ _ _ (@ev_ifexp _ _ _ _ _ _ _ _ _ _ _ _ _ (if rootN (pathsS script) ≠ 0 then sSep else Str.empty) (decide ((rootN (pathsS script) : Int) ≠ 0)) (@tst_int _ _ _ _ _ _ _ _ _ (@ev_name _ _ _ _ _ _ _ _ _ _ _ _ rfl (by decide) (by decide)) (by intro _; rfl)) (fun hc => ?_) (fun hc => ?_)) (@ev_name _ _ _ _ _ _ _ _ _ _ _ _ rfl (by decide) (by decide)) (op_str ?_)) op_eq_str (by with_unfolding_all rfl)) (fun _ => @ev_cmp _ _ _ _ _ _ _ _ _ _ _ _ _ _ _ _ _ _ _ _ (@ev_name _ _ _ _ _ _ _ _ _ _ _ _ rfl (by decide) (by decide)) (@ev_binop _ _ _ _ _ _ _ _ _ _ _ _ _ _ _ _ _ _ _ _ (@ev_ifexp _ _ _ _ _ _ _ _ _ _ _ _ _ (if rootN (pathsS script) ≠ 0 then bSep else #[]) (decide ((rootN (pathsS script) : Int) ≠ 0)) (@tst_int _ _ _ _ _ _ _ _ _ (@ev_name _ _ _ _ _ _ _ _ _ _ _ _ rfl (by decide) (by decide)) (by intro _; rfl)) (fun hc => ?_) (fun hc => ?_)) (@ev_name _ _ _ _ _ _ _ _ _ _ _ _ rfl (by decide) (by decide)) (fun X s a b hX h1 h2 => tkBytes.addC hX ?_ h1 h2)) op_eq_bytes (by with_unfolding_all rfl))) (fun v s' k hr => ⟨v, rfl, k, hr⟩)
  · rw [if_pos (by have := of_decide_eq_true hc; lia -abstractProof)]; exact ev_str
  · rw [if_neg (by have := of_decide_eq_false hc; lia -abstractProof)]; exact ev_str
  · have : (if rootN (pathsS script) ≠ 0 then sSep else Str.empty).length ≤ 1 := by split <;> decide
    show _ ≤ 2 ^ 24; lia -abstractProof
  · rw [if_pos (by have := of_decide_eq_true hc; lia -abstractProof)]; exact ev_bytes
  · rw [if_neg (by have := of_decide_eq_false hc; lia -abstractProof)]; exact ev_bytes
  · have : (if rootN (pathsS script) ≠ 0 then bSep else #[]).size ≤ 1 := by split <;> decide
    show _ + (Builtin.Bytes.joined bSep ((b0.take j2).map byteArr)).size ≤ 1000000
    show (if rootN (pathsS script) ≠ 0 then bSep else #[]).size + _ ≤ _
    lia -abstractProof
end
end Mine.Internal
end
section
open PySem PySem.Calls
set_option maxRecDepth 100000
namespace Mine.Internal
section
variable {prog : Program} {w : World} {mg mb : Str → Option Value} {A : Around} {α : Type} [DecidableEq α]

theorem blk_lc (T : TK α) (hlit : LitOk T) {n : Nat} (hR : Rm (n + 10) A) {env : Env} {s₀ : Shared} {X : List Addr} {ρ : Vs} {rest : List Stmt} {Q : Flow → Shared → Prop} {E : Value → Shared → Prop} {x : Str} {px p pos spos : Pos} {arg : Expr} {p0 : α} {ps : List α}
    (hfr : A.frames = some [env]) (hfe : env.frame = some env.locals) (hLn : s₀.heap.get? env.locals = none) (hkC : env.kindOf "_law_common" = some .globalImplicit) (hl : ps.length ≤ 999) (hlen : ∀ p ∈ p0 :: ps, T.len p ≤ 5000)
    (h1 : (p0 :: ps).any T.starts = true) (h0 : ((p0 :: ps).any fun z => !T.starts z) = true)
    (harg : Ev prog w mg mb A env ρ arg (rList T.K.r) (p0 :: ps)) (hstar : isStar arg = false) (hx : env.kindOf x = some .local)
    (h : Blk prog w mg mb A s₀ env X ((x, ⟨rIs .none, ()⟩) :: ρ) rest Q E)
    (hsw : swapsWith (.Call (.Name "_law_common" p) [arg] [] pos) (some (.Name x px)) spos.line env = pure false := by rfl) :
    Blk prog w mg mb A s₀ env X ρ (.Assign [.Name x px] (.Call (.Name "_law_common" p) [arg] [] pos) spos :: rest) Q E := by
  intro s F
  have hen : GEnv env := F.inn.en
  refine wpAny_execs_cons (wpAny_Assign_Name ?_ hsw)
  refine Classical.byContradiction fun zG => ?_
  obtain ⟨a24, o, pm, code, doc, g1, g2, g3, g4⟩ := F.inn.gl.fn 24 (by decide)
  refine zG ?_
  clear zG
  refine wpAny_Call_Name_kw (Name_function_global hen.2.2 hkC (loadGlobal_global (hen.1 ▸ F.inn.gl.g) (show mg ("_law_common" : Str) = some (.ref a24) from g1) ?_) (by decide))
  have hts : backTo pos (starEach [arg] env) = [eval arg env].map fun t => (false, t) := backTo_plain env _ [arg] (by simpa using hstar)
  show wpAny _ _ (callWith pos (.ref a24) [] (backTo pos (starEach [arg] env)) []) _ _ s
  rw [hts]
  refine callWith_function (o := o) (fd := docDef (defAt 24).name (defAt 24).params (defAt 24).body (defAt 24).scope pm code doc) (wpAny_mono (evalArgs_ev (mg := mg) (mb := mb) (ρ := ρ) (ts := [eval arg env]) (Us := [⟨rList T.K.r, p0 :: ps⟩]) (.cons (U := ⟨rList T.K.r, p0 :: ps⟩) harg .nil) X s _ F.inn) (fun a s₂ q₂ => ?_) fun _ _ e => e)
  refine Classical.byContradiction fun zG => ?_
  obtain ⟨k₂, hkw, hv₂⟩ := q₂
  refine zG ?_
  clear zG
  refine ⟨⟨Keeps.keep k₂ _ _ g2, g3⟩, ?_⟩
  rw [hkw]
  have F₂ := F.keeps k₂
  have hFF : s₂.heap.FunFrames s₀.heap [env] := by
    refine Classical.byContradiction fun zG => ?_
    obtain ⟨m, cm, fr⟩ := F₂.fr
    refine zG ?_
    clear zG
    exact Heap.FunFrames.cons (by rw [hen.2.2]; decide) hfe fr.toInCall.ns hLn trivial
  refine lc_none T hlit hR hfr hl hlen h1 h0 F.gl0 F₂.inn.gl F₂.inn.here (Keeps.keep F₂.done) hFF g1 hv₂ fun h' tk sk => ?_
  have sk' : SK [env.locals] s₂.heap h' := by
    have e : [env].filterMap (·.frame) = [env.locals] := by simp [hfe]
    rw [e] at sk; exact sk
  exact store (U := ⟨rIs .none, ()⟩) (F₂.slots (tk := tk) hLn sk') (.inl hx) rfl fun s' F' _ => h s' F'
end

-- some paths with a root, some without
structure PMixed (script : List Int) : Prop where
  m : 0 < rootN (pathsS script) ∧ rootN (pathsS script) < (pathsS script).length
  s1 : ((pathsS script).map seenP).any tkStr.starts = true
  s0 : (((pathsS script).map seenP).any fun z => !tkStr.starts z) = true
  b1 : ((pathsS script).map byteArr).any tkBytes.starts = true
  b0 : (((pathsS script).map byteArr).any fun z => !tkBytes.starts z) = true
  len1 : ∀ p ∈ (pathsS script).map seenP, tkStr.len p ≤ 5000
  len2 : ∀ p ∈ (pathsS script).map byteArr, tkBytes.len p ≤ 5000

-- all with a root, or none
structure PEven (script : List Int) (p0 : List Int) (ps : List (List Int)) (root : Bool) (k1 k2 j1 j2 : Nat) : Prop where
  m : ¬ (0 < rootN (pathsS script) ∧ rootN (pathsS script) < (pathsS script).length)
  hp : pathsS script = p0 :: ps
  f1 : Fit tkStr (seenP p0) (ps.map seenP) k1
  r1 : ∀ x ∈ seenP p0 :: ps.map seenP, tkStr.starts x = root
  f2 : Fit tkBytes (byteArr p0) (ps.map byteArr) k2
  r2 : ∀ x ∈ byteArr p0 :: ps.map byteArr, tkBytes.starts x = root
  C1 : Common (textRow p0) (ps.map textRow) j1
  hr1 : ∀ row ∈ textRow p0 :: ps.map textRow, row.length ≤ 10000
  hb1 : (((textRow p0).take j1).map Str.length).sum + ((textRow p0).take j1).length ≤ 100000
  hc1 : (Txt.join sSep ((textRow p0).take j1)).length ≤ 900000
  C2 : Common (piecesF false p0) (ps.map (piecesF false)) j2
  hr2 : ∀ row ∈ piecesF false p0 :: ps.map (piecesF false), row.length ≤ 10000
  hok2 : ∀ p ∈ (piecesF false p0).take j2, (∀ n ∈ p, 0 ≤ n ∧ n < 256) ∧ p.length ≤ 1000
  hb2 : ((((piecesF false p0).take j2).map byteArr).map (·.size)).sum + (((piecesF false p0).take j2).map byteArr).length * bSep.size ≤ 100000
  hc2 : (Builtin.Bytes.joined bSep (((piecesF false p0).take j2).map byteArr)).size ≤ 900000
  e1 : comF tkStr root (seenP p0) (ps.map seenP) k1 = (if rootN (pathsS script) ≠ 0 then sSep else Str.empty) ++ Txt.join sSep ((textRow p0).take j1)
  e2 : comF tkBytes root (byteArr p0) (ps.map byteArr) k2 = (if rootN (pathsS script) ≠ 0 then bSep else #[]) ++ Builtin.Bytes.joined bSep (((piecesF false p0).take j2).map byteArr)

theorem rm_caller {n : Nat} (hn : n ≤ 30) : Rm n callerA := by
  refine ⟨?_, ?_, rfl⟩
  · show 1 + 300 + n ≤ 400; lia -abstractProof
  · show 4 + 20 * n ≤ 4000; lia -abstractProof

section
variable {prog : Program} {w : World} {mg mb : Str → Option Value}
set_option maxHeartbeats 2000000 in
theorem law_runs {script : List Int} (hs : script.length ≤ 63) (hplain : PMixed script ∨ ∃ p0 ps root k1 k2 j1 j2, PEven script p0 ps root k1 k2 j1 j2) {s : Shared} {a : Addr} {v : Value} (hG : Gl mg mb s.heap) (hm : mg (defAt 25).name = some (.ref a))
    (hv : (rList rInt).rd [] s.heap v script) {E : Value → Shared → Prop} {Q : Value → Shared → Prop} (h : ∀ s', Keeps s s' → Q (.bool true) s') : wpAny (model prog w) callerA (call (.ref a) [v]) Q E s := by
  have hR : Rm (19 + 1) callerA := rm_caller (by decide)
  refine enterF (k := 25) (binds := [(("script" : Str), v)]) (ρ := [("script", ⟨rList rInt, script⟩)]) (X := []) (by decide) hR hG (fun _ h => (nomatch h)) hm (fun pm cd doc => rfl) (.cons hv .nil) (by simp) (by intro x hx; simp at hx; subst hx; exact .inl rfl) (fun L cells q f c X₁ s₁ F hLn hcl hXX hR' => ?_)
  have hpl : (pathsS script).length ≤ 100 := by have := draws_len script; unfold pathsS; simp; lia -abstractProof
  have fin : ∀ fl s', (∃ v, fl = Flow.ret v ∧ Keeps s s' ∧ rBool.rd X₁ s'.heap v true) → Q (match fl with | .ret v => v | _ => .none) s' := by
    intro fl s' zI
    refine Classical.byContradiction fun zG => ?_
    obtain ⟨u, rfl, k, hr⟩ := zI
    refine zG ?_
    clear zG
    cases (show u = .bool true from hr)
    exact h s' k
  rcases hplain with P | ⟨p0, ps, root, k1, k2, j1, j2, P⟩
  · refine wpAny_mono (law_head (n := 18) hR'.le hs hcl (Q := fun fl s' => ∃ v, fl = .ret v ∧ Keeps s s' ∧ rBool.rd X₁ s'.heap v true) ?_ s₁ F) (fun fl s' => fin fl s') fun _ _ e => e
    have hfr : (callerA.deeper (envK 25 L cells q f c (some L))).frames = some [envK 25 L cells q f c (some L)] := Around.frames_deeper rfl
    obtain ⟨x0, xs, hx⟩ : ∃ x0 xs, pathsS script = x0 :: xs := by
      cases e : pathsS script with
      | nil => have := P.m.2; rw [e] at this; simp at this
      | cons a r => exact ⟨a, r, rfl⟩
    have hxl : xs.length ≤ 100 := by have := congrArg List.length hx; simp at this; lia -abstractProof
    have v1 := @ev_seen (prog) (w) (mg) (mb) _ (L) (cells) (q) (f) (c) (some L) (16) hR' (pathsS script) (ρ25 script) rfl (by lia -abstractProof) (paths_ok script)
    have v2 := @ev_oct (prog) (w) (mg) (mb) _ (L) (cells) (q) (f) (c) (some L) (19) hR' (pathsS script) (("seen", ⟨rIs .none, ()⟩) :: ρ25 script) rfl (by lia -abstractProof) (paths_ok script)
    refine Classical.byContradiction fun zG => ?_
    obtain ⟨m1, m2, m3, m4, m5, m6, m7⟩ := P
    refine zG ?_
    clear zG
    have hm1 := m1
    rw [hx] at v1 v2 m2 m3 m4 m5 m6 m7
    have w1 : ∀ {rest Q E}, Blk prog w mg mb (callerA.deeper (envK 25 L cells q f c (some L))) s (envK 25 L cells q f c (some L)) X₁ (("octets", ⟨rIs .none, ()⟩) :: ("seen", ⟨rIs .none, ()⟩) :: ρ25 script) rest Q E →
        Blk prog w mg mb (callerA.deeper (envK 25 L cells q f c (some L))) s (envK 25 L cells q f c (some L)) X₁ (ρ25 script) ((lw 2).take 2 ++ rest) Q E := by
      intro rest Q E hr
      refine @blk_lc _ _ _ _ _ _ _ tkStr lit_str (9) hR' _ _ _ _ _ _ _ _ _ _ _ _ _ _ _ hfr rfl hLn rfl (by simp; lia -abstractProof) m6 m2 m3 v1 rfl rfl ?_ rfl
      exact @blk_lc _ _ _ _ _ _ _ tkBytes lit_bytes (9) hR' _ _ _ _ _ _ _ _ _ _ _ _ _ _ _ hfr rfl hLn rfl (by simp; lia -abstractProof) m7 m4 m5 v2 rfl rfl hr rfl
    have hbody : lw 2 = (lw 2).take 2 ++ lw 4 := rfl
    rw [hbody]
    exact w1 (@law_rooted _ _ _ _ _ _ _ _ _ _ _ _ _ _ _ _ hR' _ _ rfl (by lia -abstractProof) (paths_ok script) (@law_mixed _ _ _ _ _ _ _ _ _ _ _ _ _ _ _ hR' _ hm1 (by lia -abstractProof)))
  · refine wpAny_mono (law_head (n := 18) hR'.le hs hcl (Q := fun fl s' => ∃ v, fl = .ret v ∧ Keeps s s' ∧ rBool.rd X₁ s'.heap v true) ?_ s₁ F) (fun fl s' => fin fl s') fun _ _ e => e
    refine Classical.byContradiction fun zG => ?_
    obtain ⟨m, hp, f1, r1, f2, r2, C1, hr1, hb1, hc1, C2, hr2, hok2, hb2, hc2, e1, e2⟩ := P
    refine zG ?_
    clear zG
    have v1 := @ev_seen (prog) (w) (mg) (mb) _ (L) (cells) (q) (f) (c) (some L) (16) hR' (pathsS script) (ρ25 script) rfl (by lia -abstractProof) (paths_ok script)
    have v2 := @ev_oct (prog) (w) (mg) (mb) _ (L) (cells) (q) (f) (c) (some L) (19) hR' (pathsS script) (("seen", ⟨rStr, comF tkStr root (seenP p0) (ps.map seenP) k1⟩) :: ρ25 script) rfl (by lia -abstractProof) (paths_ok script)
    rw [hp] at v1 v2
    have w1 : ∀ {rest Q E}, Blk prog w mg mb (callerA.deeper (envK 25 L cells q f c (some L))) s (envK 25 L cells q f c (some L)) X₁ (("octets", ⟨rBytes, comF tkBytes root (byteArr p0) (ps.map byteArr) k2⟩) :: ("seen", ⟨rStr, comF tkStr root (seenP p0) (ps.map seenP) k1⟩) :: ρ25 script) rest Q E →
        Blk prog w mg mb (callerA.deeper (envK 25 L cells q f c (some L))) s (envK 25 L cells q f c (some L)) X₁ (ρ25 script) ((lw 2).take 2 ++ rest) Q E := by
      intro rest Q E hr
      refine @blk_assign _ _ _ _ _ _ _ _ _ _ _ _ _ _ _ _ _ (rStr) _ (@ev_call _ _ _ _ _ _ _ _ (24) ("_law_common") _ _ _ ([_]) _ _ _ (by decide) (by decide +kernel) rfl rfl (.cons (U := ⟨rList rStr, seenP p0 :: ps.map seenP⟩) v1 .nil) (@con_lc _ _ _ _ _ _ _ tkStr lit_str (9) hR' _ _ _ f1 root r1) (by decide)) (.inl rfl) ?_ (by rfl)
      exact @blk_assign _ _ _ _ _ _ _ _ _ _ _ _ _ _ _ _ _ (rBytes) _ (@ev_call _ _ _ _ _ _ _ _ (24) ("_law_common") _ _ _ ([_]) _ _ _ (by decide) (by decide +kernel) rfl rfl (.cons (U := ⟨rList rBytes, byteArr p0 :: ps.map byteArr⟩) v2 .nil) (@con_lc _ _ _ _ _ _ _ tkBytes lit_bytes (9) hR' _ _ _ f2 root r2) (by decide)) (.inl rfl) hr (by rfl)
    have hbody : lw 2 = (lw 2).take 2 ++ lw 4 := rfl
    rw [hbody]
    refine w1 (@law_rooted _ _ _ _ _ _ _ _ _ _ _ _ _ _ _ _ hR' _ _ rfl (by lia -abstractProof) (paths_ok script) (@law_even _ _ _ _ _ _ _ _ _ _ _ _ _ _ (16) hR' _ _ _ m hpl _ _ _ (by rw [hp]; rfl) C1 hr1 hb1 hc1 _ _ _ (by rw [hp]; rfl) C2 hr2 hok2 hb2 hc2 true ?_))
    rw [decide_eq_true e1, decide_eq_true e2]; rfl
end
end Mine.Internal
end
section
open PySem
namespace Mine.Internal
section
variable {β γ : Type} [DecidableEq β] [DecidableEq γ]
-- u ahead of the first piece
noncomputable def ahead (u : List β) : List (List β) → List (List β)
  | [] => [u]
  | h :: t => (u ++ h) :: t
noncomputable def splitL (x : β) : List β → List (List β)
  | [] => [[]]
  | c :: cs => if c = x then [] :: splitL x cs else ahead [c] (splitL x cs)
theorem splitL_cons (x c : β) (cs : List β) : splitL x (c :: cs) = if c = x then [] :: splitL x cs else ahead [c] (splitL x cs) := rfl
noncomputable def glue (x : β) : List (List β) → List β
  | [] => []
  | [p] => p
  | p :: q :: r => p ++ x :: glue x (q :: r)
omit [DecidableEq β] in
theorem ahead_nil {l : List (List β)} (h : l ≠ []) : ahead [] l = l := by cases l with
  | nil => exact absurd rfl h
  | cons a r => rfl
omit [DecidableEq β] in
theorem ahead_ahead (u v : List β) (l : List (List β)) : ahead u (ahead v l) = ahead (u ++ v) l := by cases l <;> simp [ahead]
omit [DecidableEq β] in
theorem ahead_ne (u : List β) (l : List (List β)) : ahead u l ≠ [] := by cases l <;> simp [ahead]
theorem splitL_ne (x : β) : ∀ l : List β, splitL x l ≠ []
  | [] => List.cons_ne_nil _ _
  | c :: cs => by rw [splitL_cons]; split; simp; exact ahead_ne _ _
theorem splitL_append (x : β) : ∀ (a b : List β), x ∉ a → splitL x (a ++ b) = ahead a (splitL x b)
  | [], b, _ => (ahead_nil (splitL_ne x b)).symm
  | c :: a, b, h => by
    have hc : ¬ c = x := fun e => h (by simp [e])
    rw [List.cons_append, splitL_cons, if_neg hc, splitL_append x a b fun e => h (List.mem_cons_of_mem _ e), ahead_ahead]
    rfl
theorem splitL_free (x : β) (a : List β) (h : x ∉ a) : splitL x a = [a] := by
  have := splitL_append x a [] h
  rw [List.append_nil] at this
  rw [this]
  show [a ++ []] = [a]
  rw [List.append_nil]
-- the pieces of a text that is glued of pieces without the sign
theorem splitL_glue (x : β) : ∀ (L : List (List β)), L ≠ [] → (∀ p ∈ L, x ∉ p) → splitL x (glue x L) = L
  | [], h, _ => absurd rfl h
  | [p], _, h => splitL_free x p (h p (by simp))
  | p :: q :: r, _, h => by
    have ih := splitL_glue x (q :: r) (by simp) fun y hy => h y (List.mem_cons_of_mem _ hy)
    show splitL x (p ++ x :: glue x (q :: r)) = _
    rw [splitL_append x p _ (h p (by simp)), splitL_cons, if_pos rfl, ih]
    simp [ahead]
theorem splitL_map (x : β) (f : β → γ) : ∀ l : List β, (∀ c ∈ l, f c = f x → c = x) → splitL (f x) (l.map f) = (splitL x l).map (List.map f)
  | [], _ => rfl
  | c :: cs, h => by
    have ih := splitL_map x f cs fun d hd => h d (List.mem_cons_of_mem _ hd)
    rw [List.map_cons, splitL_cons, splitL_cons]
    by_cases e : c = x
    · rw [if_pos e, if_pos (by rw [e]), ih]; rfl
    · rw [if_neg e, if_neg (fun e' => e (h c (by simp) e')), ih]
      cases splitL x cs <;> simp [ahead]
end

-- the law's pieces, from the right
noncomputable def pRec (seen : Bool) : List Int → List (List Int)
  | [] => [[]]
  | c :: cs => if c = 47 then [] :: pRec seen cs else if (decide (c = 175) && seen) = true then [33] :: pRec seen cs else ahead [c] (pRec seen cs)
theorem pRec_cons (seen : Bool) (c : Int) (cs : List Int) : pRec seen (c :: cs) = if c = 47 then [] :: pRec seen cs else if (decide (c = 175) && seen) = true then [33] :: pRec seen cs else ahead [c] (pRec seen cs) := rfl
theorem pRec_ne (seen : Bool) : ∀ l, pRec seen l ≠ []
  | [] => List.cons_ne_nil _ _
  | c :: cs => by
    rw [pRec_cons]
    split
    · simp
    · split
      · simp
      · exact ahead_ne _ _
theorem pAll_rec (seen : Bool) (codes : List Int) : pAll seen codes = pRec seen codes := by
  have loop : ∀ (l : List Int) (p : List (List Int) × List Int), (l.foldl (pStep seen) p).1 ++ [(l.foldl (pStep seen) p).2] = p.1 ++ ahead p.2 (pRec seen l) := by
    intro l
    induction l with
    | nil => intro p; show p.1 ++ [p.2] = p.1 ++ [p.2 ++ []]; rw [List.append_nil]
    | cons c l ih =>
      intro p
      rw [List.foldl_cons, ih]
      rw [show pRec seen (c :: l) = if c = 47 then [] :: pRec seen l else if (decide (c = 175) && seen) = true then [33] :: pRec seen l else ahead [c] (pRec seen l) from rfl]
      unfold pStep
      by_cases h47 : c = 47
      · rw [if_pos h47, if_pos h47]
        dsimp only
        rw [ahead_nil (pRec_ne seen l), List.append_assoc]
        simp [ahead]
      · rw [if_neg h47, if_neg h47]
        by_cases h175 : (decide (c = 175) && seen) = true
        · rw [if_pos h175, if_pos h175]
          dsimp only
          rw [ahead_nil (pRec_ne seen l), List.append_assoc]
          simp [ahead]
        · rw [if_neg h175, if_neg h175]
          dsimp only
          rw [ahead_ahead]
  have := loop codes ([], [])
  rw [List.nil_append, ahead_nil (pRec_ne seen codes)] at this
  exact this
theorem pRec_false : ∀ codes : List Int, pRec false codes = splitL 47 codes
  | [] => rfl
  | c :: cs => by
    rw [pRec_cons, splitL_cons]
    rw [pRec_false cs]
    simp

noncomputable def pcs (c : Int) : List Nat := (picF c).cps.toList
noncomputable def pcsAll (l : List Int) : List Nat := (l.map pcs).flatten
theorem pcs_ok : ∀ c ∈ Al, c ≠ 47 → c ≠ 175 → 47 ∉ pcs c ∧ pcs c ≠ [] := by decide
theorem pcs_47 : pcs 47 = [47] := by decide
theorem pcs_175 : pcs 175 = [33, 47] := by decide
theorem pcs_33 : pcs 33 = [33] := by decide
theorem pcs_dot : ∀ c ∈ Al, pcs c = [46] → c = 46 := by decide
theorem pcs_pos : ∀ c ∈ Al, pcs c ≠ [] := by decide
theorem pcs_head : ∀ c ∈ Al, ((pcs c).head? = some 47 ↔ c = 47) := by decide
theorem pcsAll_cons (c : Int) (l : List Int) : pcsAll (c :: l) = pcs c ++ pcsAll l := by simp [pcsAll]
-- the pictures' text, split
theorem split_pcs : ∀ codes : List Int, (∀ c ∈ codes, c ∈ Al) → splitL 47 (pcsAll codes) = (pRec true codes).map pcsAll
  | [], _ => rfl
  | c :: cs, h => by
    have ih := split_pcs cs fun d hd => h d (List.mem_cons_of_mem _ hd)
    rw [pcsAll_cons, pRec_cons]
    by_cases h47 : c = 47
    · subst h47
      rw [if_pos rfl, pcs_47, List.singleton_append, splitL_cons, if_pos rfl, ih]; rfl
    · rw [if_neg h47]
      by_cases h175 : c = 175
      · subst h175
        rw [if_pos (by decide), pcs_175]
        show splitL 47 ([33] ++ 47 :: pcsAll cs) = _
        rw [splitL_append _ _ _ (by decide), splitL_cons, if_pos rfl, ih]
        rfl
      · rw [if_neg (by simp [h175])]
        rw [splitL_append _ _ _ (pcs_ok c (h c (by simp)) h47 h175).1, ih]
        cases e : pRec true cs with
        | nil => exact absurd e (pRec_ne _ _)
        | cons a r => simp [ahead, pcsAll_cons]
end Mine.Internal
end
section
open PySem PySem.Builtin
set_option maxRecDepth 10000
namespace Mine.Internal
theorem sSep_is : sSep = ⟨#[47]⟩ := by decide
theorem str_cps {x y : Str} (h : x.cps.toList = y.cps.toList) : x = y := by
  cases x; cases y
  simp only [Str.mk.injEq]
  exact Array.toList_inj.mp h
theorem cps_append (x y : Str) : (x ++ y).cps.toList = x.cps.toList ++ y.cps.toList := by simp [Str.cps_append]
theorem join_cps (c : Nat) : ∀ L : List Str, (Str.join ⟨#[c]⟩ L).cps.toList = glue c (L.map (·.cps.toList))
  | [] => rfl
  | [p] => rfl
  | p :: q :: r => by
    have ih := join_cps c (q :: r)
    show (p ++ ⟨#[c]⟩ ++ Str.join ⟨#[c]⟩ (q :: r)).cps.toList = _
    rw [cps_append, cps_append, ih]
    show _ = p.cps.toList ++ c :: glue c _
    simp
theorem split_ne (x y : Str) : Txt.split x y ≠ [] := by
  unfold Txt.split
  split
  · simp
  · split
    · simp
    · rw [StrLaws.partsBetween_eq]
      refine Classical.byContradiction fun zG => ?_
      obtain ⟨p, r, e⟩ := StrLaws.partsFrom_ne x y.length 0 (Builtin.Str.occurrences x y 0 x.length (x.length + 1))
      refine zG ?_
      clear zG
      rw [e]; simp
theorem split_list (x : Str) : (Txt.split x sSep).map (·.cps.toList) = splitL 47 x.cps.toList := by
  have h1 := StrLaws.join_split x sSep
  have h2 := split_ne x sSep
  rw [sSep_is] at h1 h2 ⊢
  have h3 := StrLaws.split_free x 47
  have h4 := join_cps 47 (Txt.split x ⟨#[47]⟩)
  rw [h1] at h4
  rw [h4, splitL_glue]
  · simpa using h2
  · intro p hp
    refine Classical.byContradiction fun zG => ?_
    obtain ⟨q, hq, rfl⟩ := List.mem_map.mp hp
    refine zG ?_
    clear zG
    exact h3 q hq
theorem empty_cps : ("" : Str).cps.toList = [] := by decide
theorem join_empty_cps : ∀ L : List Str, (Str.join "" L).cps.toList = (L.map (·.cps.toList)).flatten
  | [] => rfl
  | [p] => by show p.cps.toList = _; simp
  | p :: q :: r => by
    have ih := join_empty_cps (q :: r)
    show (p ++ "" ++ Str.join "" (q :: r)).cps.toList = _
    rw [cps_append, cps_append, ih, empty_cps]
    simp
theorem seenP_cps (p : List Int) : (seenP p).cps.toList = pcsAll p := by
  unfold seenP Txt.join
  rw [StrLaws.glued_eq_join, join_empty_cps, List.map_map]
  rfl
theorem split_seen (p : List Int) (h : ∀ c ∈ p, c ∈ Al) : Txt.split (seenP p) sSep = (pRec true p).map seenP := by
  have h1 := split_list (seenP p)
  rw [seenP_cps, split_pcs p h] at h1
  have inj : ∀ (L M : List Str), L.map (·.cps.toList) = M.map (·.cps.toList) → L = M := by
    intro L
    induction L with
    | nil => intro M h; cases M with
      | nil => rfl
      | cons a r => simp at h
    | cons a r ih => intro M h; cases M with
      | nil => simp at h
      | cons b s =>
        simp only [List.map_cons, List.cons.injEq] at h
        rw [str_cps h.1, ih s h.2]
  apply inj
  rw [h1, List.map_map]
  apply List.map_congr_left
  intro q _
  exact (seenP_cps q).symm

-- octets
noncomputable def placesFrom : Nat → List UInt8 → List Nat
  | _, [] => []
  | k, c :: cs => if c = 47 then k :: placesFrom (k + 1) cs else placesFrom (k + 1) cs
theorem placesFrom_cons (k : Nat) (c : UInt8) (cs : List UInt8) : placesFrom k (c :: cs) = if c = 47 then k :: placesFrom (k + 1) cs else placesFrom (k + 1) cs := rfl
theorem placesFrom_nil (k : Nat) : placesFrom k [] = [] := rfl
theorem placesFrom_len : ∀ (l : List UInt8) (k : Nat), (placesFrom k l).length ≤ l.length
  | [], _ => Nat.le_refl _
  | c :: cs, k => by
    have := placesFrom_len cs (k + 1)
    rw [placesFrom_cons]
    split <;> simp <;> lia -abstractProof
theorem drop_at (l : List UInt8) (k : Nat) (h : k < l.length) : l.drop k = l[k] :: l.drop (k + 1) := List.drop_eq_getElem_cons h
theorem extract_one (x : Array UInt8) (k : Nat) (h : k < x.toList.length) : (x.extract k (k + 1) == bSep) = decide (x.toList[k] = 47) := by
  rw [Bool.eq_iff_iff, beq_iff_eq, decide_eq_true_eq, ← Array.toList_inj]
  simp only [bSep, Array.toList_extract, List.extract_eq_take_drop]
  rw [show k + 1 - k = 1 by lia -abstractProof, drop_at _ _ h]
  simp
theorem occ_fold (x : Array UInt8) : ∀ (m k : Nat) (acc : List Nat) (last : Nat), last ≤ k → k + m = x.toList.length →
    ((List.range' k m).foldl (fun (acc : List Nat × Nat) (i : Nat) => if i ≥ acc.2 && x.extract i (i + bSep.size) == bSep then (i :: acc.1, i + bSep.size) else acc) (acc, last)).1 = (placesFrom k (x.toList.drop k)).reverse ++ acc
  | 0, k, acc, last, _, h => by
    rw [List.drop_of_length_le (by lia -abstractProof)]; rfl
  | m + 1, k, acc, last, hl, h => by
    have hk : k < x.toList.length := by lia -abstractProof
    rw [List.range'_succ, List.foldl_cons, drop_at _ _ hk, placesFrom_cons]
    have e1 : bSep.size = 1 := rfl
    dsimp only
    rw [e1, extract_one x k hk, decide_eq_true hl, Bool.true_and]
    by_cases hc : x.toList[k] = 47
    · rw [decide_eq_true hc, if_pos rfl, if_pos hc]
      have := occ_fold x m (k + 1) (k :: acc) (k + 1) (Nat.le_refl _) (by lia -abstractProof)
      rw [e1] at this
      rw [this]; simp
    · rw [decide_eq_false hc, if_neg (by decide), if_neg hc]
      have := occ_fold x m (k + 1) acc last (by lia -abstractProof) (by lia -abstractProof)
      rw [e1] at this
      rw [this]
theorem occ_is (x : Array UInt8) : Bytes.occurrences x bSep 0 x.size = placesFrom 0 x.toList := by
  unfold Bytes.occurrences
  have e : (List.range (x.size + 1 - (0 + bSep.size))).map (· + 0) = List.range' 0 x.size := by
    have : x.size + 1 - (0 + bSep.size) = x.size := by show x.size + 1 - (0 + 1) = x.size; lia -abstractProof
    rw [this, List.range_eq_range']; simp
  rw [e]
  have := occ_fold x x.size 0 [] 0 (Nat.le_refl _) (by simp)
  simp only [List.drop_zero, List.append_nil] at this
  show ((List.range' 0 x.size).foldl (fun (acc : List Nat × Nat) (i : Nat) => if i ≥ acc.2 && x.extract i (i + bSep.size) == bSep then (i :: acc.1, i + bSep.size) else acc) ([], 0)).1.reverse = _
  rw [this, List.reverse_reverse]
theorem extract_list (x : Array UInt8) (i j : Nat) : (x.extract i j).toList = (x.toList.drop i).take (j - i) := by
  simp only [Array.toList_extract, List.extract_eq_take_drop]
theorem between_fold (x : Array UInt8) : ∀ (m k : Nat) (parts : Array (Array UInt8)) (last : Nat), last ≤ k → k + m = x.toList.length →
    let r := (placesFrom k (x.toList.drop k)).foldl (fun (q : Array (Array UInt8) × Nat) p => (q.1.push (x.extract q.2 p), p + 1)) (parts, last)
    (r.1.push (x.extract r.2 x.size)).toList.map (·.toList) = parts.toList.map (·.toList) ++ ahead ((x.toList.drop last).take (k - last)) (splitL 47 (x.toList.drop k))
  | 0, k, parts, last, hl, h => by
    have hs : x.size = k := by simpa using h.symm
    rw [List.drop_of_length_le (show x.toList.length ≤ k by lia -abstractProof)]
    simp only [placesFrom_nil, List.foldl_nil, Array.toList_push, List.map_append, List.map_cons, List.map_nil, show splitL (47 : UInt8) [] = [[]] from rfl, ahead, List.append_nil]
    rw [extract_list, hs]
  | m + 1, k, parts, last, hl, h => by
    have hk : k < x.toList.length := by lia -abstractProof
    rw [drop_at _ _ hk]
    by_cases hc : x.toList[k] = 47
    · have ih := between_fold x m (k + 1) (parts.push (x.extract last k)) (k + 1) (Nat.le_refl _) (by lia -abstractProof)
      simp only [placesFrom_cons, if_pos hc, List.foldl_cons, splitL_cons]
      rw [ih, Nat.sub_self, List.take_zero, ahead_nil (splitL_ne _ _)]
      simp only [Array.toList_push, List.map_append, List.map_cons, List.map_nil, ahead, List.append_nil]
      rw [extract_list]; simp
    · have ih := between_fold x m (k + 1) parts last (by lia -abstractProof) (by lia -abstractProof)
      simp only [placesFrom_cons, if_neg hc, splitL_cons]
      rw [ih, ahead_ahead]
      congr 2
      have e : k + 1 - last = (k - last) + 1 := by lia -abstractProof
      rw [e, List.take_add_one, List.getElem?_drop]
      have : last + (k - last) = k := by lia -abstractProof
      rw [this]; simp [hk]
theorem bSplit_list (x : Array UInt8) : (bSplit x).map (·.toList) = splitL 47 x.toList := by
  have hp : bPlaces x = placesFrom 0 x.toList := by
    unfold bPlaces
    rw [occ_is]
    exact List.take_of_length_le (by have := placesFrom_len x.toList 0; simp at this; lia -abstractProof)
  have hb : (Bytes.between x 1 (bPlaces x)).map (·.toList) = splitL 47 x.toList := by
    have := between_fold x x.size 0 #[] 0 (Nat.le_refl _) (by simp)
    simp only [List.drop_zero, Nat.sub_self, List.take_zero, ahead_nil (splitL_ne _ _), List.map_nil, List.nil_append] at this
    rw [hp]
    exact this
  unfold bSplit
  split
  · rename_i he
    have hn : bPlaces x = [] := by simpa using he
    rw [hn] at hb
    rw [← hb]
    show [x.toList] = [(x.extract 0 x.size).toList]
    simp
  · exact hb
end Mine.Internal
end
section
open PySem PySem.Builtin
namespace Mine.Internal
-- a strict order, total
structure Ord {α : Type} (lt : α → α → Bool) : Prop where
  irr : ∀ a, lt a a = false
  tra : ∀ a b c, lt a b = true → lt b c = true → lt a c = true
  tot : ∀ a b, lt a b = false → lt b a = false → a = b
section
variable {α : Type} [DecidableEq α] {lt : α → α → Bool}
theorem lexLt_irr (lt : α → α → Bool) : ∀ l : List α, lexLt lt l l = false
  | [] => rfl
  | x :: xs => by rw [lexLt_cons, if_pos rfl]; exact lexLt_irr lt xs
theorem lexLt_tra (O : Ord lt) : ∀ a b c : List α, lexLt lt a b = true → lexLt lt b c = true → lexLt lt a c = true
  | [], [], _, h, _ => (Bool.false_ne_true h).elim
  | [], _ :: _, [], _, h => (Bool.false_ne_true h).elim
  | [], _ :: _, _ :: _, _, _ => rfl
  | _ :: _, [], _, h, _ => (Bool.false_ne_true h).elim
  | _ :: _, _ :: _, [], _, h => (Bool.false_ne_true h).elim
  | x :: xs, y :: ys, z :: zs, h1, h2 => by
    rw [lexLt_cons] at h1 h2 ⊢
    by_cases exy : x = y
    · subst exy
      rw [if_pos rfl] at h1
      by_cases exz : x = z
      · subst exz
        rw [if_pos rfl] at h2 ⊢
        exact lexLt_tra O xs ys zs h1 h2
      · rw [if_neg exz] at h2 ⊢; exact h2
    · rw [if_neg exy] at h1
      by_cases eyz : y = z
      · subst eyz
        rw [if_neg exy]; exact h1
      · rw [if_neg eyz] at h2
        by_cases exz : x = z
        · subst exz
          have := O.tra x y x h1 h2
          rw [O.irr] at this; cases this
        · rw [if_neg exz]; exact O.tra x y z h1 h2
theorem lexLt_tot (O : Ord lt) : ∀ a b : List α, lexLt lt a b = false → lexLt lt b a = false → a = b
  | [], [], _, _ => rfl
  | [], _ :: _, h, _ => (Bool.false_ne_true h.symm).elim
  | _ :: _, [], _, h => (Bool.false_ne_true h.symm).elim
  | x :: xs, y :: ys, h1, h2 => by
    rw [lexLt_cons] at h1 h2
    by_cases e : x = y
    · subst e
      rw [if_pos rfl] at h1 h2
      rw [lexLt_tot O xs ys h1 h2]
    · rw [if_neg e] at h1
      rw [if_neg (Ne.symm e)] at h2
      exact absurd (O.tot x y h1 h2) e
theorem Ord.lex (O : Ord lt) : Ord (lexLt lt) := ⟨lexLt_irr lt, lexLt_tra O, lexLt_tot O⟩
omit [DecidableEq α] in
theorem Ord.pull {β : Type} {f : β → α} (O : Ord lt) (hf : ∀ a b, f a = f b → a = b) : Ord fun a b => lt (f a) (f b) :=
  ⟨fun _ => O.irr _, fun _ _ _ => O.tra _ _ _, fun _ _ h1 h2 => hf _ _ (O.tot _ _ h1 h2)⟩
omit [DecidableEq α] in
theorem Ord.flip (O : Ord lt) : Ord fun a b => lt b a := ⟨O.irr, fun a b c h1 h2 => O.tra c b a h2 h1, fun a b h1 h2 => O.tot a b h2 h1⟩
omit [DecidableEq α] in
-- the kept one: among them, and none is better
theorem best_is (O : Ord lt) : ∀ (l : List α) (x : α), best lt x l ∈ x :: l ∧ ∀ y ∈ x :: l, lt y (best lt x l) = false
  | [], x => ⟨List.mem_singleton.mpr rfl, fun y hy => by simp at hy; subst hy; exact O.irr _⟩
  | z :: l, x => by
    rw [best_cons]
    obtain ⟨h1, h2⟩ := best_is O l (if lt z x then z else x)
    refine ⟨?_, fun y hy => ?_⟩
    · rcases List.mem_cons.mp h1 with h | h
      · rw [h]; split <;> simp
      · exact List.mem_cons_of_mem _ (List.mem_cons_of_mem _ h)
    · have hb := h2 (if lt z x then z else x) List.mem_cons_self
      rcases List.mem_cons.mp hy with rfl | hy
      · -- the first
        cases hz : lt z y with
        | false => rw [hz] at hb; simpa using hb
        | true =>
          rw [hz] at hb
          simp only [if_true] at hb
          cases hq : lt y (best lt (if lt z y = true then z else y) l) with
          | false => rw [hz] at hq; exact hq
          | true =>
            rw [hz] at hq
            simp only [if_true] at hq
            rw [O.tra z y _ hz hq] at hb; cases hb
      · rcases List.mem_cons.mp hy with rfl | hy
        · cases hz : lt y x with
          | true => rw [hz] at hb; simpa using hb
          | false =>
            rw [hz] at hb
            simp only [Bool.false_eq_true, if_false] at hb
            cases hq : lt y (best lt (if lt y x = true then y else x) l) with
            | false => rw [hz] at hq; exact hq
            | true =>
              rw [hz] at hq
              simp only [Bool.false_eq_true, if_false] at hq
              -- y < best, and not y < x, and not x < best
              have e : x = best lt x l ∨ lt (best lt x l) x = true := by
                cases hw : lt (best lt x l) x with
                | true => exact .inr rfl
                | false => exact .inl (O.tot _ _ hb hw)
              rcases e with e | e
              · rw [← e] at hq; rw [hz] at hq; cases hq
              · rw [O.tra y _ x hq e] at hz; cases hz
        · exact h2 y (List.mem_cons_of_mem _ hy)

-- what lies between two that run alike runs alike
theorem between_alike (O : Ord lt) : ∀ (k : Nat) (s1 s2 r : List α), k ≤ s1.length → (∀ j, j < k → s1[j]? = s2[j]?) → lexLt lt r s1 = false → lexLt lt s2 r = false → r.take k = s1.take k ∧ k ≤ r.length
  | 0, _, _, _, _, _, _, _ => ⟨by simp, Nat.zero_le _⟩
  | k + 1, [], _, _, h, _, _, _ => by simp at h
  | k + 1, x :: s1, [], _, _, h, _, _ => by have := h 0 (Nat.succ_pos _); simp at this
  | k + 1, x :: s1, y :: s2, [], _, _, h, _ => (Bool.false_ne_true h.symm).elim
  | k + 1, x :: s1, y :: s2, z :: r, hk, he, h1, h2 => by
    have exy : x = y := by have := he 0 (Nat.succ_pos _); simpa using this
    subst exy
    rw [lexLt_cons] at h1 h2
    by_cases ezx : z = x
    · subst ezx
      rw [if_pos rfl] at h1 h2
      obtain ⟨g1, g2⟩ := between_alike O k s1 s2 r (by simpa using hk) (fun j hj => by have := he (j + 1) (by lia -abstractProof); simpa using this) h1 h2
      exact ⟨by simp [g1], by simp; lia -abstractProof⟩
    · rw [if_neg ezx] at h1
      rw [if_neg (Ne.symm ezx)] at h2
      exact absurd (O.tot z x h1 h2) ezx

theorem alike_of (lt : α → α → Bool) : ∀ s1 s2 : List α, lexLt lt s2 s1 = false → ∃ k, Alike s1 s2 k
  | [], s2, _ => ⟨0, Nat.le_refl _, fun j h => absurd h (Nat.not_lt_zero _), .inl rfl⟩
  | x :: s1, [], h => (Bool.false_ne_true h.symm).elim
  | x :: s1, y :: s2, h => by
    rw [lexLt_cons] at h
    by_cases e : y = x
    · subst e
      rw [if_pos rfl] at h
      refine Classical.byContradiction fun zG => ?_
      obtain ⟨k, g1, g2, g3⟩ := alike_of lt s1 s2 h
      refine zG ?_
      clear zG
      refine ⟨k + 1, by simpa using g1, fun j hj => ?_, ?_⟩
      · cases j with
        | zero => rfl
        | succ j => simpa using g2 j (by lia -abstractProof)
      · rcases g3 with g3 | ⟨g3, g4⟩
        · exact .inl (by simp [g3])
        · exact .inr ⟨by simpa using g3, by simpa using g4⟩
    · refine ⟨0, Nat.zero_le _, fun j h => absurd h (Nat.not_lt_zero _), .inr ⟨by simp, ?_⟩⟩
      simp; exact fun q => e q.symm

-- where the least and the greatest run alike, all do
theorem common_of (T : TK α) (O : Ord T.lt) (r0 : List α) (rs : List (List α)) : ∃ k, Alike (minL T r0 rs) (maxL T r0 rs) k ∧ Common r0 rs k ∧ (minL T r0 rs).take k = r0.take k := by
  obtain ⟨m1, m2⟩ := best_is O.lex rs r0
  obtain ⟨x1, x2⟩ := best_is O.lex.flip rs r0
  have m1 : minL T r0 rs ∈ r0 :: rs := m1
  have x1 : maxL T r0 rs ∈ r0 :: rs := x1
  have m2 : ∀ r ∈ r0 :: rs, lexLt T.lt r (minL T r0 rs) = false := m2
  have x2 : ∀ r ∈ r0 :: rs, lexLt T.lt (maxL T r0 rs) r = false := x2
  obtain ⟨k, H⟩ := alike_of T.lt (minL T r0 rs) (maxL T r0 rs) (m2 _ x1)
  have mid : ∀ r ∈ r0 :: rs, r.take k = (minL T r0 rs).take k ∧ k ≤ r.length := fun r hr => between_alike O k _ _ r H.le H.eq (m2 r hr) (x2 r hr)
  have e0 : (minL T r0 rs).take k = r0.take k := (mid r0 List.mem_cons_self).1.symm
  refine ⟨k, H, ⟨fun r hr => (mid r hr).2, fun r hr => (mid r hr).1.trans e0, fun c hc h => ?_⟩, e0⟩
  rcases Nat.lt_or_ge k c with hlt | hge
  · exfalso
    have a1 := h _ m1
    have a2 := h _ x1
    have ek : (minL T r0 rs)[k]? = (maxL T r0 rs)[k]? := by
      have g1 : ((minL T r0 rs).take c)[k]? = (minL T r0 rs)[k]? := List.getElem?_take_of_lt hlt
      have g2 : ((maxL T r0 rs).take c)[k]? = (maxL T r0 rs)[k]? := List.getElem?_take_of_lt hlt
      rw [← g1, ← g2, a1, a2]
    rcases H.ne with h3 | ⟨_, h3⟩
    · have := hc _ m1; lia -abstractProof
    · exact h3 ek
  · exact hge

omit [DecidableEq α] in
theorem Common.of_map {β : Type} {f : α → β} {r0 : List α} {rs : List (List α)} {k : Nat} (C : Common (r0.map f) (rs.map (List.map f)) k) (hf : ∀ r ∈ r0 :: rs, ∀ x ∈ r, ∀ y ∈ r0, f x = f y → x = y) : Common r0 rs k := by
  have inj : ∀ (a b : List α), (∀ x ∈ a, ∀ y ∈ b, f x = f y → x = y) → a.map f = b.map f → a = b := by
    intro a
    induction a with
    | nil => intro b _ h; cases b with
      | nil => rfl
      | cons y b => simp at h
    | cons x a ih => intro b hb h; cases b with
      | nil => simp at h
      | cons y b =>
        simp only [List.map_cons, List.cons.injEq] at h
        rw [hb x (by simp) y (by simp) h.1, ih b (fun x hx y hy => hb x (List.mem_cons_of_mem _ hx) y (List.mem_cons_of_mem _ hy)) h.2]
  have up : ∀ r ∈ r0 :: rs, r.map f ∈ r0.map f :: rs.map (List.map f) := fun r hr => by
    rcases List.mem_cons.mp hr with rfl | hr
    · exact List.mem_cons_self
    · exact List.mem_cons_of_mem _ (List.mem_map.mpr ⟨r, hr, rfl⟩)
  have down : ∀ r' ∈ r0.map f :: rs.map (List.map f), ∃ r ∈ r0 :: rs, r' = r.map f := fun r' hr => by
    rcases List.mem_cons.mp hr with rfl | hr
    · exact ⟨r0, List.mem_cons_self, rfl⟩
    · obtain ⟨r, h, rfl⟩ := List.mem_map.mp hr
      exact ⟨r, List.mem_cons_of_mem _ h, rfl⟩
  refine ⟨fun r hr => by have := C.le _ (up r hr); simpa using this, fun r hr => ?_, fun c hc h => C.top c (fun r' hr' => ?_) fun r' hr' => ?_⟩
  · have := C.eq _ (up r hr)
    rw [← List.map_take, ← List.map_take] at this
    exact inj _ _ (fun x hx y hy => hf r hr x (List.mem_of_mem_take hx) y (List.mem_of_mem_take hy)) this
  · obtain ⟨r, hr, rfl⟩ := down r' hr'
    have := hc r hr; simpa using this
  · obtain ⟨r, hr, rfl⟩ := down r' hr'
    rw [← List.map_take, ← List.map_take, h r hr]
end
end Mine.Internal
end
section
open PySem PySem.Builtin
set_option maxRecDepth 10000
namespace Mine.Internal
theorem ord_nat : Ord fun a b : Nat => decide (a < b) :=
  ⟨fun a => by simp, fun a b c h1 h2 => by simp at h1 h2 ⊢; lia -abstractProof, fun a b h1 h2 => by simp at h1 h2; lia -abstractProof⟩
theorem ord_u8 : Ord fun a b : UInt8 => decide (a < b) :=
  ⟨fun a => by simp [UInt8.lt_irrefl], fun a b c h1 h2 => by simp at h1 h2 ⊢; exact UInt8.lt_trans h1 h2, fun a b h1 h2 => by
    simp at h1 h2
    exact UInt8.le_antisymm h2 h1⟩
theorem list_lt_lex : ∀ l m : List Nat, decide (l < m) = lexLt (fun a b => decide (a < b)) l m
  | [], [] => by show _ = false; simp
  | [], b :: m => by show _ = true; simp
  | a :: l, [] => by show _ = false; simp
  | a :: l, b :: m => by
    have ih := list_lt_lex l m
    rw [lexLt_cons]
    rw [← ih]
    by_cases e : a = b
    · subst e; rw [if_pos rfl]; simp [List.cons_lt_cons_iff]
    · rw [if_neg e]; simp [List.cons_lt_cons_iff, e]
theorem order_lex : ∀ l m : List UInt8, (Bytes.order l m == .lt) = lexLt (fun a b => decide (a < b)) l m
  | [], [] => rfl
  | [], b :: m => rfl
  | a :: l, [] => rfl
  | a :: l, b :: m => by
    have ih := order_lex l m
    unfold Bytes.order lexLt
    by_cases e : a = b
    · subst e
      rw [if_neg (UInt8.lt_irrefl a), if_neg (show ¬ a > a from UInt8.lt_irrefl a), if_pos rfl, ih]
    · rw [if_neg e]
      by_cases h : a < b
      · rw [if_pos h, decide_eq_true h]; rfl
      · have h' : b < a := by
          rcases UInt8.lt_or_lt_of_ne e with q | q
          · exact absurd q h
          · exact q
        rw [if_neg h, if_pos (show a > b from h'), decide_eq_false h]; rfl
theorem ord_str : Ord tkStr.lt := by
  have e : tkStr.lt = fun x y => lexLt (fun a b => decide (a < b)) x.cps.toList y.cps.toList := by
    funext x y; exact list_lt_lex _ _
  rw [e]
  exact ord_nat.lex.pull fun a b h => str_cps h
theorem ord_bytes : Ord tkBytes.lt := by
  have e : tkBytes.lt = fun x y => lexLt (fun a b => decide (a < b)) x.toList y.toList := by
    funext x y; exact order_lex _ _
  rw [e]
  exact ord_u8.lex.pull fun a b h => Array.toList_inj.mp h

-- pictures
theorem pic_same : ∀ c ∈ Al, c ≠ 47 → c ≠ 175 → pic1 c = picF c := by decide
theorem drawn_seen (q : List Int) (h : ∀ x ∈ q, x ∈ Al ∧ x ≠ 47 ∧ x ≠ 175) : drawnF q = seenP q := by
  unfold drawnF seenP
  congr 1
  exact List.map_congr_left fun x hx => pic_same x (h x hx).1 (h x hx).2.1 (h x hx).2.2
theorem pcsAll_nil {q : List Int} (h : ∀ x ∈ q, x ∈ Al) : pcsAll q = [] ↔ q = [] := by
  cases q with
  | nil => simp [pcsAll]
  | cons c r =>
    rw [pcsAll_cons]
    have := pcs_pos c (h c (by simp))
    constructor
    · intro e; exact absurd (List.append_eq_nil_iff.mp e).1 this
    · intro e; cases e
theorem pcsAll_dot {q : List Int} (h : ∀ x ∈ q, x ∈ Al) : pcsAll q = [46] ↔ q = [46] := by
  constructor
  · intro e
    cases q with
    | nil => simp [pcsAll] at e
    | cons c r =>
      rw [pcsAll_cons] at e
      have hc := pcs_pos c (h c (by simp))
      have hl : (pcs c).length + (pcsAll r).length = 1 := by rw [← List.length_append, e]; rfl
      have h1 : 1 ≤ (pcs c).length := by
        rcases Nat.eq_zero_or_pos (pcs c).length with q | q
        · exact absurd (List.length_eq_zero_iff.mp q) hc
        · exact q
      have hr : pcsAll r = [] := List.length_eq_zero_iff.mp (by lia -abstractProof)
      rw [hr, List.append_nil] at e
      have h46 := pcs_dot c (h c (by simp)) e
      have hrn := (pcsAll_nil fun x hx => h x (List.mem_cons_of_mem _ hx)).mp hr
      rw [h46, hrn]
  · rintro rfl; decide
theorem seen_empty {q : List Int} (h : ∀ x ∈ q, x ∈ Al) : seenP q = Str.empty ↔ q = [] := by
  rw [← pcsAll_nil h, ← seenP_cps]
  constructor
  · intro e; rw [e]; rfl
  · intro e; exact str_cps e
theorem seen_dot {q : List Int} (h : ∀ x ∈ q, x ∈ Al) : seenP q = sDot ↔ q = [46] := by
  rw [← pcsAll_dot h, ← seenP_cps]
  constructor
  · intro e; rw [e]; decide
  · intro e; exact str_cps (by rw [e]; decide)
theorem part_seen (p : List Int) (h : ∀ c ∈ p, c ∈ Al) : partF tkStr (tkStr.split (seenP p)) = textRow p := by
  have hq := pAll_codes true p h
  show ((Txt.split (seenP p) sSep).filter fun c => decide (c ≠ Str.empty) && decide (c ≠ sDot)) = (piecesF true p).map drawnF
  rw [split_seen p h, ← pAll_rec, List.filter_map]
  have e1 : (pAll true p).filter ((fun c => decide (c ≠ Str.empty) && decide (c ≠ sDot)) ∘ seenP) = piecesF true p := by
    unfold piecesF
    refine List.filter_congr fun q hm => ?_
    have ha : ∀ x ∈ q, x ∈ Al := fun x hx => (hq q hm x hx).1
    show (decide (seenP q ≠ Str.empty) && decide (seenP q ≠ sDot)) = _
    simp [seen_empty ha, seen_dot ha]
  rw [e1]
  refine List.map_congr_left fun q hm => ?_
  have hm' := (List.mem_filter.mp hm).1
  exact (drawn_seen q fun x hx => ⟨(hq q hm' x hx).1, (hq q hm' x hx).2.1, (hq q hm' x hx).2.2 rfl⟩).symm

-- octets
noncomputable def u8 (n : Int) : UInt8 := n.toNat.toUInt8
theorem u8_inj : ∀ a ∈ Al, ∀ b ∈ Al, u8 a = u8 b → a = b := by decide
theorem byteArr_list (q : List Int) : (byteArr q).toList = q.map u8 := rfl
theorem byteArr_inj : ∀ {a b : List Int}, (∀ x ∈ a, x ∈ Al) → (∀ x ∈ b, x ∈ Al) → byteArr a = byteArr b → a = b := by
  intro a b ha hb h
  have h' : a.map u8 = b.map u8 := by rw [← byteArr_list, ← byteArr_list, h]
  clear h
  induction a generalizing b with
  | nil => cases b with
    | nil => rfl
    | cons y b => simp at h'
  | cons x a ih => cases b with
    | nil => simp at h'
    | cons y b =>
      simp only [List.map_cons, List.cons.injEq] at h'
      rw [u8_inj x (ha x (by simp)) y (hb y (by simp)) h'.1, ih (fun z hz => ha z (List.mem_cons_of_mem _ hz)) (fun z hz => hb z (List.mem_cons_of_mem _ hz)) h'.2]
theorem split_bytes (p : List Int) (h : ∀ c ∈ p, c ∈ Al) : bSplit (byteArr p) = (pAll false p).map byteArr := by
  have h1 := bSplit_list (byteArr p)
  have e47 : (47 : UInt8) = u8 47 := by decide
  rw [byteArr_list, e47, splitL_map 47 u8 p fun c hc e => u8_inj c (h c hc) 47 (by decide) e, ← pRec_false, ← pAll_rec] at h1
  have inj : ∀ (L M : List (Array UInt8)), L.map (·.toList) = M.map (·.toList) → L = M := by
    intro L
    induction L with
    | nil => intro M h; cases M with
      | nil => rfl
      | cons a r => simp at h
    | cons a r ih => intro M h; cases M with
      | nil => simp at h
      | cons b s =>
        simp only [List.map_cons, List.cons.injEq] at h
        rw [Array.toList_inj.mp h.1, ih s h.2]
  apply inj
  rw [h1, List.map_map]
  rfl
theorem part_bytes (p : List Int) (h : ∀ c ∈ p, c ∈ Al) : partF tkBytes (tkBytes.split (byteArr p)) = (piecesF false p).map byteArr := by
  have hq := pAll_codes false p h
  show ((bSplit (byteArr p)).filter fun c => decide (c ≠ #[]) && decide (c ≠ bDot)) = _
  rw [split_bytes p h, List.filter_map]
  congr 1
  unfold piecesF
  refine List.filter_congr fun q hm => ?_
  have ha : ∀ x ∈ q, x ∈ Al := fun x hx => (hq q hm x hx).1
  show (decide (byteArr q ≠ #[]) && decide (byteArr q ≠ bDot)) = _
  have e1 : byteArr q = #[] ↔ q = [] := ⟨fun e => byteArr_inj ha (by simp) (e.trans (by decide)), fun e => by rw [e]; decide⟩
  have e2 : byteArr q = bDot ↔ q = [46] := ⟨fun e => byteArr_inj ha (by decide) (e.trans (by decide)), fun e => by rw [e]; decide⟩
  simp [e1, e2]

-- roots
theorem starts_seen (p : List Int) (h : ∀ c ∈ p, c ∈ Al) (hp : 2 ≤ p.length) : tkStr.starts (seenP p) = decide (p.getD 0 0 = 47) := by
  cases p with
  | nil => simp at hp
  | cons c r =>
    show Txt.startswith (seenP (c :: r)) sSep = decide (c = 47)
    have h1 := StrLaws.subAt_one (seenP (c :: r)) 47 0
    rw [seenP_cps, pcsAll_cons] at h1
    have hc := pcs_pos c (h c (by simp))
    have h2 := pcs_head c (h c (by simp))
    have h3 : (pcs c ++ pcsAll r)[0]? = (pcs c).head? := by
      cases e : pcs c with
      | nil => exact absurd e hc
      | cons a s => rfl
    rw [h3] at h1
    rw [Bool.eq_iff_iff, decide_eq_true_eq, ← h2, ← h1, sSep_is]
    unfold Txt.startswith
    rw [Bool.and_eq_true, decide_eq_true_eq]
theorem starts_bytes (p : List Int) (h : ∀ c ∈ p, c ∈ Al) (hp : 2 ≤ p.length) : tkBytes.starts (byteArr p) = decide (p.getD 0 0 = 47) := by
  cases p with
  | nil => simp at hp
  | cons c r =>
    show decide ((byteArr (c :: r)).toList.head? = some 47) = decide (c = 47)
    rw [byteArr_list]
    show decide (some (u8 c) = some 47) = _
    rw [Bool.eq_iff_iff, decide_eq_true_eq, decide_eq_true_eq]
    constructor
    · intro e; exact u8_inj c (h c (by simp)) 47 (by decide) ((Option.some.inj e).trans (by decide))
    · rintro rfl; decide
end Mine.Internal
end
section
open PySem PySem.Builtin
set_option maxRecDepth 10000
namespace Mine.Internal
theorem sum_le {β : Type} (f : β → Nat) (B : Nat) : ∀ l : List β, (∀ x ∈ l, f x ≤ B) → (l.map f).sum ≤ l.length * B
  | [], _ => by simp
  | x :: l, h => by
    have := sum_le f B l fun y hy => h y (List.mem_cons_of_mem _ hy)
    have := h x (by simp)
    simp only [List.map_cons, List.sum_cons, List.length_cons, Nat.succ_mul]; lia -abstractProof
theorem pcs_len : ∀ c ∈ Al, (pcs c).length ≤ 3 := by decide
theorem pcsAll_len (p : List Int) (h : ∀ c ∈ p, c ∈ Al) : (pcsAll p).length ≤ 3 * p.length := by
  unfold pcsAll
  rw [List.length_flatten, List.map_map]
  have := sum_le (List.length ∘ pcs) 3 p fun x hx => pcs_len x (h x hx)
  lia -abstractProof
theorem seen_len (p : List Int) (h : ∀ c ∈ p, c ∈ Al) : (seenP p).length ≤ 3 * p.length := by
  have := pcsAll_len p h
  rw [← seenP_cps] at this
  simpa [Str.length] using this
-- the bounds of a path
structure Ok (p : List Int) : Prop where
  al : ∀ c ∈ p, c ∈ Al
  lo : 2 ≤ p.length
  hi : p.length ≤ 31
theorem ok_of (script : List Int) : ∀ p ∈ pathsS script, Ok p := fun p hp => let ⟨a, b, c⟩ := paths_ok script p hp; ⟨a, b, c⟩
theorem pAll_small (seen : Bool) {p : List Int} (o : Ok p) : (pAll seen p).length ≤ 32 ∧ ∀ q ∈ pAll seen p, (∀ x ∈ q, x ∈ Al) ∧ q.length ≤ 31 := by
  refine ⟨?_, fun q hq => ⟨fun x hx => (pAll_codes seen p o.al q hq x hx).1, ?_⟩⟩
  · have := (pFold_len seen p ([], [])).1
    have := o.hi
    unfold pAll pFold
    simp at this ⊢
    have h2 := (pFold_len seen p ([], [])).1
    simp at h2
    lia -abstractProof
  · have := pAll_pieces seen p q hq; have := o.hi; lia -abstractProof
theorem textRow_small {p : List Int} (o : Ok p) : (textRow p).length ≤ 32 ∧ ∀ x ∈ textRow p, x.length ≤ 93 := by
  obtain ⟨h1, h2⟩ := pAll_small true o
  have hf : (piecesF true p).length ≤ (pAll true p).length := List.length_filter_le _ _
  refine ⟨by unfold textRow; simp; lia -abstractProof, fun x hx => ?_⟩
  refine Classical.byContradiction fun zG => ?_
  obtain ⟨q, hq, rfl⟩ := List.mem_map.mp hx
  refine zG ?_
  clear zG
  have hq' := (List.mem_filter.mp hq).1
  have hc := pAll_codes true p o.al q hq'
  rw [drawn_seen q fun x hx => ⟨(hc x hx).1, (hc x hx).2.1, (hc x hx).2.2 rfl⟩]
  have := seen_len q (h2 q hq').1
  have := (h2 q hq').2
  lia -abstractProof
theorem octRow_small {p : List Int} (o : Ok p) : (piecesF false p).length ≤ 32 ∧ ∀ q ∈ piecesF false p, (∀ x ∈ q, x ∈ Al) ∧ q.length ≤ 31 := by
  obtain ⟨h1, h2⟩ := pAll_small false o
  have hf : (piecesF false p).length ≤ (pAll false p).length := List.length_filter_le _ _
  exact ⟨by lia -abstractProof, fun q hq => h2 q (List.mem_filter.mp hq).1⟩

theorem fit_str {p0 : List Int} {ps : List (List Int)} (o : ∀ p ∈ p0 :: ps, Ok p) (hl : ps.length ≤ 100) {k : Nat} (H : Alike (minL tkStr (textRow p0) (ps.map textRow)) (maxL tkStr (textRow p0) (ps.map textRow)) k) : Fit tkStr (seenP p0) (ps.map seenP) k := by
  have e0 := part_seen p0 (o p0 (by simp)).al
  have es : ((ps.map seenP).map fun p => partF tkStr (tkStr.split p)) = ps.map textRow := by
    rw [List.map_map]
    exact List.map_congr_left fun p hp => part_seen p (o p (List.mem_cons_of_mem _ hp)).al
  have hm : minL tkStr (textRow p0) (ps.map textRow) ∈ textRow p0 :: ps.map textRow := (best_is ord_str.lex (ps.map textRow) (textRow p0)).1
  have row : ∀ r ∈ textRow p0 :: ps.map textRow, r.length ≤ 32 ∧ ∀ x ∈ r, x.length ≤ 93 := fun r hr => by
    rcases List.mem_cons.mp hr with rfl | hr
    · exact textRow_small (o p0 (by simp))
    · obtain ⟨p, hp, rfl⟩ := List.mem_map.mp hr
      exact textRow_small (o p (List.mem_cons_of_mem _ hp))
  obtain ⟨r1, r2⟩ := row _ hm
  have sp : ∀ l ∈ splitsF tkStr (seenP p0 :: ps.map seenP), l.length ≤ 32 ∧ ∀ x ∈ l, x.length ≤ 93 := fun l hl => by
    refine Classical.byContradiction fun zG => ?_
    obtain ⟨x, hx, rfl⟩ := List.mem_map.mp hl
    refine zG ?_
    clear zG
    have : ∃ p ∈ p0 :: ps, x = seenP p := by
      rcases List.mem_cons.mp hx with rfl | hx
      · exact ⟨p0, by simp, rfl⟩
      · obtain ⟨p, hp, rfl⟩ := List.mem_map.mp hx
        exact ⟨p, List.mem_cons_of_mem _ hp, rfl⟩
    refine Classical.byContradiction fun zG => ?_
    obtain ⟨p, hp, rfl⟩ := this
    refine zG ?_
    clear zG
    have op := o p hp
    obtain ⟨h1, h2⟩ := pAll_small true op
    show (Txt.split (seenP p) sSep).length ≤ 32 ∧ ∀ x ∈ Txt.split (seenP p) sSep, x.length ≤ 93
    rw [split_seen p op.al, ← pAll_rec]
    refine ⟨by simpa using h1, fun y hy => ?_⟩
    refine Classical.byContradiction fun zG => ?_
    obtain ⟨q, hq, rfl⟩ := List.mem_map.mp hy
    refine zG ?_
    clear zG
    have := seen_len q (h2 q hq).1
    have := (h2 q hq).2
    lia -abstractProof
  have sm : (((minL tkStr (textRow p0) (ps.map textRow)).take k).map Str.length).sum ≤ 32 * 93 := by
    have := sum_le Str.length 93 ((minL tkStr (textRow p0) (ps.map textRow)).take k) fun x hx => r2 x (List.mem_of_mem_take hx)
    have hk : ((minL tkStr (textRow p0) (ps.map textRow)).take k).length ≤ 32 := by simp; lia -abstractProof
    have := Nat.mul_le_mul_right 93 hk
    lia -abstractProof
  have hk : ((minL tkStr (textRow p0) (ps.map textRow)).take k).length ≤ 32 := by simp; lia -abstractProof
  refine ⟨by simp; lia -abstractProof, fun p hp => ?_, fun l hl => by have := (sp l hl).1; lia -abstractProof, fun l hl c hc => by have := (sp l hl).2 c hc; show c.length ≤ 5000; lia -abstractProof, ?_, ?_, ?_, ?_⟩
  · have : ∃ q ∈ p0 :: ps, p = seenP q := by
      rcases List.mem_cons.mp hp with rfl | hx
      · exact ⟨p0, by simp, rfl⟩
      · obtain ⟨q, hq, rfl⟩ := List.mem_map.mp hx
        exact ⟨q, List.mem_cons_of_mem _ hq, rfl⟩
    refine Classical.byContradiction fun zG => ?_
    obtain ⟨q, hq, rfl⟩ := this
    refine zG ?_
    clear zG
    have := seen_len q (o q hq).al
    have := (o q hq).hi
    show (seenP q).length ≤ 5000; lia -abstractProof
  · rw [e0, es]; exact H
  · rw [e0, es]; lia -abstractProof
  · rw [e0, es]
    show (((minL tkStr (textRow p0) (ps.map textRow)).take k).map Str.length).sum + _ ≤ 100000
    lia -abstractProof
  · intro b
    rw [e0, es]
    have h1 : (if b then tkStr.sep else tkStr.emp).length ≤ 1 := by cases b <;> decide
    have h2 : (Str.join sSep ((minL tkStr (textRow p0) (ps.map textRow)).take k)).length ≤ (((minL tkStr (textRow p0) (ps.map textRow)).take k).map Str.length).sum + ((minL tkStr (textRow p0) (ps.map textRow)).take k).length * sSep.length := StrLaws.join_length_le sSep _
    have h3 : (Txt.join sSep ((minL tkStr (textRow p0) (ps.map textRow)).take k)).length ≤ 32 * 93 + 32 := by
      unfold Txt.join
      rw [StrLaws.glued_eq_join]
      have : sSep.length = 1 := by decide
      rw [this] at h2
      lia -abstractProof
    show (if b then tkStr.sep else tkStr.emp).length + (Txt.join sSep ((minL tkStr (textRow p0) (ps.map textRow)).take k)).length ≤ 1000000
    lia -abstractProof

theorem fit_bytes {p0 : List Int} {ps : List (List Int)} (o : ∀ p ∈ p0 :: ps, Ok p) (hl : ps.length ≤ 100) {k : Nat}
    (H : Alike (minL tkBytes ((piecesF false p0).map byteArr) ((ps.map (piecesF false)).map (List.map byteArr))) (maxL tkBytes ((piecesF false p0).map byteArr) ((ps.map (piecesF false)).map (List.map byteArr))) k) : Fit tkBytes (byteArr p0) (ps.map byteArr) k := by
  have e0 := part_bytes p0 (o p0 (by simp)).al
  have es : ((ps.map byteArr).map fun p => partF tkBytes (tkBytes.split p)) = (ps.map (piecesF false)).map (List.map byteArr) := by
    rw [List.map_map, List.map_map]
    exact List.map_congr_left fun p hp => part_bytes p (o p (List.mem_cons_of_mem _ hp)).al
  generalize hR0 : (piecesF false p0).map byteArr = R0 at *
  generalize hRs : (ps.map (piecesF false)).map (List.map byteArr) = Rs at *
  have hm : minL tkBytes R0 Rs ∈ R0 :: Rs := (best_is ord_bytes.lex Rs R0).1
  have small : ∀ p, Ok p → ((piecesF false p).map byteArr).length ≤ 32 ∧ ∀ x ∈ (piecesF false p).map byteArr, x.size ≤ 93 := fun p op => by
    obtain ⟨h1, h2⟩ := octRow_small op
    refine ⟨by simpa using h1, fun x hx => ?_⟩
    refine Classical.byContradiction fun zG => ?_
    obtain ⟨q, hq, rfl⟩ := List.mem_map.mp hx
    refine zG ?_
    clear zG
    have := (h2 q hq).2
    rw [byteArr_size]; lia -abstractProof
  have row : ∀ r ∈ R0 :: Rs, r.length ≤ 32 ∧ ∀ x ∈ r, x.size ≤ 93 := fun r hr => by
    rcases List.mem_cons.mp hr with rfl | hr
    · rw [← hR0]; exact small p0 (o p0 (by simp))
    · rw [← hRs, List.map_map] at hr
      refine Classical.byContradiction fun zG => ?_
      obtain ⟨p, hp, rfl⟩ := List.mem_map.mp hr
      refine zG ?_
      clear zG
      exact small p (o p (List.mem_cons_of_mem _ hp))
  obtain ⟨r1, r2⟩ := row _ hm
  generalize hs1 : minL tkBytes R0 Rs = s1 at *
  have sp : ∀ l ∈ splitsF tkBytes (byteArr p0 :: ps.map byteArr), l.length ≤ 32 ∧ ∀ x ∈ l, x.size ≤ 93 := fun l hl => by
    refine Classical.byContradiction fun zG => ?_
    obtain ⟨x, hx, rfl⟩ := List.mem_map.mp hl
    refine zG ?_
    clear zG
    have : ∃ p ∈ p0 :: ps, x = byteArr p := by
      rcases List.mem_cons.mp hx with rfl | hx
      · exact ⟨p0, by simp, rfl⟩
      · obtain ⟨p, hp, rfl⟩ := List.mem_map.mp hx
        exact ⟨p, List.mem_cons_of_mem _ hp, rfl⟩
    refine Classical.byContradiction fun zG => ?_
    obtain ⟨p, hp, rfl⟩ := this
    refine zG ?_
    clear zG
    have op := o p hp
    obtain ⟨h1, h2⟩ := pAll_small false op
    show (bSplit (byteArr p)).length ≤ 32 ∧ ∀ x ∈ bSplit (byteArr p), x.size ≤ 93
    rw [split_bytes p op.al]
    refine ⟨by simpa using h1, fun y hy => ?_⟩
    refine Classical.byContradiction fun zG => ?_
    obtain ⟨q, hq, rfl⟩ := List.mem_map.mp hy
    refine zG ?_
    clear zG
    have := (h2 q hq).2
    rw [byteArr_size]; lia -abstractProof
  have hk : (s1.take k).length ≤ 32 := by simp; lia -abstractProof
  have sm : ((s1.take k).map Array.size).sum ≤ 32 * 93 := by
    have := sum_le Array.size 93 (s1.take k) fun x hx => r2 x (List.mem_of_mem_take hx)
    have := Nat.mul_le_mul_right 93 hk
    lia -abstractProof
  refine ⟨by simp; lia -abstractProof, fun p hp => ?_, fun l hl => by have := (sp l hl).1; lia -abstractProof, fun l hl c hc => by have := (sp l hl).2 c hc; show c.size ≤ 5000; lia -abstractProof, ?_, ?_, ?_, ?_⟩
  · have : ∃ q ∈ p0 :: ps, p = byteArr q := by
      rcases List.mem_cons.mp hp with rfl | hx
      · exact ⟨p0, by simp, rfl⟩
      · obtain ⟨q, hq, rfl⟩ := List.mem_map.mp hx
        exact ⟨q, List.mem_cons_of_mem _ hq, rfl⟩
    refine Classical.byContradiction fun zG => ?_
    obtain ⟨q, hq, rfl⟩ := this
    refine zG ?_
    clear zG
    have := (o q hq).hi
    show (byteArr q).size ≤ 5000
    rw [byteArr_size]; lia -abstractProof
  · rw [e0, es, hs1]; exact H
  · rw [e0, es, hs1]; lia -abstractProof
  · rw [e0, es, hs1]
    show ((s1.take k).map Array.size).sum + _ ≤ 100000
    lia -abstractProof
  · intro b
    rw [e0, es, hs1]
    have h1 : (if b then tkBytes.sep else tkBytes.emp).size ≤ 1 := by cases b <;> decide
    have h2 : (Bytes.joined bSep (s1.take k)).size ≤ ((s1.take k).map Array.size).sum + (s1.take k).length * bSep.size := joined_size bSep _
    have h3 : bSep.size = 1 := rfl
    rw [h3] at h2
    show (if b then tkBytes.sep else tkBytes.emp).size + (Bytes.joined bSep (s1.take k)).size ≤ 1000000
    lia -abstractProof

theorem rooted_all {paths : List (List Int)} (h : rootN paths = paths.length) : ∀ p ∈ paths, p.getD 0 0 = 47 := by
  unfold rootN at h
  intro p hp
  have := List.length_filter_eq_length_iff.mp h p hp
  exact of_decide_eq_true this
theorem rooted_none {paths : List (List Int)} (h : rootN paths = 0) : ∀ p ∈ paths, ¬ p.getD 0 0 = 47 := by
  unfold rootN at h
  intro p hp e
  have : p ∈ paths.filter fun p => decide (p.getD 0 0 = 47) := List.mem_filter.mpr ⟨hp, decide_eq_true e⟩
  rw [List.length_eq_zero_iff.mp h] at this
  cases this
theorem rootN_le (paths : List (List Int)) : rootN paths ≤ paths.length := List.length_filter_le _ _

theorem plain_mixed (script : List Int) (m : 0 < rootN (pathsS script) ∧ rootN (pathsS script) < (pathsS script).length) : PMixed script := by
  have o := ok_of script
  have yes : ∃ p ∈ pathsS script, p.getD 0 0 = 47 := by
    obtain ⟨p, hp⟩ := List.exists_mem_of_length_pos m.1
    obtain ⟨h1, h2⟩ := List.mem_filter.mp hp
    exact ⟨p, h1, of_decide_eq_true h2⟩
  have no : ∃ p ∈ pathsS script, ¬ p.getD 0 0 = 47 := by
    apply Classical.byContradiction
    intro hn
    have : rootN (pathsS script) = (pathsS script).length := by
      unfold rootN
      rw [List.length_filter_eq_length_iff]
      intro p hp
      apply decide_eq_true
      apply Classical.byContradiction
      intro q; exact hn ⟨p, hp, q⟩
    lia -abstractProof
  refine Classical.byContradiction fun zG => ?_
  obtain ⟨p, hp, hy⟩ := yes
  refine zG ?_
  clear zG
  refine Classical.byContradiction fun zG => ?_
  obtain ⟨q, hq, hn⟩ := no
  refine zG ?_
  clear zG
  refine ⟨m, ?_, ?_, ?_, ?_, ?_, ?_⟩
  · exact List.any_eq_true.mpr ⟨seenP p, List.mem_map.mpr ⟨p, hp, rfl⟩, by rw [starts_seen p (o p hp).al (o p hp).lo]; exact decide_eq_true hy⟩
  · exact List.any_eq_true.mpr ⟨seenP q, List.mem_map.mpr ⟨q, hq, rfl⟩, by rw [starts_seen q (o q hq).al (o q hq).lo, decide_eq_false hn]; rfl⟩
  · exact List.any_eq_true.mpr ⟨byteArr p, List.mem_map.mpr ⟨p, hp, rfl⟩, by rw [starts_bytes p (o p hp).al (o p hp).lo]; exact decide_eq_true hy⟩
  · exact List.any_eq_true.mpr ⟨byteArr q, List.mem_map.mpr ⟨q, hq, rfl⟩, by rw [starts_bytes q (o q hq).al (o q hq).lo, decide_eq_false hn]; rfl⟩
  · intro x hx
    refine Classical.byContradiction fun zG => ?_
    obtain ⟨p, hp, rfl⟩ := List.mem_map.mp hx
    refine zG ?_
    clear zG
    have := seen_len p (o p hp).al
    have := (o p hp).hi
    show (seenP p).length ≤ 5000; lia -abstractProof
  · intro x hx
    refine Classical.byContradiction fun zG => ?_
    obtain ⟨p, hp, rfl⟩ := List.mem_map.mp hx
    refine zG ?_
    clear zG
    have := (o p hp).hi
    show (byteArr p).size ≤ 5000
    rw [byteArr_size]; lia -abstractProof

theorem plain_even (script : List Int) (m : ¬ (0 < rootN (pathsS script) ∧ rootN (pathsS script) < (pathsS script).length)) : ∃ p0 ps root k1 k2 j1 j2, PEven script p0 ps root k1 k2 j1 j2 := by
  have hd : 1 ≤ (pathsS script).length ∧ (pathsS script).length ≤ 6 := by
    have := draws_len script
    unfold pathsS
    rw [List.length_map]
    refine ⟨?_, this⟩
    unfold drawsS; simp
  obtain ⟨p0, ps, hp⟩ : ∃ p0 ps, pathsS script = p0 :: ps := by
    cases e : pathsS script with
    | nil => rw [e] at hd; simp at hd
    | cons a r => exact ⟨a, r, rfl⟩
  have o : ∀ p ∈ p0 :: ps, Ok p := hp ▸ ok_of script
  have hl : ps.length ≤ 100 := by have := congrArg List.length hp; simp at this; lia -abstractProof
  have hroot : ∀ p ∈ p0 :: ps, decide (p.getD 0 0 = 47) = decide (rootN (pathsS script) ≠ 0) := fun p hm => by
    by_cases h0 : rootN (pathsS script) = 0
    · have hn : ¬ (rootN (pathsS script) ≠ 0) := fun q => q h0
      rw [decide_eq_false hn]
      exact decide_eq_false (rooted_none h0 p (hp ▸ hm))
    · have : rootN (pathsS script) = (pathsS script).length := by have := rootN_le (pathsS script); lia -abstractProof
      rw [decide_eq_true h0]
      exact decide_eq_true (rooted_all this p (hp ▸ hm))
  refine Classical.byContradiction fun zG => ?_
  obtain ⟨k1, H1, C1, t1⟩ := common_of tkStr ord_str (textRow p0) (ps.map textRow)
  refine zG ?_
  clear zG
  refine Classical.byContradiction fun zG => ?_
  obtain ⟨k2, H2, C2, t2⟩ := common_of tkBytes ord_bytes ((piecesF false p0).map byteArr) ((ps.map (piecesF false)).map (List.map byteArr))
  refine zG ?_
  clear zG
  have f1 := fit_str o hl H1
  have f2 := fit_bytes o hl H2
  have ra : ∀ r ∈ piecesF false p0 :: ps.map (piecesF false), ∀ x ∈ r, ∀ y ∈ x, y ∈ Al := fun r hr x hx => by
    have : ∃ p ∈ p0 :: ps, r = piecesF false p := by
      rcases List.mem_cons.mp hr with rfl | hr
      · exact ⟨p0, by simp, rfl⟩
      · obtain ⟨p, hp, rfl⟩ := List.mem_map.mp hr
        exact ⟨p, List.mem_cons_of_mem _ hp, rfl⟩
    refine Classical.byContradiction fun zG => ?_
    obtain ⟨p, hp, rfl⟩ := this
    refine zG ?_
    clear zG
    exact ((octRow_small (o p hp)).2 x hx).1
  have C2' : Common (piecesF false p0) (ps.map (piecesF false)) k2 := C2.of_map fun r hr x hx y hy e => byteArr_inj (ra r hr x hx) (ra _ List.mem_cons_self y hy) e
  have row1 : ∀ r ∈ textRow p0 :: ps.map textRow, r.length ≤ 32 ∧ ∀ x ∈ r, x.length ≤ 93 := fun r hr => by
    rcases List.mem_cons.mp hr with rfl | hr
    · exact textRow_small (o p0 (by simp))
    · obtain ⟨p, hp, rfl⟩ := List.mem_map.mp hr
      exact textRow_small (o p (List.mem_cons_of_mem _ hp))
  have row2 : ∀ r ∈ piecesF false p0 :: ps.map (piecesF false), r.length ≤ 32 := fun r hr => by
    rcases List.mem_cons.mp hr with rfl | hr
    · exact (octRow_small (o p0 (by simp))).1
    · obtain ⟨p, hp, rfl⟩ := List.mem_map.mp hr
      exact (octRow_small (o p (List.mem_cons_of_mem _ hp))).1
  obtain ⟨a1, a2⟩ := row1 _ List.mem_cons_self
  obtain ⟨b1, b2⟩ := octRow_small (o p0 (by simp))
  have hk1 : ((textRow p0).take k1).length ≤ 32 := by simp; lia -abstractProof
  have sm1 : (((textRow p0).take k1).map Str.length).sum ≤ 32 * 93 := by
    have := sum_le Str.length 93 ((textRow p0).take k1) fun x hx => a2 x (List.mem_of_mem_take hx)
    have := Nat.mul_le_mul_right 93 hk1
    lia -abstractProof
  have hk2 : (((piecesF false p0).take k2).map byteArr).length ≤ 32 := by simp; lia -abstractProof
  have sm2 : ((((piecesF false p0).take k2).map byteArr).map Array.size).sum ≤ 32 * 93 := by
    have := sum_le Array.size 93 (((piecesF false p0).take k2).map byteArr) fun x hx => by
      refine Classical.byContradiction fun zG => ?_
      obtain ⟨q, hq, rfl⟩ := List.mem_map.mp hx
      refine zG ?_
      clear zG
      have := (b2 q (List.mem_of_mem_take hq)).2
      rw [byteArr_size]; lia -abstractProof
    have := Nat.mul_le_mul_right 93 hk2
    lia -abstractProof
  have h1s : sSep.length = 1 := by decide
  have h1b : bSep.size = 1 := rfl
  have e0 := part_seen p0 (o p0 (by simp)).al
  have es : ((ps.map seenP).map fun p => partF tkStr (tkStr.split p)) = ps.map textRow := by
    rw [List.map_map]
    exact List.map_congr_left fun p hp => part_seen p (o p (List.mem_cons_of_mem _ hp)).al
  have g0 := part_bytes p0 (o p0 (by simp)).al
  have gs : ((ps.map byteArr).map fun p => partF tkBytes (tkBytes.split p)) = (ps.map (piecesF false)).map (List.map byteArr) := by
    rw [List.map_map, List.map_map]
    exact List.map_congr_left fun p hp => part_bytes p (o p (List.mem_cons_of_mem _ hp)).al
  refine ⟨p0, ps, decide (rootN (pathsS script) ≠ 0), k1, k2, k1, k2, ⟨m, hp, f1, ?_, f2, ?_, C1, fun r hr => by have := (row1 r hr).1; lia -abstractProof, by lia -abstractProof, ?_, C2', fun r hr => by have := row2 r hr; lia -abstractProof, ?_, ?_, ?_, ?_, ?_⟩⟩
  · intro x hx
    have : ∃ p ∈ p0 :: ps, x = seenP p := by
      rcases List.mem_cons.mp hx with rfl | hx
      · exact ⟨p0, by simp, rfl⟩
      · obtain ⟨p, hp, rfl⟩ := List.mem_map.mp hx
        exact ⟨p, List.mem_cons_of_mem _ hp, rfl⟩
    refine Classical.byContradiction fun zG => ?_
    obtain ⟨p, hp, rfl⟩ := this
    refine zG ?_
    clear zG
    rw [starts_seen p (o p hp).al (o p hp).lo]; exact hroot p hp
  · intro x hx
    have : ∃ p ∈ p0 :: ps, x = byteArr p := by
      rcases List.mem_cons.mp hx with rfl | hx
      · exact ⟨p0, by simp, rfl⟩
      · obtain ⟨p, hp, rfl⟩ := List.mem_map.mp hx
        exact ⟨p, List.mem_cons_of_mem _ hp, rfl⟩
    refine Classical.byContradiction fun zG => ?_
    obtain ⟨p, hp, rfl⟩ := this
    refine zG ?_
    clear zG
    rw [starts_bytes p (o p hp).al (o p hp).lo]; exact hroot p hp
  · have h2 : (Str.join sSep ((textRow p0).take k1)).length ≤ (((textRow p0).take k1).map Str.length).sum + ((textRow p0).take k1).length * sSep.length := StrLaws.join_length_le sSep _
    unfold Txt.join
    rw [StrLaws.glued_eq_join]
    rw [h1s] at h2
    lia -abstractProof
  · intro q hq
    obtain ⟨c1, c2⟩ := b2 q (List.mem_of_mem_take hq)
    exact ⟨fun n hn => al_byte n (c1 n hn), by lia -abstractProof⟩
  · show ((((piecesF false p0).take k2).map byteArr).map Array.size).sum + _ ≤ _
    rw [h1b]; lia -abstractProof
  · have h2 : (Bytes.joined bSep (((piecesF false p0).take k2).map byteArr)).size ≤ ((((piecesF false p0).take k2).map byteArr).map Array.size).sum + (((piecesF false p0).take k2).map byteArr).length * bSep.size := joined_size bSep _
    rw [h1b] at h2
    lia -abstractProof
  · unfold comF
    rw [e0, es, t1]
    by_cases h0 : rootN (pathsS script) = 0
    · have hn : ¬ (rootN (pathsS script) ≠ 0) := fun q => q h0
      rw [decide_eq_false hn, if_neg hn]; rfl
    · rw [decide_eq_true h0, if_pos h0]; rfl
  · unfold comF
    rw [g0, gs, t2, ← List.map_take]
    by_cases h0 : rootN (pathsS script) = 0
    · have hn : ¬ (rootN (pathsS script) ≠ 0) := fun q => q h0
      rw [decide_eq_false hn, if_neg hn]; rfl
    · rw [decide_eq_true h0, if_pos h0]; rfl

theorem plain_all (script : List Int) : PMixed script ∨ ∃ p0 ps root k1 k2 j1 j2, PEven script p0 ps root k1 k2 j1 j2 := by
  by_cases m : 0 < rootN (pathsS script) ∧ rootN (pathsS script) < (pathsS script).length
  · exact .inl (plain_mixed script m)
  · exact .inr (plain_even script m)
end Mine.Internal
end
open PySem PySem.W PyProof.Rows
set_option maxRecDepth 100000
namespace Mine.Internal
theorem mem_at {α : Type} {l : List α} {x : α} (j : Nat) (h : l[j]? = some x) : x ∈ l := List.mem_of_getElem? h
theorem free_of {p : Program} {loose : List Str} {mean : ExcName → Option Value} {mg mb : Str → Option Value} {h : Heap} (T : Top p loose mean mg mb h)
    (hk : ∀ x ∈ bNames, x ∉ startupNames ∧ x ∉ loose ∧ x ∉ (recsOf p).map (·.name) ∧ x ∉ (litsOf p).map (·.1) ∧ x ∉ (clssOf p loose).map (·.name)) : ∀ x ∈ bNames, mg x = none :=
  fun x hx => let ⟨a, b, c, d, e⟩ := hk x hx; T.free x a b c d e
theorem not_name : ∀ x ∈ bNames, x ≠ "__name__" := by decide +kernel
theorem paired_of {X : List Addr} {h : Heap} {vs : List Value} {ns : List Int} (p : IntsAre vs ns) : Paired (rInt.rd X h) vs ns := by
  induction p with
  | nil => exact .nil
  | cons n t _ ih => exact .cons ⟨t, rfl⟩ ih
end Mine.Internal
set_option maxHeartbeats 8000000 in
theorem PySem.Challenge.cw_pd0006_01_holds : PySem.Challenge.rw_pd0006_01.Holds := by
  w_on; o_law; o_head (Hook.none)
  (case hw => w_witness2)
  intro w s₀ s₁ mg mb G Y fa o pm cd doc dV kV ho hd' hcd hD hmg hg args vals as hpre hlay hrd hwl hlo
  refine Ground.open G ?_
  intro T B D TE TW
  wrow_args hpre hlay hrd hwl hlo
  rename IntsAre _ _ => hI
  rename List Int => ns
  rename Heap.IsList _ _ _ => hL
  have hns : ns.length ≤ 63 := by lia -abstractProof
  have hGl : Mine.Internal.Gl mg mb s₁.heap := by
    refine ⟨T.g, T.b, T.nolimit, fun k hk => ?_, Mine.Internal.free_of T (by decide +kernel), fun x hx => T.builtins x (Mine.Internal.not_name x hx)⟩
    simp only [Mine.Internal.fnIdx, List.mem_cons, List.not_mem_nil, or_false] at hk
    rcases hk with rfl | rfl | rfl | rfl | rfl | rfl | rfl | rfl | rfl | rfl | rfl | rfl
    · exact T.fn _ (Mine.Internal.mem_at 3 (by kernel_rfl))
    · exact T.fn _ (Mine.Internal.mem_at 5 (by kernel_rfl))
    · exact T.fn _ (Mine.Internal.mem_at 6 (by kernel_rfl))
    · exact T.fn _ (Mine.Internal.mem_at 7 (by kernel_rfl))
    · exact T.fn _ (Mine.Internal.mem_at 8 (by kernel_rfl))
    · exact T.fn _ (Mine.Internal.mem_at 9 (by kernel_rfl))
    · exact T.fn _ (Mine.Internal.mem_at 10 (by kernel_rfl))
    · exact T.fn _ (Mine.Internal.mem_at 11 (by kernel_rfl))
    · exact T.fn _ (Mine.Internal.mem_at 12 (by kernel_rfl))
    · exact T.fn _ (Mine.Internal.mem_at 13 (by kernel_rfl))
    · exact T.fn _ (Mine.Internal.mem_at 14 (by kernel_rfl))
    · exact T.fn _ (Mine.Internal.mem_at 15 (by kernel_rfl))
  refine Mine.Internal.law_runs (mg := mg) (mb := mb) hns (Mine.Internal.plain_all ns) hGl hmg ?_ fun s' k => ?_
  · exact ⟨_, _, rfl, List.not_mem_nil, hL, Mine.Internal.paired_of hI⟩
  · obtain ⟨h', t', rfl, hk⟩ := k
    refine ⟨.inl ⟨.bool true, .bool true, [], rfl, ?_, ?_, ?_, ?_⟩, .of_keep hk, rfl, .of_eq hg⟩
    · intro cls; rfl
    · exact .bool true
    · kernel_rfl
    · exact unshared_nil
