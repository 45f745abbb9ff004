import PyProof.Rows.All
import Wide.All
import OpenK.AllK
import Wide.FinOn
import KE.KDictIter
import KE.KDictOf
import KE.KPairComp
import KE.KSortTup
import PySem.Challenge.RW_il0044_01
set_option Elab.async false

-- part Hd
section
open PySem PySem.W PyProof.Rows
set_option maxRecDepth 100000
set_option maxHeartbeats 8000000
namespace Mine
open_top hd for PySem.Challenge.rw_il0044_01
end Mine
end

-- part M1
section
open PySem PySem.W PyProof.Rows PySem.Calls PySem.Spec
set_option maxRecDepth 100000
set_option maxHeartbeats 8000000
namespace Mine

/-- the frames' own objects that run under A -/
def frs (A : Around) : List Addr := (A.frames.getD []).filterMap (·.frame)

/-- all that stood stands; a running frame's object may have got other slots -/
def Ext (A : Around) (h h' : Heap) : Prop :=
  ∀ b o, h.get? b = some o → h'.get? b = some o ∨ (b ∈ frs A ∧ (∃ es n, o.data = .dict es n) ∧ ∃ sl, h'.get? b = some { o with slots := sl })
/-- the same but for one object -/
def ExtB (A : Around) (I : Addr) (h h' : Heap) : Prop :=
  ∀ b o, b ≠ I → h.get? b = some o → h'.get? b = some o ∨ (b ∈ frs A ∧ (∃ es n, o.data = .dict es n) ∧ ∃ sl, h'.get? b = some { o with slots := sl })

section
variable {A : Around} {I : Addr} {h h' h'' : Heap}
theorem Ext.refl (A : Around) (h : Heap) : Ext A h h := fun _ _ e => .inl e
theorem Ext.of (x : ∀ b o, h.get? b = some o → h'.get? b = some o) : Ext A h h' := fun b o e => .inl (x b o e)
theorem ExtB.of (x : ∀ b o, b ≠ I → h.get? b = some o → h'.get? b = some o) : ExtB A I h h' := fun b o n e => .inl (x b o n e)
theorem ExtB.trans (x : ExtB A I h h') (y : ExtB A I h' h'') : ExtB A I h h'' := by
  intro b o hb e
  rcases x b o hb e with e1 | ⟨f1, ⟨es, n, d1⟩, sl, e1⟩
  · exact y b o hb e1
  · rcases y b _ hb e1 with e2 | ⟨f2, _, sl2, e2⟩
    · exact .inr ⟨f1, ⟨es, n, d1⟩, sl, e2⟩
    · exact .inr ⟨f1, ⟨es, n, d1⟩, sl2, e2⟩
theorem Ext.toB (x : Ext A h h') (I : Addr) : ExtB A I h h' := fun b o _ e => x b o e
theorem Ext.trans (x : Ext A h h') (y : Ext A h' h'') : Ext A h h'' := by
  intro b o e
  rcases x b o e with e1 | ⟨f1, ⟨es, n, d1⟩, sl, e1⟩
  · exact y b o e1
  · rcases y b _ e1 with e2 | ⟨f2, _, sl2, e2⟩
    · exact .inr ⟨f1, ⟨es, n, d1⟩, sl, e2⟩
    · exact .inr ⟨f1, ⟨es, n, d1⟩, sl2, e2⟩
theorem Ext.transB (x : Ext A h h') (hI : h.get? I = none) (y : ExtB A I h' h'') : Ext A h h'' := by
  intro b o e
  have hb : b ≠ I := fun q => by rw [q, hI] at e; cases e
  exact (x.toB I).trans y b o hb e
theorem ExtB.nd {b : Addr} {o : Obj} (x : ExtB A I h h') (hb : b ≠ I) (e : h.get? b = some o) (nd : ∀ es n, o.data ≠ .dict es n) : h'.get? b = some o := by
  rcases x b o hb e with e1 | ⟨_, ⟨es, n, d1⟩, _⟩
  · exact e1
  · exact absurd d1 (nd es n)
theorem Ext.nd {b : Addr} {o : Obj} (x : Ext A h h') (e : h.get? b = some o) (nd : ∀ es n, o.data ≠ .dict es n) : h'.get? b = some o := by
  rcases x b o e with e1 | ⟨_, ⟨es, n, d1⟩, _⟩
  · exact e1
  · exact absurd d1 (nd es n)
theorem Ext.off {b : Addr} {o : Obj} (x : Ext A h h') (e : h.get? b = some o) (hf : b ∉ frs A) : h'.get? b = some o := by
  rcases x b o e with e1 | ⟨f1, _⟩
  · exact e1
  · exact absurd f1 hf
theorem ExtB.ns {b : Addr} {m : Str → Option Value} (x : ExtB A I h h') (hb : b ≠ I) (n : h.Ns b m) : h'.Ns b m := by
  obtain ⟨o, es, ep, e, hd, r⟩ := n
  rcases x b o hb e with e1 | ⟨_, _, sl, e1⟩
  · exact ⟨o, es, ep, e1, hd, r⟩
  · exact ⟨_, es, ep, e1, hd, r⟩
theorem Ext.ns {b : Addr} {m : Str → Option Value} (x : Ext A h h') (n : h.Ns b m) : h'.Ns b m := by
  obtain ⟨o, es, ep, e, hd, r⟩ := n
  rcases x b o e with e1 | ⟨_, _, sl, e1⟩
  · exact ⟨o, es, ep, e1, hd, r⟩
  · exact ⟨_, es, ep, e1, hd, r⟩
theorem Ext.cell {b : Addr} {v : Option Value} (x : Ext A h h') (n : h.IsCell b v) : h'.IsCell b v := by
  obtain ⟨o, e, hd⟩ := n
  exact ⟨o, x.nd e (fun es n q => by rw [hd] at q; cases q), hd⟩
theorem ExtB.cell {b : Addr} {v : Option Value} (x : ExtB A I h h') (hb : b ≠ I) (n : h.IsCell b v) : h'.IsCell b v := by
  obtain ⟨o, e, hd⟩ := n
  exact ⟨o, x.nd hb e (fun es n q => by rw [hd] at q; cases q), hd⟩
theorem Ext.none {b : Addr} (x : Ext A h h') (e : h'.get? b = none) : h.get? b = none := by
  cases q : h.get? b with
  | none => rfl
  | some o =>
    rcases x b o q with e1 | ⟨_, _, sl, e1⟩ <;> rw [e1] at e <;> cases e
theorem Ext.size (x : Ext A h h') (b : Addr) {o : Obj} (e : h.get? b = some o) : b < h'.objs.size := by
  rcases x b o e with e1 | ⟨_, _, sl, e1⟩ <;> exact Heap.lt_size e1
end

theorem frs_deeper {A : Around} {env : Env} {L : Addr} (hf : env.frame = some L) {b : Addr} (hb : b ∈ frs (A.deeper env)) : b = L ∨ b ∈ frs A := by
  unfold frs at *
  cases q : A.frames with
  | none =>
    have : (A.deeper env).frames = none := by show A.frames.map _ = _; rw [q]; rfl
    rw [this] at hb
    simp at hb
  | some l =>
    have : (A.deeper env).frames = some (env :: l) := by show A.frames.map _ = _; rw [q]; rfl
    rw [this] at hb
    simp only [Option.getD_some, List.filterMap_cons, hf] at hb ⊢
    rcases List.mem_cons.mp hb with rfl | hb
    · exact .inl rfl
    · exact .inr hb
theorem frs_in1 (A : Around) : frs A.in1 = frs A := rfl

abbrev KIn (w : World) (h : Heap) : Prop := (hd.heap_39 w.params).In h
noncomputable abbrev PG : Program := hd.view_39
noncomputable abbrev LG : List Str := looseW hd.view_39 [Str.ofString "filterfalse", Str.ofString "_initial_missing", Str.ofString "reduce"]

section
variable (w : World) (mean : ExcName → Option Value) (mg mb : Str → Option Value) (bs : Heap)

structure At (A : Around) (h : Heap) : Prop where
  stay : bs.StaysIn h
  kin0 : KIn w bs
  top0 : Top PG LG mean mg mb bs
  hand : A.handled = none
  fr : ∃ env outer, A.frames = some (env :: outer) ∧ ∀ e ∈ env :: outer, e.scope.kind = .function ∧ ∃ L m, e.frame = some L ∧ bs.get? L = none ∧ h.Ns L m
end
section
variable {w : World} {mean : ExcName → Option Value} {mg mb : Str → Option Value} {bs : Heap}
variable {A : Around} {h h' : Heap}

theorem At.off (a : At w mean mg mb bs A h) {b : Addr} (hb : b ∈ frs A) : bs.get? b = none ∧ ∃ m, h.Ns b m := by
  obtain ⟨env, outer, hA, hl⟩ := a.fr
  unfold frs at hb
  rw [hA, Option.getD_some] at hb
  obtain ⟨e, he, hf⟩ := List.mem_filterMap.mp hb
  obtain ⟨_, L, m, hL, h1, h2⟩ := hl e he
  rw [hL] at hf
  cases hf
  exact ⟨h1, m, h2⟩
theorem At.extB {I : Addr} (a : At w mean mg mb bs A h) (x : ExtB A I h h') (hI : h.get? I = none ∨ (bs.get? I = none ∧ I ∉ frs A)) : At w mean mg mb bs A h' := by
  have hI0 : bs.get? I = none := by
    rcases hI with hI | hI
    · cases q : bs.get? I with
      | none => rfl
      | some o => rw [a.stay _ _ q] at hI; cases hI
    · exact hI.1
  have hIf : I ∉ frs A := by
    rcases hI with hI | hI
    · intro q
      obtain ⟨_, m, o, _, _, e, _⟩ := a.off q
      rw [e] at hI; cases hI
    · exact hI.2
  refine ⟨fun b o e => ?_, a.kin0, a.top0, a.hand, ?_⟩
  · have hb : b ≠ I := fun q => by rw [q, hI0] at e; cases e
    rcases x b o hb (a.stay b o e) with e1 | ⟨f1, _⟩
    · exact e1
    · rw [(a.off f1).1] at e; cases e
  · obtain ⟨env, outer, hA, hl⟩ := a.fr
    refine ⟨env, outer, hA, fun e he => ?_⟩
    obtain ⟨hk, L, m, hL, h1, h2⟩ := hl e he
    refine ⟨hk, L, m, hL, h1, x.ns (fun q => hIf ?_) h2⟩
    unfold frs
    rw [hA, Option.getD_some]
    exact q ▸ List.mem_filterMap.mpr ⟨e, he, hL⟩
theorem At.ext (a : At w mean mg mb bs A h) (x : Ext A h h') : At w mean mg mb bs A h' :=
  a.extB (I := h.objs.size) (x.toB _) (.inl (Heap.get?_none_of_le (Nat.le_refl _)))
theorem At.in1 (a : At w mean mg mb bs A h) : At w mean mg mb bs A.in1 h := ⟨a.stay, a.kin0, a.top0, a.hand, a.fr⟩
theorem At.kin (a : At w mean mg mb bs A h) : KIn w h := a.kin0.keeps a.stay
theorem At.top (a : At w mean mg mb bs A h) : Top PG LG mean mg mb h := a.top0.keeps a.stay
theorem At.fresh (a : At w mean mg mb bs A h) {b : Addr} (hb : h.get? b = none) : b ∉ frs A := fun q => by
  obtain ⟨_, m, o, _, _, e, _⟩ := a.off q
  rw [e] at hb; cases hb

/-- a tree that ends, keeps all that stands, and gives what R says -/
def GW {α : Type} (prog : Program) (w : World) (A : Around) (t : Sem α) (s : Shared) (R : α → Heap → Prop) : Prop :=
  ∀ (Q : α → Shared → Prop) (E : Value → Shared → Prop), (∀ v h' tk', Ext A s.heap h' → R v h' → Q v { s with heap := h', toks := tk' }) → wpAny (model prog w) A t Q E s
end

/-- the frame at hand: g what stood at the call -/
structure FS (bs : Heap) (A : Around) (g : Heap) (L : Addr) (scope : Scope) (h : Heap) (m cm : Str → Option Value) : Prop where
  ns : h.Ns L m
  keep : Ext A g h
  above : g.objs.size ≤ L
  low : ∀ b, g.objs.size ≤ b → bs.get? b = none
  cl : Cl L (cellsFrom (L + 1) scope.names []) h cm

section
variable {w : World} {mean : ExcName → Option Value} {mg mb : Str → Option Value} {bs : Heap}
variable {prog : Program} {A : Around} {g h h' : Heap} {L : Addr} {scope : Scope} {m cm : Str → Option Value} {env : Env}

theorem GW.mono {α : Type} {t : Sem α} {s : Shared} {R R' : α → Heap → Prop} (x : GW prog w A t s R) (k : ∀ v h', Ext A s.heap h' → R v h' → R' v h') : GW prog w A t s R' :=
  fun Q E hQ => x Q E fun v h' tk' e r => hQ v h' tk' e (k v h' e r)

theorem FS.ext (x : FS bs A g L scope h m cm) (hf : env.frame = some L) (e : Ext (A.deeper env) h h') : FS bs A g L scope h' m cm := by
  refine ⟨e.ns x.ns, ?_, x.above, x.low, ⟨fun n c q => e.cell (x.cl.cell n c q), x.cl.apart, x.cl.above⟩⟩
  intro b o eb
  have hb : b ≠ L := fun q => Nat.lt_irrefl _ (Nat.lt_of_lt_of_le (q ▸ Heap.lt_size eb) x.above)
  have key : ∀ o', h.get? b = some o' → h'.get? b = some o' ∨ (b ∈ frs A ∧ (∃ es n, o'.data = .dict es n) ∧ ∃ sl, h'.get? b = some { o' with slots := sl }) := fun o' e' => by
    rcases e b o' e' with e1 | ⟨f1, d1, r⟩
    · exact .inl e1
    · rcases frs_deeper hf f1 with q | q
      · exact absurd q hb
      · exact .inr ⟨q, d1, r⟩
  rcases x.keep b o eb with e1 | ⟨f1, ⟨es, n, d1⟩, sl, e1⟩
  · exact key o e1
  · rcases key _ e1 with e2 | ⟨_, _, sl2, e2⟩
    · exact .inr ⟨f1, ⟨es, n, d1⟩, sl, e2⟩
    · exact .inr ⟨f1, ⟨es, n, d1⟩, sl2, e2⟩

theorem enterC {f : Addr} {name qual : Str} {params : Arguments} {body : List Stmt} {dV kV doc pm cdv ct oc : Value} {an od : Option Addr} {osl : Array (Option Value)} {vs : List Value} {binds : List (Str × Value)} {s : Shared}
    {R : Result → Shared → Prop}
    (a : At w mean mg mb bs A s.heap) (hroom : A.depth < recursionLimit) (g : Heap) (hg : Ext A g s.heap) (hgs : g.objs.size = s.heap.objs.size)
    (ho : (hd.heap_39 w.params).lookup f = some ⟨oc, od, .func (fnOf name qual params body scope dV kV doc pm an cdv ct), osl⟩) (hcd : codeIn (hd.heap_39 w.params) cdv qual = true)
    (hbind : BindsTo s (fnOf name qual params body scope dV kV doc pm an cdv ct) ⟨vs, []⟩ binds)
    (hkind : ∀ n, ∀ x ∈ binds, scope.names.lookup x.1 = some .local ∨ (scope.names.lookup x.1 = some .cell ∧ ((cellsFrom n scope.names []).lookup x.1).isSome = true))
    (hco : scope.isCoroutine = false) (hgen : scope.isGenerator = false) (hk : scope.kind = .function)
    (h : ∀ L h₁ tk, L = s.heap.objs.size → (∀ b o, s.heap.get? b = some o → h₁.get? b = some o) → FS bs A g L scope h₁ (bindL (envOfC qual scope L f cdv).kindOf binds fun _ => none) (bindC (envOfC qual scope L f cdv).kindOf binds fun _ => none) →
      At w mean mg mb bs (A.deeper (envOfC qual scope L f cdv)) h₁ →
      wpAny (model prog w) (A.deeper (envOfC qual scope L f cdv)) (execs body (envOfC qual scope L f cdv))
        (fun fl s' => R (.ok (.ret (match fl with | .ret v => v | _ => .none))) s')
        (fun e s' => wpAny (model prog w) (A.deeper (envOfC qual scope L f cdv)) (leaving (envOfC qual scope L f cdv) e) (fun _ s'' => R (.error e) s'') (fun e' s'' => R (.error e') s'') s')
        { s with heap := h₁, toks := tk }) :
    codeAny (model prog w) A (.call (.ref f) ⟨vs, []⟩) R s := by
  have X := a.kin
  have T := a.top
  refine codeAny_call_function hroom (X _ _ ho) rfl hco hgen rfl (codeRec_of X hcd) (hbind _ _ _ _ ?_)
  refine wpAny_newFunctionEnv_cells hk (hkind _) fun env' he s' x => ?_
  subst he
  refine ⟨T.nolimit.keeps x.toInCall.keep, codeAny_func ?_⟩
  obtain ⟨h₁, tk, rfl, _⟩ := x.done
  refine h _ h₁ tk rfl x.toInCall.keep ⟨x.toInCall.ns, hg.trans (Ext.of x.toInCall.keep), hgs ▸ x.toInCall.fresh, (fun b hb => by
      cases q : bs.get? b with
      | none => rfl
      | some o => have := Heap.lt_size (a.stay _ _ q); rw [← hgs] at this; exact absurd hb (Nat.not_le.mpr this)), ⟨x.cell, x.apart, x.above⟩⟩ ⟨fun b o e => x.toInCall.keep _ _ (a.stay b o e), a.kin0, a.top0, a.hand, ?_⟩
  obtain ⟨env, outer, hA, hl⟩ := a.fr
  refine ⟨_, env :: outer, by show A.frames.map _ = _; rw [hA]; rfl, fun e he => ?_⟩
  rcases List.mem_cons.mp he with rfl | he
  · exact ⟨hk, _, _, rfl, Heap.StaysIn.fresh a.stay, x.toInCall.ns⟩
  · obtain ⟨hk', L, m, hL, h1, h2⟩ := hl e he
    exact ⟨hk', L, m, hL, h1, h2.keeps x.toInCall.keep⟩

theorem enterG {f : Addr} {name qual : Str} {params : Arguments} {body : List Stmt} {dV kV doc pm cdv ct oc : Value} {an od : Option Addr} {osl : Array (Option Value)} {vs : List Value} {binds : List (Str × Value)} {s : Shared}
    {Q : Value → Shared → Prop} {E : Value → Shared → Prop}
    (a : At w mean mg mb bs A s.heap) (hroom : A.depth < recursionLimit) (g : Heap) (hg : Ext A g s.heap) (hgs : g.objs.size = s.heap.objs.size)
    (ho : (hd.heap_39 w.params).lookup f = some ⟨oc, od, .func (fnOf name qual params body scope dV kV doc pm an cdv ct), osl⟩) (hcd : codeIn (hd.heap_39 w.params) cdv qual = true)
    (hbind : BindsTo s (fnOf name qual params body scope dV kV doc pm an cdv ct) ⟨vs, []⟩ binds)
    (hkind : ∀ n, ∀ x ∈ binds, scope.names.lookup x.1 = some .local ∨ (scope.names.lookup x.1 = some .cell ∧ ((cellsFrom n scope.names []).lookup x.1).isSome = true))
    (hco : scope.isCoroutine = false) (hgen : scope.isGenerator = false) (hk : scope.kind = .function)
    (h : ∀ L h₁ tk, L = s.heap.objs.size → (∀ b o, s.heap.get? b = some o → h₁.get? b = some o) → FS bs A g L scope h₁ (bindL (envOfC qual scope L f cdv).kindOf binds fun _ => none) (bindC (envOfC qual scope L f cdv).kindOf binds fun _ => none) →
      At w mean mg mb bs (A.deeper (envOfC qual scope L f cdv)) h₁ →
      wpAny (model prog w) (A.deeper (envOfC qual scope L f cdv)) (execs body (envOfC qual scope L f cdv))
        (fun fl s' => Q (match fl with | .ret v => v | _ => .none) s')
        (fun e s' => wpAny (model prog w) (A.deeper (envOfC qual scope L f cdv)) (leaving (envOfC qual scope L f cdv) e) (fun _ s'' => E e s'') (fun e' s'' => E e' s'') s')
        { s with heap := h₁, toks := tk }) :
    wpAny (model prog w) A (call (.ref f) vs) Q E s := by
  exact wpAny_call (enterC a hroom g hg hgs ho hcd hbind hkind hco hgen hk h)

theorem enter {f : Addr} {name qual : Str} {params : Arguments} {body : List Stmt} {dV kV doc pm cdv ct oc : Value} {an od : Option Addr} {osl : Array (Option Value)} {vs : List Value} {binds : List (Str × Value)} {s : Shared}
    {Q : Value → Shared → Prop} {E : Value → Shared → Prop}
    (a : At w mean mg mb bs A s.heap) (hroom : A.depth < recursionLimit)
    (ho : (hd.heap_39 w.params).lookup f = some ⟨oc, od, .func (fnOf name qual params body scope dV kV doc pm an cdv ct), osl⟩) (hcd : codeIn (hd.heap_39 w.params) cdv qual = true)
    (hbind : BindsTo s (fnOf name qual params body scope dV kV doc pm an cdv ct) ⟨vs, []⟩ binds)
    (hkind : ∀ n, ∀ x ∈ binds, scope.names.lookup x.1 = some .local ∨ (scope.names.lookup x.1 = some .cell ∧ ((cellsFrom n scope.names []).lookup x.1).isSome = true))
    (hco : scope.isCoroutine = false) (hgen : scope.isGenerator = false) (hk : scope.kind = .function)
    (h : ∀ L h₁ tk, L = s.heap.objs.size → FS bs A s.heap L scope h₁ (bindL (envOfC qual scope L f cdv).kindOf binds fun _ => none) (bindC (envOfC qual scope L f cdv).kindOf binds fun _ => none) →
      At w mean mg mb bs (A.deeper (envOfC qual scope L f cdv)) h₁ →
      wpAny (model prog w) (A.deeper (envOfC qual scope L f cdv)) (execs body (envOfC qual scope L f cdv))
        (fun fl s' => Q (match fl with | .ret v => v | _ => .none) s')
        (fun e s' => wpAny (model prog w) (A.deeper (envOfC qual scope L f cdv)) (leaving (envOfC qual scope L f cdv) e) (fun _ s'' => E e s'') (fun e' s'' => E e' s'') s')
        { s with heap := h₁, toks := tk }) :
    wpAny (model prog w) A (call (.ref f) vs) Q E s :=
  enterG a hroom s.heap (Ext.refl _ _) rfl ho hcd hbind hkind hco hgen hk fun L h₁ tk e _ F X => h L h₁ tk e F X
end
end Mine
end

-- part M2
section
open PySem PySem.W PyProof.Rows PySem.Calls PySem.Spec
set_option maxRecDepth 100000
set_option maxHeartbeats 8000000
namespace Mine

inductive Al {α β : Type} (R : α → β → Prop) : List α → List β → Prop
  | nil : Al R [] []
  | cons {a : α} {b : β} {l : List α} {k : List β} : R a b → Al R l k → Al R (a :: l) (b :: k)
theorem Al.mono {α β : Type} {R R' : α → β → Prop} {l : List α} {k : List β} (x : Al R l k) (f : ∀ a b, R a b → R' a b) : Al R' l k := by
  induction x with
  | nil => exact .nil
  | cons h _ ih => exact .cons (f _ _ h) ih
theorem Al.append {α β : Type} {R : α → β → Prop} {l l' : List α} {k k' : List β} (x : Al R l k) (y : Al R l' k') : Al R (l ++ l') (k ++ k') := by
  induction x with
  | nil => exact y
  | cons h _ ih => exact .cons h ih
theorem Al.snoc {α β : Type} {R : α → β → Prop} {l : List α} {k : List β} {a : α} {b : β} (x : Al R l k) (h : R a b) : Al R (l ++ [a]) (k ++ [b]) := x.append (.cons h .nil)
theorem Al.length {α β : Type} {R : α → β → Prop} {l : List α} {k : List β} (x : Al R l k) : l.length = k.length := by
  induction x with
  | nil => rfl
  | cons _ _ ih => simp [ih]

def IsSq (o : Obj) : Prop := ∃ xs n, o.data = .seq xs n
def SqBut (D : Addr) (h h' : Heap) : Prop := ∀ b o, b ≠ D → IsSq o → h.get? b = some o → h'.get? b = some o
def LstAt (h : Heap) (D : Addr) (ys : List Value) : Prop := ∃ k, h.get? D = some (listOf ys.toArray k)
theorem LstAt.keeps {h h' : Heap} {D : Addr} {ys : List Value} (x : LstAt h D ys) (k : ∀ o, h.get? D = some o → h'.get? D = some o) : LstAt h' D ys := let ⟨n, e⟩ := x; ⟨n, k _ e⟩

section
variable {prog : Program} {w : World} {A : Around} {E : Value → Shared → Prop} {R : Result → Shared → Prop} {s : Shared}

theorem compLoop_gen {elt target iter : Expr} {ifs : List Expr} {scope : Scope} {pos : Pos} {it acc : Value} {env : Env} (I : Nat → Shared → Prop)
    (turn : ∀ n s, I n s → wpAny (model prog w) A (pyNext it) (fun r s₁ => match r with
      | none => R (.ok .next) s₁
      | some v => wpAny (model prog w) A (letOwnedTupleGo target it v) (fun _ s₁' => wpAny (model prog w) A (assign target env v) (fun _ s₂ =>
          wpAny (model prog w) A (forIn ifs true fun c r => if r = true then do let ok ← isTrue c env (eval c env); pure (ForInStep.yield ok) else pure (ForInStep.yield r)) (fun ok s₃ =>
            if ok = true then wpAny (model prog w) A (eval elt env) (fun x s₄ =>
              wpAny (model prog w) A (call (.builtin "list.append") [acc, x]) (fun _ s₅ => ∃ m, m < n ∧ I m s₅) (notedBy (model prog w) A env fun e s' => R (.error e) s') s₄) (notedBy (model prog w) A env fun e s' => R (.error e) s') s₃
            else ∃ m, m < n ∧ I m s₃) (notedBy (model prog w) A env fun e s' => R (.error e) s') s₂) (notedBy (model prog w) A env fun e s' => R (.error e) s') s₁') (notedBy (model prog w) A env fun e s' => R (.error e) s') s₁) (notedBy (model prog w) A env fun e s' => R (.error e) s') s)
    (n : Nat) (h : I n s) : codeAny (model prog w) A (.compLoop (.ListComp elt [⟨target, iter, ifs, 0⟩] scope pos) 0 it acc env) R s := by
  refine codeAny_loop rfl I (fun n s hI => ?_) n h
  show wpAny _ A ((compTurn (.ListComp elt [⟨target, iter, ifs, 0⟩] scope pos) 0 it acc env).onRaise (fun x => do noteFrame x env; theTreesLotGoes x)) _ _ s
  refine wpAny_noted ?_
  rw [compTurn_list]
  refine wpAny_bind (wpAny_standAt (wpAny_bind (wpAny_mono (turn n s hI) (fun r s₁ h₁ => ?_) fun _ _ h' => h')))
  cases r with
  | none => exact wpAny_pure h₁
  | some v =>
    refine wpAny_bind (wpAny_mono h₁ (fun _ s₁' h₁' => ?_) fun _ _ h' => h')
    refine wpAny_bind (wpAny_mono h₁' (fun _ s₂ h₂ => wpAny_bind (wpAny_mono h₂ (fun ok s₃ h₃ => ?_) fun _ _ h' => h')) fun _ _ h' => h')
    cases ok with
    | false => exact wpAny_pure ⟨rfl, h₃⟩
    | true =>
      exact wpAny_bind (wpAny_bind (wpAny_mono h₃ (fun x s₄ h₄ => wpAny_bind (wpAny_mono h₄ (fun _ s₅ h₅ => wpAny_pure (wpAny_pure ⟨rfl, h₅⟩)) fun _ _ h' => h')) fun _ _ h' => h'))
end

theorem ns_not_sq {h : Heap} {C : Addr} {m : Str → Option Value} {o : Obj} (x : h.Ns C m) (e : h.get? C = some o) : ¬ IsSq o := by
  rintro ⟨xs, n, hd⟩
  obtain ⟨o', es, ep, e', hd', _⟩ := x
  rw [e] at e'
  cases e'
  rw [hd] at hd'
  cases hd'
theorem al_range {β : Type} {R R' : Nat → β → Prop} {p : Nat → Bool} {i : Nat} {ys : List β} (x : Al R ((List.range i).filter p) ys) (f : ∀ j y, j < i → R j y → R' j y) : Al R' ((List.range i).filter p) ys := by
  have : ∀ {l : List Nat} {ys : List β}, Al R l ys → (∀ j ∈ l, j < i) → Al R' l ys := by
    intro l ys x
    induction x with
    | nil => exact fun _ => .nil
    | cons h _ ih => exact fun hl => .cons (f _ _ (hl _ (.head _)) h) (ih fun j hj => hl j (.tail _ hj))
  exact this x fun j hj => List.mem_range.mp (List.mem_filter.mp hj).1

abbrev testsOf (ifs : List Expr) (env : Env) : Sem Bool :=
  forIn ifs true fun c r => if r = true then do let ok ← isTrue c env (eval c env); pure (ForInStep.yield ok) else pure (ForInStep.yield r)

section
variable {prog : Program} {w : World} {A : Around} {E : Value → Shared → Prop}

theorem fields_not_sq {o : Obj} (x : ∃ vs, o.data = .fields vs) : ¬ IsSq o := by
  rintro ⟨xs, n, hd⟩
  obtain ⟨vs, hd'⟩ := x
  rw [hd] at hd'
  cases hd'
theorem fields_nd {o : Obj} (x : ∃ vs, o.data = .fields vs) : ∀ es n, o.data ≠ .dict es n := by
  rintro es n hd
  obtain ⟨vs, hd'⟩ := x
  rw [hd] at hd'
  cases hd'
theorem sq_nd {o : Obj} (x : IsSq o) : ∀ es n, o.data ≠ .dict es n := by
  rintro es n hd
  obtain ⟨xs, k, hd'⟩ := x
  rw [hd] at hd'
  cases hd'
theorem LstAt.ext {A : Around} {h h' : Heap} {D : Addr} {ys : List Value} (x : LstAt h D ys) (e : Ext A h h') : LstAt h' D ys := let ⟨n, q⟩ := x; ⟨n, e.nd q (sq_nd ⟨_, _, rfl⟩)⟩
theorem Ext.sqBut {A : Around} {D : Addr} {h h' : Heap} (e : Ext A h h') : SqBut D h h' := fun _ _ _ ho q => e.nd q (sq_nd ho)

structure CompSrc9 (prog : Program) (w : World) (A : Around) (scope : Scope) (cl : List (Str × Addr)) (env : Env) (target : Expr) (s : Shared) (I : Addr) (n : Nat) (St : Nat → Heap → Prop) (BF : Nat → (Str → Option Value) → Prop) : Prop where
  hI : I < s.heap.objs.size
  hIf : ∀ i h o, St i h → h.get? I = some o → ∃ vs, o.data = .fields vs
  hst : St 0 s.heap
  hframe : ∀ i h h', St i h → ExtB A I s.heap h → (∀ o, h.get? I = some o → h'.get? I = some o) → ExtB A I s.heap h' → St i h'
  hself : ∀ h tk (Q : Value → Shared → Prop) (E : Value → Shared → Prop), St 0 h → Q (.ref I) { s with heap := h, toks := tk } → wpAny (model prog w) A (pyIter (.ref I)) Q E { s with heap := h, toks := tk }
  hdone : ∀ h tk (Q : Option Value → Shared → Prop) (E : Value → Shared → Prop), St n h → (∀ h' tk', (∀ b o, b ≠ I → h.get? b = some o → h'.get? b = some o) → Q none { s with heap := h', toks := tk' }) → wpAny (model prog w) A (pyNext (.ref I)) Q E { s with heap := h, toks := tk }
  hturn : ∀ i C h tk m' (Q : Shared → Prop) (E : Value → Shared → Prop), i < n → St i h → h.Ns C m' → s.heap.get? C = none → C ≠ I → ExtB A I s.heap h →
    (∀ h' tk' m'', St (i + 1) h' → h'.Ns C m'' → BF i m'' → (∀ b o, b ≠ I → b ≠ C → h.get? b = some o → h'.get? b = some o) → Q { s with heap := h', toks := tk' }) →
    wpAny (model prog w) A (pyNext (.ref I)) (fun r s₁ => ∃ v, r = some v ∧ wpAny (model prog w) A (letOwnedTupleGo target (.ref I) v) (fun _ s₂ => wpAny (model prog w) A (assign target (compEnvC scope cl C env) v) (fun _ s₃ => Q s₃) E s₂) E s₁) E { s with heap := h, toks := tk }

theorem lc_core {elt iter target : Expr} {ifs : List Expr} {scope : Scope} {cl : List (Str × Addr)} {pos : Pos} {env : Env} {s : Shared} {I : Addr} {n : Nat} {St : Nat → Heap → Prop} {BF : Nat → (Str → Option Value) → Prop}
    {p : Nat → Bool} {R : Nat → Value → Addr → Heap → Prop} {RR : Value → Addr → Result → Shared → Prop}
    (hsz : n ≤ sizeLine) (hcell : ∀ y ∈ scope.names, y.2 ≠ .cell) (hkind : scope.kind = .function)
    (S : CompSrc9 prog w A scope cl env target s I n St BF)
    (htest : ∀ i C h tk m'', i < n → h.Ns C m'' → BF i m'' → ExtB A I s.heap h → s.heap.get? C = none → GW prog w A (testsOf ifs (compEnvC scope cl C env)) { s with heap := h, toks := tk } (fun ok _ => ok = p i))
    (helt : ∀ i C D h tk m'', i < n → p i = true → h.Ns C m'' → BF i m'' → ExtB A I s.heap h → s.heap.get? C = none → s.heap.get? D = none → (∃ ys, LstAt h D ys) →
      GW prog w A (eval elt (compEnvC scope cl C env)) { s with heap := h, toks := tk } (fun y h' => R i y D h'))
    (hR : ∀ i y D h h', i < n → (∃ ys, LstAt h D ys) → SqBut D h h' → R i y D h → R i y D h')
    (hRR : ∀ D C h tk m' ys, D ≠ C → s.heap.get? D = none → s.heap.get? C = none → h.Ns C m' → LstAt h D ys → ExtB A I s.heap h → Al (fun i y => R i y D h) ((List.range n).filter p) ys →
      RR (.ref D) C (.ok .next) { s with heap := h, toks := tk }) :
    wpAny (model prog w) A (newList []) (fun acc s₃ => wpAny (model prog w) A (newFunctionEnv scope env.globals cl [] env.qual none .none (some env)) (fun cenv s₄ =>
      codeAny (model prog w) A (.compStart (.ListComp elt [⟨target, iter, ifs, 0⟩] scope pos) 0 (.ref I) acc { cenv with scope := relabel scope env }) (RR acc cenv.locals) s₄) E s₃) E s := by
  refine wpAny_newObj_type (wpAny_newFunctionEnv hcell (by intro y hy; simp at hy) (fun h₁ hns₁ hsb₁ => ?_) hkind)
  dsimp only at hns₁ hsb₁ ⊢
  generalize hH2 : s.heap.push { cls := .type "list", dict := none, data := .seq ([] : List Value).toArray } = H2 at hns₁ hsb₁ ⊢
  have hC : H2.objs.size = s.heap.objs.size + 1 := by rw [← hH2, Heap.size_push]
  generalize hDg : s.heap.objs.size = D at *
  generalize hCg : H2.objs.size = C at *
  have hDC : D ≠ C := by rw [hC]; exact Nat.ne_of_lt (Nat.lt_succ_self _)
  have hID : I < D := hDg ▸ S.hI
  have hIC : I ≠ C := by rw [hC]; exact Nat.ne_of_lt (Nat.lt_succ_of_lt hID)
  have hID' : I ≠ D := Nat.ne_of_lt hID
  have below : ∀ b o, s.heap.get? b = some o → b ≠ C ∧ b ≠ D := fun b o e => by
    have hb : b < D := hDg ▸ Heap.lt_size e
    exact ⟨by rw [hC]; exact Nat.ne_of_lt (Nat.lt_succ_of_lt hb), Nat.ne_of_lt hb⟩
  have old : ∀ b o, s.heap.get? b = some o → h₁.get? b = some o := fun b o e => hsb₁.extBut b o (below b o e).1 (Heap.get?_push_of_some _ (hH2 ▸ Heap.get?_push_of_some _ e))
  have hacc : LstAt h₁ D [] := ⟨0, hsb₁.extBut _ _ hDC (Heap.get?_push_of_some _ (by rw [← hH2, ← hDg]; exact Heap.get?_push_size _ rfl))⟩
  have fresh : ∀ a, D ≤ a → s.heap.get? a = none := fun a ha => Heap.get?_none_of_le (by rw [hDg]; exact ha)
  have hD₀ : s.heap.get? D = none := fresh D (Nat.le_refl _)
  have hC₀ : s.heap.get? C = none := fresh C (by rw [hC]; exact Nat.le_succ _)
  have hst₁ : St 0 h₁ := S.hframe 0 _ _ S.hst ((Ext.refl _ _).toB _) (fun o e => old _ _ e) (ExtB.of fun b o _ e => old b o e)
  have loop : ∀ s₃ : Shared, s₃ = { s with heap := h₁, toks := s.toks + ([] : List (Str × Value)).length } →
      codeAny (model prog w) A (.compLoop (.ListComp elt [⟨target, iter, ifs, 0⟩] scope pos) 0 (.ref I) (.ref D) (compEnvC scope cl C env)) (RR (.ref D) C) s₃ := by
    rintro s₃ rfl
    refine compLoop_gen
      (fun k s' => ∃ h' tk i ys m', s' = { s with heap := h', toks := tk } ∧ i ≤ n ∧ k = n + 1 - i ∧ ys.length ≤ i ∧ St i h' ∧ h'.Ns C m' ∧ LstAt h' D ys ∧ ExtB A I s.heap h' ∧ Al (fun i y => R i y D h') ((List.range i).filter p) ys) ?_ (n + 1)
      ⟨h₁, _, 0, [], _, rfl, Nat.zero_le _, rfl, Nat.le_refl _, hst₁, hns₁, hacc, ExtB.of fun b o _ e => old b o e, .nil⟩
    rintro k s' ⟨h', tk, i, ys, m', rfl, hi, rfl, hyl, hst', hn', hL', hb', hA'⟩
    by_cases hlt : i < n
    · refine wpAny_mono (S.hturn i C h' tk m' (fun s₃ => wpAny (model prog w) A (testsOf ifs (compEnvC scope cl C env)) (fun ok s₃ =>
            if ok = true then wpAny (model prog w) A (eval elt (compEnvC scope cl C env)) (fun x s₄ =>
              wpAny (model prog w) A (call (.builtin "list.append") [.ref D, x]) (fun _ s₅ => ∃ m, m < n + 1 - i ∧ ∃ h' tk i ys m', s₅ = { s with heap := h', toks := tk } ∧ i ≤ n ∧ m = n + 1 - i ∧ ys.length ≤ i ∧ St i h' ∧ h'.Ns C m' ∧ LstAt h' D ys ∧ ExtB A I s.heap h' ∧ Al (fun i y => R i y D h') ((List.range i).filter p) ys) (notedBy (model prog w) A (compEnvC scope cl C env) fun e s' => RR (.ref D) C (.error e) s') s₄) (notedBy (model prog w) A (compEnvC scope cl C env) fun e s' => RR (.ref D) C (.error e) s') s₃
            else ∃ m, m < n + 1 - i ∧ ∃ h' tk i ys m', s₃ = { s with heap := h', toks := tk } ∧ i ≤ n ∧ m = n + 1 - i ∧ ys.length ≤ i ∧ St i h' ∧ h'.Ns C m' ∧ LstAt h' D ys ∧ ExtB A I s.heap h' ∧ Al (fun i y => R i y D h') ((List.range i).filter p) ys) (notedBy (model prog w) A (compEnvC scope cl C env) fun e s' => RR (.ref D) C (.error e) s') s₃)
          (notedBy (model prog w) A (compEnvC scope cl C env) fun e s' => RR (.ref D) C (.error e) s') hlt hst' hn' hC₀ (Ne.symm hIC) hb' ?_) ?_ fun _ _ e => e
      · intro h₂ tk₂ m₂ hst₂ hn₂ hBF hk₂
        have hb₂ : ExtB A I s.heap h₂ := fun b o hb e => by
          rcases hb' b o hb e with e1 | ⟨f1, d1, sl, e1⟩
          · exact .inl (hk₂ b o hb (below b o e).1 e1)
          · exact .inr ⟨f1, d1, sl, hk₂ b _ hb (below b o e).1 e1⟩
        have hL₂ : LstAt h₂ D ys := hL'.keeps fun o e => hk₂ D o (Ne.symm hID') hDC e
        have sq₂ : SqBut D h' h₂ := fun b o hbD ho e => by
          refine hk₂ b o (fun q => ?_) (fun q => ?_) e
          · rw [q] at e; exact fields_not_sq (S.hIf _ _ _ hst' e) ho
          · rw [q] at e; exact ns_not_sq hn' e ho
        have hA₂ : Al (fun i y => R i y D h₂) ((List.range i).filter p) ys := al_range hA' fun j y hj x => hR j y D h' h₂ (Nat.lt_trans hj hlt) ⟨ys, hL'⟩ sq₂ x
        refine htest i C h₂ tk₂ m₂ hlt hn₂ hBF hb₂ hC₀ _ _ fun ok h₃ tk₃ hx₃ hok => ?_
        subst hok
        have hb₃ : ExtB A I s.heap h₃ := hb₂.trans (Ext.toB hx₃ I)
        have hn₃ := Ext.ns hx₃ hn₂
        have hst₃ : St (i + 1) h₃ := S.hframe _ _ _ hst₂ hb₂ (fun o e => Ext.nd hx₃ e (fields_nd (S.hIf _ _ _ hst₂ e))) hb₃
        have sq₃ : SqBut D h₂ h₃ := Ext.sqBut hx₃
        have hA₃ : Al (fun i y => R i y D h₃) ((List.range i).filter p) ys := al_range hA₂ fun j y hj x => hR j y D h₂ h₃ (Nat.lt_trans hj hlt) ⟨ys, hL₂⟩ sq₃ x
        have hL₃ : LstAt h₃ D ys := hL₂.ext hx₃
        cases hp : p i with
        | false =>
          simp only [Bool.false_eq_true, if_false]
          refine ⟨n + 1 - (i + 1), by omega, h₃, tk₃, i + 1, ys, m₂, rfl, hlt, rfl, Nat.le_succ_of_le hyl, hst₃, hn₃, hL₃, hb₃, ?_⟩
          rw [List.range_succ, List.filter_append]
          simpa [hp] using hA₃
        | true =>
          simp only [if_true]
          refine helt i C D h₃ tk₃ m₂ hlt hp hn₃ hBF hb₃ hC₀ hD₀ ⟨ys, hL₃⟩ _ _ fun y h₄ tk₄ hx₄ hy => ?_
          have hb₄ : ExtB A I s.heap h₄ := hb₃.trans (Ext.toB hx₄ I)
          have sq₄ : SqBut D h₃ h₄ := Ext.sqBut hx₄
          have hA₄ : Al (fun i y => R i y D h₄) ((List.range i).filter p) ys := al_range hA₃ fun j y hj x => hR j y D h₃ h₄ (Nat.lt_trans hj hlt) ⟨ys, hL₃⟩ sq₄ x
          have hst₄ : St (i + 1) h₄ := S.hframe _ _ _ hst₃ hb₃ (fun o e => Ext.nd hx₄ e (fields_nd (S.hIf _ _ _ hst₃ e))) hb₄
          obtain ⟨k, hk⟩ := hL₃.ext hx₄
          refine append_at (hsz := by rw [List.size_toArray]; exact Nat.le_trans (Nat.le_trans hyl hi) hsz) hk fun h₅ hs₅ hD₅ => ?_
          have hb₅ : ExtB A I s.heap h₅ := fun b o hb e => by
            rcases hb₄ b o hb e with e1 | ⟨f1, d1, sl, e1⟩
            · exact .inl (hs₅.extBut b o (below b o e).2 e1)
            · exact .inr ⟨f1, d1, sl, hs₅.extBut b _ (below b o e).2 e1⟩
          have sq₅ : SqBut D h₄ h₅ := fun b o hb _ e => hs₅.extBut b o hb e
          refine ⟨n + 1 - (i + 1), by omega, h₅, tk₄, i + 1, ys ++ [y], m₂, rfl, hlt, rfl, by rw [List.length_append, List.length_singleton]; exact Nat.succ_le_succ hyl, ?_, ?_, ?_, hb₅, ?_⟩
          · exact S.hframe _ _ _ hst₄ hb₄ (fun o e => hs₅.extBut _ _ hID' e) hb₅
          · exact (Ext.ns hx₄ hn₃).sameBut hs₅ (Ne.symm hDC)
          · exact ⟨k + 1, by rw [hD₅]; simp [W.listOf]⟩
          · rw [List.range_succ, List.filter_append]
            simp only [List.filter_cons, hp, if_true, List.filter_nil]
            exact (al_range hA₄ fun j y hj x => hR j y D h₄ h₅ (Nat.lt_trans hj hlt) ⟨ys, k, hk⟩ sq₅ x).snoc (hR i y D h₄ h₅ hlt ⟨ys, k, hk⟩ sq₅ hy)
      · rintro r s₁ ⟨v, rfl, hv⟩
        exact hv
    · obtain rfl : i = n := Nat.le_antisymm hi (Nat.not_lt.mp hlt)
      refine S.hdone h' tk _ _ hst' fun h₂ tk₂ hk₂ => ?_
      have sq₂ : SqBut D h' h₂ := fun b o hbD ho e => hk₂ b o (fun q => by rw [q] at e; exact fields_not_sq (S.hIf _ _ _ hst' e) ho) e
      exact hRR D C h₂ tk₂ m' ys hDC hD₀ hC₀ (hn'.at fun o e => hk₂ _ _ (Ne.symm hIC) e) (hL'.keeps fun o e => hk₂ _ _ (Ne.symm hID') e) (hb'.trans (ExtB.of hk₂))
        (al_range hA' fun j y hj x => hR j y D h' h₂ hj ⟨ys, hL'⟩ sq₂ x)
  exact codeAny_compStart_list (loop _ rfl) (S.hself _ _ _ _ hst₁ (loop _ rfl))
end
end Mine
end

-- part M3
section
open PySem PySem.W PyProof.Rows PySem.Calls PySem.Spec
set_option maxRecDepth 100000
set_option maxHeartbeats 8000000
namespace Mine
section
variable {prog : Program} {w : World} {mean : ExcName → Option Value} {mg mb : Str → Option Value} {bs : Heap}
variable {A : Around} {env : Env} {E : Value → Shared → Prop} {s : Shared} {x : Str} {pos : Pos} {v : Value} {Q : Value → Shared → Prop}

theorem nmG (a : At w mean mg mb bs A s.heap) (e : nsIn (hd.heap_39 w.params) mainGlobals x = some (some v)) (h : Q v s)
    (hg : env.globals = mainGlobals := by rfl) (hk : env.scope.kind = .function := by rfl) (hx : env.kindOf x = some .globalImplicit := by rfl) (hd : (x == ("__debug__" : Str)) = false := by decide) :
    wpAny (model prog w) A (eval (.Name x pos) env) Q E s :=
  Name_function_global hk hx (loadGlobal_global (by rw [hg]; exact a.top.g) (mg_of a.kin a.top.g e) h) hd
theorem nmB (a : At w mean mg mb bs A s.heap) (e : nsIn (hd.heap_39 w.params) mainGlobals x = some none) (hv : bootBuiltins x = some v) (hn : x ≠ "__name__") (h : Q v s)
    (hg : env.globals = mainGlobals := by rfl) (hb : env.builtins = builtinsNs := by rfl) (hk : env.scope.kind = .function := by rfl) (hx : env.kindOf x = some .globalImplicit := by rfl) (hd : (x == ("__debug__" : Str)) = false := by decide) :
    wpAny (model prog w) A (eval (.Name x pos) env) Q E s :=
  Name_function_global hk hx (loadGlobal_builtin (by rw [hg]; exact a.top.g) (mg_none_of a.kin a.top.g e) (by rw [hb]; exact a.top.b) ((a.top.builtins x hn).trans hv) h) hd
theorem nmL {m : Str → Option Value} (F : s.heap.Ns env.locals m) (hv : m x = some v) (h : Q v s)
    (hk : env.scope.kind = .function := by rfl) (hx : env.kindOf x = some .local := by rfl) (hd : (x == ("__debug__" : Str)) = false := by decide) :
    wpAny (model prog w) A (eval (.Name x pos) env) Q E s := wpAny_Name (wpAny_loadName_local hk hx F hv h) hd
theorem nmC {c : Addr} (hc : env.cells.lookup x = some c) (hv : s.heap.IsCell c (some v)) (h : Q v s)
    (hk : env.scope.kind = .function := by rfl) (hx : env.kindOf x = some .cell := by rfl) (hd : (x == ("__debug__" : Str)) = false := by decide) :
    wpAny (model prog w) A (eval (.Name x pos) env) Q E s := wpAny_Name (wpAny_loadName_cell hk hx hc hv h) hd
end

section
variable {prog : Program} {w : World} {A : Around} {E : Value → Shared → Prop} {s : Shared} {env : Env} {scope : Scope} {cl : List (Str × Addr)}

theorem src_walks {x : Str} {px : Pos} {I : Addr} {fp : List Addr} {n : Nat} {P : Nat → Value → Prop} {St : Nat → Heap → Prop} (W : Walks prog w A I fp [I] n P St)
    (hfp : ∀ b ∈ fp, b = I ∨ ∃ o, s.heap.get? b = some o ∧ IsSq o) (hI : I < s.heap.objs.size) (hst : St 0 s.heap) (hIf : ∀ i h o, St i h → h.get? I = some o → ∃ vs, o.data = .fields vs)
    (hx : scope.names.lookup x = some .local) (hkind : scope.kind = .function) :
    CompSrc9 prog w A scope cl env (.Name x px) s I n St (fun i m => ∃ v, P i v ∧ m x = some v) where
  hI := hI
  hIf := hIf
  hst := hst
  hframe := fun i h h' st hb hi hb' => W.frame i h h' st fun b hm o e => by
    rcases hfp b hm with rfl | ⟨o', e', hsq⟩
    · exact hi o e
    · by_cases q : b = I
      · rw [q] at e ⊢; exact hi o e
      · have := hb.nd q e' (sq_nd hsq)
        rw [e] at this
        cases this
        exact hb'.nd q e' (sq_nd hsq)
  hself := fun h tk Q E st hQ => W.self 0 _ _ _ st hQ
  hdone := fun h tk Q E st hQ => W.done _ _ _ st fun h' tk' hk => hQ h' tk' fun b o hb e => hk b o (by simpa using hb) e
  hturn := fun i C h tk m' Q E hi st hn hC hCI hb hQ => by
    refine W.item i _ _ _ hi st fun v h' tk' hP hst' hk => ⟨v, rfl, ?_⟩
    refine wpAny_of_eq (show letOwnedTupleGo (.Name x px) (.ref I) v = pure () from rfl) ?_
    refine wpAny_assign_Name (wpAny_storeName_local (lookup_relabel_local hx) (hn.at fun o e => hk _ o (by simpa using hCI) e) (fun h₃ hn₃ hs₃ => ?_) (by simp [compEnvC, relabel, hkind]))
    refine hQ h₃ _ _ ?_ hn₃ ⟨v, hP, by simp⟩ fun b o hbI hbC e => hs₃.extBut b o hbC (hk b o (by simpa using hbI) e)
    refine W.frame _ _ _ hst' fun b hm o e => hs₃.extBut b o (fun q => ?_) e
    rcases hfp b hm with e' | ⟨o', e', _⟩
    · exact hCI (q.symm.trans e')
    · have q' : b = C := q
      rw [q', hC] at e'; cases e'

theorem src_pairs {x x₂ : Str} {px px₂ tp : Pos} {tk₀ : Nat} {I ax : Addr} {items : Array Value} (hh : A.handled = none)
    (hI : I < s.heap.objs.size) (hi : s.heap.IsListIter I ax 0) (hl : s.heap.IsList ax items)
    (ht : ∀ i, i < items.size → ∃ t a b, items[i]? = some (.ref t) ∧ IsTup s.heap t #[a, b])
    (hx : scope.names.lookup x = some .local) (hx₂ : scope.names.lookup x₂ = some .local) (hxx : x ≠ x₂) (hkind : scope.kind = .function) :
    CompSrc9 prog w A scope cl env (.Tuple [.Name x px, .Name x₂ px₂] tk₀ tp) s I items.size (fun i h => h.IsListIter I ax i ∧ h.IsList ax items)
      (fun i m => ∃ t a b, items[i]? = some (.ref t) ∧ IsTup s.heap t #[a, b] ∧ m x = some a ∧ m x₂ = some b) := by
  have hne : ax ≠ I := by
    rintro rfl
    obtain ⟨o, e, hc, _⟩ := hi
    obtain ⟨o', e', hc', _⟩ := hl
    rw [e] at e'; cases e'
    rw [hc] at hc'
    exact absurd hc' (by decide)
  have W := Walks.list (prog := prog) (w := w) hh I ax hne items
  have B := src_walks (s := s) (env := env) (scope := scope) (cl := cl) (x := x) (px := px) W (fun b hm => by
      rcases List.mem_cons.mp hm with rfl | hm
      · exact .inl rfl
      · rw [List.mem_singleton.mp hm]; obtain ⟨o, e, _, n, hd⟩ := hl; exact .inr ⟨o, e, _, n, hd⟩) hI ⟨hi, hl⟩ (fun i h o st e => by
        obtain ⟨o', e', _, hd'⟩ := st.1
        rw [e] at e'; cases e'; exact ⟨_, hd'⟩) hx hkind
  refine ⟨B.hI, B.hIf, B.hst, B.hframe, B.hself, B.hdone, ?_⟩
  intro i C h tk m' Q E hlt st hn hC hCI hb hQ
  refine W.item i _ _ _ hlt st fun v h' tk' hP hst' hk => ⟨v, rfl, ?_⟩
  obtain ⟨t, a, b, hit, htup⟩ := ht i hlt
  rw [hit] at hP
  cases hP
  refine wpAny_letOwnedTupleGo_listiter hst'.1 ?_
  have htI : t ≠ I := by
    rintro rfl
    obtain ⟨o, e, hc, _⟩ := hi
    obtain ⟨o', e', hc', _⟩ := htup
    rw [e] at e'; cases e'
    rw [hc] at hc'
    exact absurd hc' (by decide)
  have htup' : IsTup h' t #[a, b] := by
    obtain ⟨o, e, r⟩ := htup
    exact ⟨o, hk _ _ (by simpa using htI) (hb.nd htI e (by obtain ⟨_, n, hd⟩ := r; exact sq_nd ⟨_, n, hd⟩)), r⟩
  refine assign_Tuple_tuple hh htup' rfl rfl fun h₅ he => ?_
  have he' : ∀ b o, h'.get? b = some o → h₅.get? b = some o := fun b o e => he b o (Nat.ne_of_lt (Heap.lt_size e)) e
  refine assignInOrder_cons (wpAny_assign_Name (wpAny_storeName_local (lookup_relabel_local hx) ((hn.at fun o e => hk _ o (by simpa using hCI) e).at fun o e => he' _ o e) (fun h₆ hn₆ hs₆ => ?_) (by simp [compEnvC, relabel, hkind])))
  refine assignInOrder_cons (wpAny_assign_Name (wpAny_storeName_local (lookup_relabel_local hx₂) hn₆ (fun h₃ hn₃ hs₃ => ?_) (by simp [compEnvC, relabel, hkind])))
  refine assignInOrder_nil ?_
  have old3 : ∀ b o, b ≠ C → h'.get? b = some o → h₃.get? b = some o := fun b o hb e => hs₃.extBut b o hb (hs₆.extBut b o hb (he' b o e))
  refine hQ h₃ _ _ ?_ hn₃ ⟨t, a, b, hit, htup, by simp [hxx], by simp⟩ fun b o hbI hbC e => old3 b o hbC (hk b o (by simpa using hbI) e)
  refine W.frame _ _ _ hst' fun b hm o e => old3 b o (fun q => ?_) e
  rcases List.mem_cons.mp hm with e' | hm
  · exact hCI (q.symm.trans e')
  · have q2 := List.mem_singleton.mp hm
    obtain ⟨o', e', _⟩ := hl
    rw [← q2, q, hC] at e'; cases e'

/-- the iterable comes to an iterator over n turns -/
def SrcTo (prog : Program) (w : World) (A : Around) (scope : Scope) (cl : List (Str × Addr)) (env : Env) (target iter : Expr) (s : Shared) (n : Nat) (BF : Nat → (Str → Option Value) → Prop) : Prop :=
  ∀ (Q : Value → Shared → Prop) (E : Value → Shared → Prop), (∀ I St h' tk', Ext A s.heap h' → s.heap.get? I = none → CompSrc9 prog w A scope cl env target { s with heap := h', toks := tk' } I n St BF → Q (.ref I) { s with heap := h', toks := tk' }) →
    wpAny (model prog w) A (eval iter env) (fun xv s₁ => wpAny (model prog w) A (pyIter xv) Q E s₁) E s

theorem lc_eval {elt iter target : Expr} {ifs : List Expr} {pos : Pos} {n : Nat} {BF : Nat → (Str → Option Value) → Prop}
    {p : Nat → Bool} {R : Nat → Value → Addr → Heap → Prop}
    (hsrc : SrcTo prog w A scope cl env target iter s n BF)
    (htest : ∀ i C h tk m'', i < n → h.Ns C m'' → BF i m'' → Ext A s.heap h → s.heap.get? C = none → GW prog w A (testsOf ifs (compEnvC scope cl C env)) { s with heap := h, toks := tk } (fun ok _ => ok = p i))
    (helt : ∀ i C D h tk m'', i < n → p i = true → h.Ns C m'' → BF i m'' → Ext A s.heap h → s.heap.get? C = none → s.heap.get? D = none → (∃ ys, LstAt h D ys) →
      GW prog w A (eval elt (compEnvC scope cl C env)) { s with heap := h, toks := tk } (fun y h' => R i y D h'))
    (hR : ∀ i y D h h', i < n → (∃ ys, LstAt h D ys) → SqBut D h h' → R i y D h → R i y D h')
    (hsz : n ≤ sizeLine) (hclos : closureFor scope env = pure cl) (hcell : ∀ y ∈ scope.names, y.2 ≠ .cell) (hkind : scope.kind = .function)
    (hnames : ∀ y ∈ scope.names, y.2 = .local → scope.names.lookup y.1 = some .local)
    (hs : ∀ x, foldedSetIterable iter env x = pure x := by intro _; rfl) :
    GW prog w A (eval (.ListComp elt [⟨target, iter, ifs, 0⟩] scope pos) env) s
      (fun r h' => ∃ D ys, r = .ref D ∧ s.heap.get? D = none ∧ LstAt h' D ys ∧ Al (fun i y => R i y D h') ((List.range n).filter p) ys) := by
  intro Q E hQ
  rw [eval_ListComp]
  refine wpAny_comprehension_free (use := none) rfl hs hclos hkind hnames (hsrc _ _ fun I St h' tk' hx hI S => ?_)
  refine lc_core (RR := fun acc C => compPost (model prog w) A E none Q acc C) hsz hcell hkind S
    (fun i C h tk m'' hi hn hB hb hC => htest i C h tk m'' hi hn hB (Ext.transB hx hI hb) (Ext.none hx hC))
    (fun i C D h tk m'' hi hp hn hB hb hC hD hL => helt i C D h tk m'' hi hp hn hB (Ext.transB hx hI hb) (Ext.none hx hC) (Ext.none hx hD) hL) hR ?_
  intro D C h tk m' ys hDC hD hC hn hL hb hA
  refine ⟨m', hn, fun h'' hs'' => ?_⟩
  have e0 : Ext A s.heap h := Ext.transB hx hI hb
  have e1 : Ext A s.heap h'' := by
    intro b o e
    have hbC : b ≠ C := fun q => by rw [q, Ext.none hx hC] at e; cases e
    rcases e0 b o e with e2 | ⟨f1, d1, sl, e2⟩
    · exact .inl (hs''.extBut b o hbC e2)
    · exact .inr ⟨f1, d1, sl, hs''.extBut b _ hbC e2⟩
  refine hQ _ h'' tk e1 ⟨D, ys, rfl, Ext.none hx hD, hL.keeps fun o e => hs''.extBut _ _ hDC e, al_range hA fun i y hi r => hR i y D h h'' hi ⟨ys, hL⟩ (fun b o _ ho e => hs''.extBut b o (fun q => ?_) e) r⟩
  rw [q] at e; exact ns_not_sq hn e ho
end
end Mine
end

-- part M4
section
open PySem PySem.W PyProof.Rows PySem.Calls PySem.Spec
set_option maxRecDepth 100000
set_option maxHeartbeats 8000000
namespace Mine

theorem fill0 : (PySem.Challenge.rw_il0044_01, hd.heap_39) = (PySem.Challenge.rw_il0044_01, hd.heap_39) := by
  k_fill
  rfl

abbrev Sqx (h h' : Heap) : Prop := ∀ b o, IsSq o → h.get? b = some o → h'.get? b = some o

section
variable {prog : Program} {w : World} {mean : ExcName → Option Value} {mg mb : Str → Option Value} {bs : Heap}
variable {A : Around} {env : Env} {E : Value → Shared → Prop} {s : Shared} {g : Heap} {L f : Addr} {scope : Scope} {qual : Str} {cdv : Value} {A₀ : Around} {m cm : Str → Option Value}

theorem keep_but {a : Addr} {h h' : Heap} (fs : FS bs A₀ g L scope h m cm) (hs : Heap.SameBut a h h') (ha : L ≤ a) : Ext A₀ g h' := by
  intro b o e
  have hb : b ≠ a := Nat.ne_of_lt (Nat.lt_of_lt_of_le (Heap.lt_size e) (Nat.le_trans fs.above ha))
  rcases fs.keep b o e with e1 | ⟨f1, d1, sl, e1⟩
  · exact .inl (hs.extBut b o hb e1)
  · exact .inr ⟨f1, d1, sl, hs.extBut b _ hb e1⟩
theorem At.but {h h' : Heap} {b : Addr} (a : At w mean mg mb bs A h) (hs : Heap.SameBut b h h') (hb : bs.get? b = none) (hf : b ∈ frs A → ∃ m, h'.Ns b m) : At w mean mg mb bs A h' := by
  refine ⟨fun c o e => hs.extBut c o (fun q => by rw [q, hb] at e; cases e) (a.stay c o e), a.kin0, a.top0, a.hand, ?_⟩
  obtain ⟨env, outer, hA, hl⟩ := a.fr
  refine ⟨env, outer, hA, fun e he => ?_⟩
  obtain ⟨hk, L, m, hL, h1, h2⟩ := hl e he
  by_cases q : L = b
  · have : b ∈ frs A := by
      unfold frs
      rw [hA, Option.getD_some]
      exact q ▸ List.mem_filterMap.mpr ⟨e, he, hL⟩
    obtain ⟨m', hm'⟩ := hf this
    exact ⟨hk, L, m', hL, h1, q ▸ hm'⟩
  · exact ⟨hk, L, m, hL, h1, h2.sameBut hs q⟩

theorem FS.stL {x : Str} {v : Value} {Q : Unit → Shared → Prop} (fs : FS bs A₀ g L scope s.heap m cm) (a : At w mean mg mb bs A s.heap)
    (k : ∀ h' tk', Heap.SameBut L s.heap h' → Sqx s.heap h' → FS bs A₀ g L scope h' (fun y => if y = x then some v else m y) cm → At w mean mg mb bs A h' → Q () { s with heap := h', toks := tk' })
    (hk : scope.kind = .function := by rfl) (hl : (envOfC qual scope L f cdv).kindOf x = some .local := by rfl) :
    wpAny (model prog w) A (storeName (envOfC qual scope L f cdv) x v) Q E s :=
  wpAny_storeName_local hl fs.ns (fun h' hn hs => k h' _ hs (fun b o ho e => hs.extBut b o (fun q => by rw [q] at e; exact ns_not_sq fs.ns e ho) e) ⟨hn, keep_but fs hs (Nat.le_refl _), fs.above, fs.low, fs.cl.sameBut hs (Nat.le_refl _)⟩
      (a.but hs (fs.low _ fs.above) fun _ => ⟨_, hn⟩))
    (by show (scope.kind == .class || (scope.kind == .module && L != mainGlobals)) = false; rw [hk]; rfl)

theorem cell_not_sq {h : Heap} {c : Addr} {v : Option Value} {o : Obj} (x : h.IsCell c v) (e : h.get? c = some o) : ¬ IsSq o := by
  rintro ⟨xs, n, hd⟩
  obtain ⟨o', e', hd'⟩ := x
  rw [e] at e'
  cases e'
  rw [hd] at hd'
  cases hd'

theorem FS.stC {x : Str} {c : Addr} {v : Value} {Q : Unit → Shared → Prop} (fs : FS bs A₀ g L scope s.heap m cm) (a : At w mean mg mb bs A s.heap)
    (k : ∀ h' tk', Heap.SameBut c s.heap h' → Sqx s.heap h' → FS bs A₀ g L scope h' m (fun y => if y = x then some v else cm y) → At w mean mg mb bs A h' → Q () { s with heap := h', toks := tk' })
    (hc : (cellsFrom (L + 1) scope.names []).lookup x = some c)
    (hk : scope.kind = .function := by rfl) (hl : (envOfC qual scope L f cdv).kindOf x = some .cell := by rfl) :
    wpAny (model prog w) A (storeName (envOfC qual scope L f cdv) x v) Q E s := by
  have X := fs.cl
  have hLc : L < c := X.above x c (mem_of_lookup hc)
  refine wpAny_storeName_cell hk hl hc (X.cell x c hc) fun h' hv hs => k h' s.toks hs (fun b o ho e => hs.extBut b o (fun q => by rw [q] at e; exact cell_not_sq (X.cell x c hc) e ho) e)
    ⟨fs.ns.sameBut hs (Nat.ne_of_lt hLc), keep_but fs hs (Nat.le_of_lt hLc), fs.above, fs.low, ⟨fun n c' e => ?_, X.apart, X.above⟩⟩
    (a.but hs (fs.low _ (Nat.le_trans fs.above (Nat.le_of_lt hLc))) fun q => by
      obtain ⟨_, m', o, es, ep, e1, hd1, _⟩ := a.off q
      obtain ⟨o2, e2, hd2⟩ := X.cell x c hc
      rw [e1] at e2; cases e2; rw [hd1] at hd2; cases hd2)
  by_cases hn : n = x
  · subst hn; rw [hc] at e; cases e; simpa using hv
  · have hcc : c' ≠ c := fun q => hn (name_of_addr X.apart (mem_of_lookup e) (q ▸ mem_of_lookup hc))
    simpa [hn] using (X.cell n c' e).sameBut hs hcc

theorem FS.cell {x : Str} {c : Addr} {v : Value} {h : Heap} (fs : FS bs A₀ g L scope h m cm) (hc : (cellsFrom (L + 1) scope.names []).lookup x = some c) (hv : cm x = some v) : h.IsCell c (some v) := hv ▸ fs.cl.cell x c hc

theorem gw_of {t : Sem Value} {R : Value → Heap → Prop} {v : Value} (h : ∀ (Q : Value → Shared → Prop) (E : Value → Shared → Prop), Q v s → wpAny (model prog w) A t Q E s) (r : R v s.heap) : GW prog w A t s R :=
  fun Q E hQ => h Q E (by have := hQ v s.heap s.toks (Ext.refl _ _) r; exact this)

theorem ex_assign {x : Str} {px pos : Pos} {e : Expr} {rest : List Stmt} {Q : Flow → Shared → Prop} {R : Value → Heap → Prop}
    (ge : GW prog w A (eval e env) s R)
    (k : ∀ v h₁ tk₁, Ext A s.heap h₁ → R v h₁ → wpAny (model prog w) A (storeName env x v) (fun _ s' => wpAny (model prog w) A (execs rest env) Q E s') E { s with heap := h₁, toks := tk₁ })
    (hs : swapsWith e (some (.Name x px)) pos.line env = pure false := by rfl) :
    wpAny (model prog w) A (execs (.Assign [.Name x px] e pos :: rest) env) Q E s :=
  wpAny_execs_cons (wpAny_Assign_Name (ge _ _ fun v h₁ tk₁ x₁ r => k v h₁ tk₁ x₁ r) hs)

theorem ex_return {pos : Pos} {e : Expr} {rest : List Stmt} {Q : Flow → Shared → Prop} {R : Value → Heap → Prop}
    (ge : GW prog w A (eval e env) s R) (k : ∀ v h₁ tk₁, Ext A s.heap h₁ → R v h₁ → Q (.ret v) { s with heap := h₁, toks := tk₁ }) :
    wpAny (model prog w) A (execs (.Return (some e) pos :: rest) env) Q E s :=
  wpAny_execs_cons (wpAny_Return_some (ge _ _ k))

theorem cDef {x : Str} {np pos : Pos} {e0 : Expr} {rest : List Expr} {fa : Addr} {Q : Value → Shared → Prop} (a : At w mean mg mb bs A s.heap)
    (e : nsIn (hd.heap_39 w.params) mainGlobals x = some (some (.ref fa))) (hkp : keepIn (hd.heap_39 w.params) (.ref fa) = true)
    (h : wpAny (model prog w) A (spliced (backTo pos (starEach (e0 :: rest) env))) (fun vs s₁ => KIn w s₁.heap ∧ wpAny (model prog w) A (call (.ref fa) vs) Q E s₁) E s)
    (hg : env.globals = mainGlobals := by rfl) (hk : env.scope.kind = .function := by rfl) (hx : env.kindOf x = some .globalImplicit := by rfl) (hd : (x == ("__debug__" : Str)) = false := by decide)
    (he : starEach (e0 :: rest) env = (false, eval e0 env) :: starEach rest env := by rfl) (hplain : (backTo pos (starEach rest env)).any (·.1) = false := by rfl) :
    wpAny (model prog w) A (eval (.Call (.Name x np) (e0 :: rest) [] pos) env) Q E s :=
  wpAny_Call_NameR (nmG a e (callWith_K (h₀ := s.heap) a.kin hkp h he hplain) hg hk hx hd)
end
end Mine
end

-- part M5
section
open PySem PySem.W PyProof.Rows PySem.Calls PySem.Spec
set_option maxRecDepth 100000
set_option maxHeartbeats 8000000
namespace Mine
theorem fill1 : (PySem.Challenge.rw_il0044_01, hd.heap_39) = (PySem.Challenge.rw_il0044_01, hd.heap_39) := by
  k_fill
  rfl
section
variable {prog : Program} {w : World} {mean : ExcName → Option Value} {mg mb : Str → Option Value} {bs : Heap}
variable {A : Around} {s : Shared} {x : Int} {t : Tok}

theorem ifmt_spec (a : At w mean mg mb bs A s.heap) (hdp : A.depth < recursionLimit) :
    GW prog w A (call (.ref 28) [.int x t]) s (fun v _ => ∃ t', v = .int (Builtin.bitAnd x 61440) t') := by
  intro Q E hQ
  refine enter (binds := [(Str.ofString "mode", .int x t)]) a hdp (by k_is) (by k_is) (BindsTo.of_eq rfl) (kindsX rfl) rfl rfl rfl ?_
  intro L h₁ tk hL F B
  refine ex_return (R := fun v _ => ∃ t', v = .int (Builtin.bitAnd x 61440) t') ?_ ?_
  · intro Q E hQ
    refine wpAny_BinOp (nmL F.ns rfl (wpAny_Constant_int (and_int ?_)))
    exact hQ _ h₁ _ (Ext.refl _ _) ⟨_, rfl⟩
  · intro v h₂ tk₂ x₂ r
    exact hQ v h₂ tk₂ (F.ext rfl x₂).keep r
theorem imode_spec (a : At w mean mg mb bs A s.heap) (hdp : A.depth < recursionLimit) :
    GW prog w A (call (.ref 21) [.int x t]) s (fun v _ => ∃ t', v = .int (Builtin.bitAnd x 4095) t') := by
  intro Q E hQ
  refine enter (binds := [(Str.ofString "mode", .int x t)]) a hdp (by k_is) (by k_is) (BindsTo.of_eq rfl) (kindsX rfl) rfl rfl rfl ?_
  intro L h₁ tk hL F B
  refine ex_return (R := fun v _ => ∃ t', v = .int (Builtin.bitAnd x 4095) t') ?_ ?_
  · intro Q E hQ
    refine wpAny_BinOp (nmL F.ns rfl (wpAny_Constant_int (and_int ?_)))
    exact hQ _ h₁ _ (Ext.refl _ _) ⟨_, rfl⟩
  · intro v h₂ tk₂ x₂ r
    exact hQ v h₂ tk₂ (F.ext rfl x₂).keep r

theorem isdir_spec (a : At w mean mg mb bs A s.heap) (hdp : A.depth + 1 < recursionLimit) :
    GW prog w A (call (.ref 35) [.int x t]) s (fun v _ => v = .bool (Builtin.bitAnd x 61440 == 16384)) := by
  intro Q E hQ
  refine enter (binds := [(Str.ofString "mode", .int x t)]) a (Nat.lt_of_succ_lt hdp) (by k_is) (by k_is) (BindsTo.of_eq rfl) (kindsX rfl) rfl rfl rfl ?_
  intro L h₁ tk hL F B
  refine ex_return (R := fun v _ => v = .bool (Builtin.bitAnd x 61440 == 16384)) ?_ ?_
  · intro Q E hQ
    refine wpAny_Compare1 (cDef (fa := 28) B (by k_is) (by k_is) (spliced_more (nmL F.ns rfl (spliced_none ⟨B.kin, ?_⟩))))
    refine ifmt_spec B hdp _ _ fun v h₂ tk₂ x₂ r => ?_
    obtain ⟨t', rfl⟩ := r
    refine nmG (B.ext x₂) (by k_is) (eq_int ?_)
    exact hQ _ h₂ tk₂ x₂ rfl
  · intro v h₂ tk₂ x₂ r
    exact hQ v h₂ tk₂ (F.ext rfl x₂).keep r
theorem ischr_spec (a : At w mean mg mb bs A s.heap) (hdp : A.depth + 1 < recursionLimit) :
    GW prog w A (call (.ref 42) [.int x t]) s (fun v _ => v = .bool (Builtin.bitAnd x 61440 == 8192)) := by
  intro Q E hQ
  refine enter (binds := [(Str.ofString "mode", .int x t)]) a (Nat.lt_of_succ_lt hdp) (by k_is) (by k_is) (BindsTo.of_eq rfl) (kindsX rfl) rfl rfl rfl ?_
  intro L h₁ tk hL F B
  refine ex_return (R := fun v _ => v = .bool (Builtin.bitAnd x 61440 == 8192)) ?_ ?_
  · intro Q E hQ
    refine wpAny_Compare1 (cDef (fa := 28) B (by k_is) (by k_is) (spliced_more (nmL F.ns rfl (spliced_none ⟨B.kin, ?_⟩))))
    refine ifmt_spec B hdp _ _ fun v h₂ tk₂ x₂ r => ?_
    obtain ⟨t', rfl⟩ := r
    refine nmG (B.ext x₂) (by k_is) (eq_int ?_)
    exact hQ _ h₂ tk₂ x₂ rfl
  · intro v h₂ tk₂ x₂ r
    exact hQ v h₂ tk₂ (F.ext rfl x₂).keep r
end
end Mine
end

-- part M6
section
open PySem PySem.W PyProof.Rows PySem.Calls PySem.Spec
set_option maxRecDepth 100000
set_option maxHeartbeats 8000000
namespace Mine

theorem lk_contains : typeLookup (.type "list") "__contains__" = pure (some (.builtin "list.__contains__")) := by rw [typeLookup_type, builtinLookup_eq_fast]; kernel_rfl
theorem ty_contains : typeOf (.builtin "list.__contains__") = pure (.type "wrapper_descriptor") := by kernel_rfl
theorem lk_wd_get : typeLookup (.type "wrapper_descriptor") "__get__" = pure (some (.builtin "wrapper_descriptor.__get__")) := by rw [typeLookup_type, builtinLookup_eq_fast]; kernel_rfl
theorem lk_wd_set : typeLookup (.type "wrapper_descriptor") "__set__" = pure none := by rw [typeLookup_type, builtinLookup_eq_fast]; kernel_rfl
theorem lk_wd_del : typeLookup (.type "wrapper_descriptor") "__delete__" = pure none := by rw [typeLookup_type, builtinLookup_eq_fast]; kernel_rfl
theorem slot_wd_get : Slot "wrapper_descriptor" "__get__" "wrapper_descriptor.__get__" :=
  .of (owner := "wrapper_descriptor") (n := "__get__") (by rw [typeLookup_type, builtinLookup_eq_fast]; kernel_rfl) (by decide +kernel) (by decide +kernel) (by decide +kernel)
    (by first | exact .inl (by decide +kernel) | exact .inr (by decide +kernel)) (by rw [isSubtype_type]; kernel_rfl)
theorem entry_wd_get : entryFor table "wrapper_descriptor.__get__" = some Builtin.«wrapper_descriptor.__get__» := entryFor_of_tree (by kernel_rfl)
theorem args_wd_get (a b c : Value) : argsOk "wrapper_descriptor.__get__" ⟨[a, b, c], []⟩ := by unfold argsOk; kernel_rfl
theorem lk_no_dict : PlainAttrs "list" := F.plainAttrs_list

theorem owner_contains : (".".intercalate ("list.__contains__".cutAt '.').dropLast) = "list" := by
  have e0 : "list.__contains__".cutAt '.' = ["list", "__contains__"] := by first | rfl | decide +kernel
  rw [e0]; first | rfl | decide +kernel
theorem sub_contains_owner : isSubtype (.type "list") (.type (".".intercalate ("list.__contains__".cutAt '.').dropLast)) = pure true := by
  rw [owner_contains, isSubtype_type]; kernel_rfl

abbrev wrapObj (a : Addr) : Obj := { cls := .type "method-wrapper", data := .fields #[.builtin "list.__contains__", .ref a] }

section
variable {prog : Program} {w : World} {A : Around} {E : Value → Shared → Prop} {h : Heap} {g : Array GenState} {d : Drawn} {t : Nat} {os : OsState} {a : Addr} {o : Obj}

theorem wd_get_call {R : Result → Shared → Prop} (hx : h.get? a = some o) (hc : o.cls = .type "list")
    (hq : R (.ok (.ret (.ref h.objs.size))) ⟨h.push (wrapObj a), g, d, t, os⟩) :
    codeAny (model prog w) A (.call (.builtin "wrapper_descriptor.__get__") ⟨[.builtin "list.__contains__", .ref a, .type "list"], []⟩) R ⟨h, g, d, t, os⟩ := by
  have hT : (⟨h, g, d, t, os⟩ : Shared).TypeIs (.ref a) "list" := ⟨_, hx, hc⟩
  have hT5 : (⟨h, g, d, t, os⟩ : Shared).TypeIs (.builtin "list.__contains__") "wrapper_descriptor" := ty_contains
  have f8 := sub_contains_owner
  refine codeAny_call_builtin slot_wd_get.plain entry_wd_get (slot_wd_get.check _ _ _ _ _ _ _ _ hT5 (args_wd_get _ _ _) ?_)
  unfold Builtin.«wrapper_descriptor.__get__»
  repeat (any_goals (first | assumption | wp_step))

end
end Mine
end

-- part M6b
section
open PySem PySem.W PyProof.Rows PySem.Calls PySem.Spec
set_option maxRecDepth 100000
set_option maxHeartbeats 8000000
namespace Mine
section
variable {prog : Program} {w : World} {A : Around} {E : Value → Shared → Prop} {h : Heap} {g : Array GenState} {d : Drawn} {t : Nat} {os : OsState} {a : Addr} {o : Obj}
theorem contains_entry {tk : Tok} {xs : Array Value} {k : Nat} {Q : Fin → Shared → Prop} (hx : h.get? a = some { cls := .type "list", dict := none, data := .seq xs k, slots := #[] })
    (hq : Q (.done (.ret (.ref h.objs.size))) ⟨h.push (wrapObj a), g, d, t, os⟩) :
    wpAny (model prog w) A (Builtin.«object.__getattribute__» ⟨[.ref a, .str "__contains__" tk], []⟩) Q E ⟨h, g, d, t, os⟩ := by
  have hT : (⟨h, g, d, t, os⟩ : Shared).TypeIs (.ref a) "list" := ⟨_, hx, rfl⟩
  have hT5 : (⟨h, g, d, t, os⟩ : Shared).TypeIs (.builtin "list.__contains__") "wrapper_descriptor" := ty_contains
  have f4 := lk_contains
  have f5 := ty_contains
  have f6 := lk_wd_get
  have f7 := lk_wd_set
  have f8 := lk_wd_del
  repeat (any_goals (first | assumption | ((with_reducible show codeAny _ _ (.call (.builtin "wrapper_descriptor.__get__") _) _ _); refine wd_get_call hx rfl ?_) | wp_step))
theorem contains_call {tk : Tok} {xs : Array Value} {k : Nat} {R : Result → Shared → Prop} (hx : h.get? a = some { cls := .type "list", dict := none, data := .seq xs k, slots := #[] })
    (hq : R (.ok (.ret (.ref h.objs.size))) ⟨h.push (wrapObj a), g, d, t, os⟩) :
    codeAny (model prog w) A (.call (.builtin "list.__getattribute__") ⟨[.ref a, .str "__contains__" tk], []⟩) R ⟨h, g, d, t, os⟩ :=
  codeAny_call_builtin F.slot_list_getattribute.plain F.entry_list_ga (F.slot_list_getattribute.check _ _ _ _ _ _ _ _ (show (⟨h, g, d, t, os⟩ : Shared).TypeIs (.ref a) "list" from ⟨_, hx, rfl⟩) (F.args_list_getattribute_2 _ _) (contains_entry hx hq))

theorem contains_attr {xs : Array Value} {k : Nat} {Q : Value → Shared → Prop} (hx : h.get? a = some { cls := .type "list", dict := none, data := .seq xs k, slots := #[] })
    (hq : ∀ t', Q (.ref h.objs.size) ⟨h.push (wrapObj a), g, d, t', os⟩) : wpAny (model prog w) A (getAttr (.ref a) "__contains__" true) Q E ⟨h, g, d, t, os⟩ := by
  have hT : ∀ t', (⟨h, g, d, t', os⟩ : Shared).TypeIs (.ref a) "list" := fun _ => ⟨_, hx, rfl⟩
  have f2 := F.slot_list_getattribute.lookup
  have f3 := F.slot_list_getattribute.bind (.ref a)
  unfold getAttr getAttrBy
  repeat (any_goals (first | assumption | exact hT _ | wp_step))
  refine contains_call hx ?_
  repeat (any_goals (first | assumption | exact hq _ | wp_step))
end
end Mine
end

-- part M7
section
open PySem PySem.W PyProof.Rows PySem.Calls PySem.Spec
set_option maxRecDepth 100000
set_option maxHeartbeats 8000000
namespace Mine
theorem check_bound_contains (l x : Value) : checkBoundCall "list.__contains__" ⟨[l, x], []⟩ = pure () := by kernel_rfl
theorem quiet_contains (args : Args) : (Code.builtin "list.__contains__" args).quiet = true := Code.quiet_builtin _ (by decide +kernel)
theorem plain_contains : plainId "list.__contains__" = true := by decide +kernel

section
variable {prog : Program} {w : World} {A : Around} {E : Value → Shared → Prop} {s : Shared}

theorem wrap_call {b l : Addr} {x : Value} {items : Array Value} {k : Nat} {xs : List PyData} {d : PyData} {as bs : List Addr} {Q : Value → Shared → Prop}
    (hb : s.heap.get? b = some (wrapObj l)) (hl : s.heap.get? l = some (W.listOf items k)) (rs : ReadsAll s.heap items.toList xs as) (rx : Reads s.heap x d bs)
    (hxs : PyData.canLayAll0 xs = true) (hd : d.canLay0 = true) (hu : A.units + 1 + min (PyData.depthAll xs) d.depth < cLine)
    (h : Q (.bool (xs.any fun y => PyData.eqv y d)) s) : wpAny (model prog w) A (call (.ref b) [x]) Q E s := by
  refine wpAny_call (codeAny_of_tree ?_)
  show wpAny _ A.in1 (callAny (.ref b) ⟨[x], []⟩) _ _ s
  simp only [callAny]
  refine wpAny_bind (wpAny_load hb ?_)
  simp only [wrapObj, show (Value.type "method-wrapper" == Value.type "method" || Value.type "method-wrapper" == Value.type "builtin_function_or_method" || Value.type "method-wrapper" == Value.type "method-wrapper") = true by decide, if_true]
  show wpAny _ _ (checkBoundCall "list.__contains__" ⟨[.ref l, x], []⟩ >>= fun _ => again (.builtin "list.__contains__" ⟨[.ref l, x], []⟩)) _ _ s
  refine wpAny_bind (wpAny_of_eq (a := ()) (check_bound_contains _ _) ?_)
  refine wpAny_bind (wpAny_pure (wpAny_pure ?_))
  refine ⟨quiet_contains _, codeAny_builtin F.entry_list_contains ?_⟩
  rw [Around.under_plainId plain_contains]
  refine SeqAt.list_containsAt l items k none #[] x (fun y => PyData.eqv (SeqAt.readOf s.heap y) d) prog w A _ s ⟨hl, SeqAt.items_eqAt rs rx hxs hd hu, ?_⟩
  rw [SeqAt.any_by_data rs hxs]
  exact h
end
end Mine
end

-- part N1
section
open PySem PySem.W PyProof.Rows PySem.Calls PySem.Spec
set_option maxRecDepth 100000
set_option maxHeartbeats 8000000
namespace Mine
section
variable {prog : Program} {w : World} {A : Around} {E : Value → Shared → Prop} {s : Shared}

abbrev excObj (T : Addr) (tb : Value) : Obj := { cls := .type "StopIteration", data := .fields #[.ref T, tb, .none, .none, .bool false, .none] }

theorem next_item {it l : Addr} {i : Nat} {items : Array Value} {x : Value} {Q : Value → Shared → Prop} (hit : s.heap.IsListIter it l i) (hl : s.heap.IsList l items) (hx : items[i]? = some x)
    (hQ : ∀ h', h'.IsListIter it l (i + 1) → Heap.SameBut it s.heap h' → Q x { s with heap := h' }) : wpAny (model prog w) A (call (.builtin "next") [.ref it]) Q E s := by
  refine call_function_entry (by decide +kernel) (by decide +kernel) kdk_entry_next (kdk_args_next _) ?_
  unfold Builtin.«next»
  refine wpAny_bind (m := someArgs "next" 1 2 _) (wpAny_of_eq (a := [Value.ref it]) (by first | rfl | kernel_rfl!) ?_)
  dsimp only
  refine wpAny_bind (wpAny_specialOf (name := Str.ofString "__next__") hit.typeIs slot_listiter_next.lookup ?_)
  refine wpAny_ite_split (fun hab => absurd hab (by decide)) (fun _ => ?_)
  obtain ⟨o, ho, hc, hd⟩ := id hit
  obtain ⟨ol, hol, _, nl, hdl⟩ := hl
  refine wpAny_bind (wpAny_callSpecial?_slot (name := Str.ofString "__next__") hit.typeIs slot_listiter_next
    (wpAny_call_entry slot_listiter_next hit.typeIs entry_listiter_next ?_ (args_listiter_next _)))
  show wpAny _ _ (field (.ref it) 0 >>= _) _ _ s
  refine wpAny_bind (wpAny_field ho hd (x := .ref l) rfl ?_)
  show wpAny _ _ (if (Value.ref l == Value.none) = true then _ else _) _ _ s
  rw [if_neg (show ¬ ((Value.ref l == Value.none) = true) from Bool.false_ne_true)]
  show wpAny _ _ (field (.ref it) 1 >>= _) _ _ s
  refine wpAny_bind (wpAny_field ho hd (x := .int i 0) rfl ?_)
  show wpAny _ _ (seqItems? (.ref l) >>= _) _ _ s
  refine wpAny_bind (wpAny_seqItems hol hdl ?_)
  simp only [Int.toNat_natCast, hx]
  refine wpAny_bind (wpAny_setField ho hd (by simp) (wpAny_pure ⟨x, rfl, wpAny_pure ⟨_, rfl, hQ _ ?_ (Heap.SameBut.update ..)⟩⟩))
  exact ⟨_, Heap.get?_update_self _ ho (Obj.isFreed_of_fields (Obj.data_mapFields hd _)), (Obj.cls_mapFields ..).trans hc, by
    rw [Obj.data_mapFields hd]; simp [rawInt]⟩

theorem next_end {it l : Addr} {i : Nat} {items : Array Value} {Q : Value → Shared → Prop} (hh : A.handled = none) (hit : s.heap.IsListIter it l i) (hl : s.heap.IsList l items) (hx : items[i]? = none)
    (hE : ∀ h' e T, s.heap.objs.size ≤ e → h'.get? e = some (excObj T .none) → (∀ b o, b ≠ it → s.heap.get? b = some o → h'.get? b = some o) → E (.ref e) { s with heap := h' }) :
    wpAny (model prog w) A (call (.builtin "next") [.ref it]) Q E s := by
  refine call_function_entry (by decide +kernel) (by decide +kernel) kdk_entry_next (kdk_args_next _) ?_
  unfold Builtin.«next»
  refine wpAny_bind (m := someArgs "next" 1 2 _) (wpAny_of_eq (a := [Value.ref it]) (by first | rfl | kernel_rfl!) ?_)
  dsimp only
  refine wpAny_bind (wpAny_specialOf (name := Str.ofString "__next__") hit.typeIs slot_listiter_next.lookup ?_)
  refine wpAny_ite_split (fun hab => absurd hab (by decide)) (fun _ => ?_)
  obtain ⟨o, ho, hc, hd⟩ := id hit
  obtain ⟨ol, hol, _, nl, hdl⟩ := hl
  refine wpAny_bind (wpAny_callSpecial?_slot (name := Str.ofString "__next__") hit.typeIs slot_listiter_next
    (wpAny_call_entry slot_listiter_next hit.typeIs entry_listiter_next ?_ (args_listiter_next _)))
  show wpAny _ _ (field (.ref it) 0 >>= _) _ _ s
  refine wpAny_bind (wpAny_field ho hd (x := .ref l) rfl ?_)
  show wpAny _ _ (if (Value.ref l == Value.none) = true then _ else _) _ _ s
  rw [if_neg (show ¬ ((Value.ref l == Value.none) = true) from Bool.false_ne_true)]
  show wpAny _ _ (field (.ref it) 1 >>= _) _ _ s
  refine wpAny_bind (wpAny_field ho hd (x := .int i 0) rfl ?_)
  show wpAny _ _ (seqItems? (.ref l) >>= _) _ _ s
  refine wpAny_bind (wpAny_seqItems hol hdl ?_)
  simp only [Int.toNat_natCast, hx]
  refine wpAny_bind (wpAny_rule (wpAny_bind (wpAny_setField ho hd (by simp) ?_)))
  show wpAny _ _ (newExc (.type "StopIteration") [] >>= _) _ _ _
  refine wpAny_bind ?_
  simp only [newExc, newTuple]
  refine wpAny_bind (wpAny_newObj_type ?_ (by size_fits))
  refine wpAny_bind (m := firstArgMember _ _) (wpAny_of_eq (a := Value.none) (by first | rfl | (simp only [firstArgMember]; rfl)) ?_)
  refine wpAny_newObj_type ?_ (by size_fits)
  simp only [raiseNew]
  refine wpAny_bind (wpAny_handled ?_)
  rw [show A.in1.in1.handled = none from hh]
  refine wpAny_bind (wpAny_pure (wpAny_throw ?_))
  refine hE _ _ _ ?_ (Heap.get?_push_size _ rfl) ?_
  · simp only [Heap.size_push, Heap.size_update]; omega
  · exact (((Heap.SameBut.update ..).extBut.push _).push _)
end
end Mine
end

-- part N2
section
open PySem PySem.W PyProof.Rows PySem.Calls PySem.Spec
set_option maxRecDepth 100000
set_option maxHeartbeats 8000000
namespace Mine
section
variable {w : World} {mean : ExcName → Option Value} {mg mb : Str → Option Value} {bs : Heap}
variable {prog : Program} {A : Around} {E : Value → Shared → Prop} {s : Shared} {env : Env} {L : Addr}

theorem At.funFrames {h : Heap} (a : At w mean mg mb bs A h) {l : List Env} (hA : A.frames = some l) : h.FunFrames bs l := by
  obtain ⟨env, outer, hA', hl⟩ := a.fr
  rw [hA] at hA'
  cases hA'
  have : ∀ l' : List Env, (∀ e ∈ l', e.scope.kind = .function ∧ ∃ L m, e.frame = some L ∧ bs.get? L = none ∧ h.Ns L m) → h.FunFrames bs l' := by
    intro l'
    induction l' with
    | nil => exact fun _ => trivial
    | cons e r ih =>
      intro hl
      obtain ⟨hk, L, m, hL, h1, o, es, ep, ho, hd, _⟩ := hl e (.head _)
      exact ⟨by rw [hk]; decide, ⟨L, o, hL, h1, ho, fun vs q => by rw [hd] at q; cases q⟩, ih fun e he => hl e (.tail _ he)⟩
  exact this _ hl

theorem ext_slots {h h' : Heap} {l : List Env} (a : At w mean mg mb bs A h) (hA : A.frames = some l) (x : Heap.SlotsOnly (l.filterMap (·.frame)) h h') : Ext A h h' := by
  intro b o e
  by_cases hb : b ∈ l.filterMap (·.frame)
  · have hb' : b ∈ frs A := by unfold frs; rw [hA]; exact hb
    obtain ⟨_, m, o', es, ep, e', hd, _⟩ := a.off hb'
    rw [e] at e'; cases e'
    obtain ⟨sl, q⟩ := x.2.2 b o e
    exact .inr ⟨hb', ⟨es, ep, hd⟩, sl, q⟩
  · exact .inl ((x.2.1 b hb).trans e)

theorem leave_new {outer : List Env} {e T : Addr} {Q : Unit → Shared → Prop} (a : At w mean mg mb bs A s.heap) (hA : A.frames = some (env :: outer)) (hf : env.frame = some L)
    (he : s.heap.get? e = some (excObj T .none))
    (k : ∀ h' tb, ExtB A e s.heap h' → h'.get? e = some (excObj T tb) → Q () { s with heap := h' }) : wpAny (model prog w) A (leaving env (.ref e)) Q E s := by
  have hfr := a.funFrames hA
  unfold leaving noteFrame
  rw [hf]
  refine wpAny_bind (wpAny_bind ?_)
  refine wpAny_field he rfl (x := .none) rfl ?_
  rw [if_neg (show ¬ ((Value.none != Value.none) = true) from by decide)]
  refine wpAny_bind (wpAny_frameOf_fun hA hfr hf fun h₁ hs₁ => ?_)
  have x₁ := ext_slots a hA hs₁
  have he₁ : h₁.get? e = some (excObj T .none) := x₁.nd he (fields_nd ⟨_, rfl⟩)
  refine wpAny_bind (wpAny_entryPlaceOf fun pl hpl => ?_)
  unfold EntryCells.newEntry newFields
  refine wpAny_bind (wpAny_newObj_type ?_ (hpl.sizeOk5 _ _ _ _ _))
  have he₂ := Heap.get?_push_of_some (h := h₁) { cls := .type "traceback", dict := none, data := .fields ([Value.none, .ref L, .none, rawInt L, .none] ++ (if pl.isEmpty then List.replicate 6 Value.none else pl)).toArray } he₁
  refine wpAny_setField he₂ rfl (by simp) ?_
  have hTe : h₁.objs.size ≠ e := Nat.ne_of_gt (Heap.lt_size he₁)
  have he₃ := Heap.get?_update_self (Obj.mapFields (·.setIfInBounds 1 (Value.ref h₁.objs.size))) he₂ rfl
  have hT₃ := (Heap.get?_update_other (h₁.push { cls := .type "traceback", dict := none, data := .fields ([Value.none, .ref L, .none, rawInt L, .none] ++ (if pl.isEmpty then List.replicate 6 Value.none else pl)).toArray })
    (Obj.mapFields (·.setIfInBounds 1 (Value.ref h₁.objs.size))) (Ne.symm hTe)).trans (Heap.get?_push_size h₁ rfl)
  unfold setFlight
  refine wpAny_bind (wpAny_field he₃ rfl (x := .ref h₁.objs.size) (by simp [Obj.mapFields]) ?_)
  rw [if_pos (show (Value.ref h₁.objs.size != Value.none) = true from by simp)]
  refine wpAny_setField hT₃ rfl (by simp only [List.size_toArray, List.length_append, List.length_cons, List.length_nil] <;> omega) (k _ (.ref h₁.objs.size) ?_ ?_)
  · intro b o hb eb
    have key : ∀ o', h₁.get? b = some o' → ((((h₁.push { cls := .type "traceback", dict := none, data := .fields ([Value.none, .ref L, .none, rawInt L, .none] ++ (if pl.isEmpty then List.replicate 6 Value.none else pl)).toArray }).update e (Obj.mapFields (·.setIfInBounds 1 (Value.ref h₁.objs.size)))).update h₁.objs.size (Obj.mapFields (·.setIfInBounds 3 ((none : Option Addr).elim Value.none fun f => rawInt f)))).get? b) = some o' := fun o' e' => by
      rw [Heap.get?_update_other _ _ (fun q => Nat.lt_irrefl _ (by have := Heap.lt_size e'; rw [← q] at this; exact this)), Heap.get?_update_other _ _ (Ne.symm hb)]
      exact Heap.get?_push_of_some _ e'
    rcases x₁ b o eb with e1 | ⟨f1, d1, sl, e1⟩
    · exact .inl (key o e1)
    · exact .inr ⟨f1, d1, sl, key _ e1⟩
  · rw [Heap.get?_update_other _ _ hTe, he₃]
    rfl
end
end Mine
end

-- part N3
section
open PySem PySem.W PyProof.Rows PySem.Calls PySem.Spec Builtin Builtin.ObjectAttr Builtin.Getset_descriptor
set_option maxRecDepth 100000
set_option maxHeartbeats 8000000
namespace Mine
theorem fill3 : (PySem.Challenge.rw_il0044_01, hd.heap_39) = (PySem.Challenge.rw_il0044_01, hd.heap_39) := by
  k_fill
  rfl
section
variable {w : World} {mean : ExcName → Option Value} {mg mb : Str → Option Value} {bs : Heap}
variable {prog : Program} {A : Around} {E : Value → Shared → Prop} {s : Shared}

abbrev ffObj (dx : Addr) (sl : Array (Option Value)) : Obj := { cls := .ref 75, dict := some dx, data := .plain, slots := sl }

theorem ff_inst {h : Heap} {x dx : Addr} {od : Obj} {sl : Array (Option Value)} (hx : h.get? x = some (ffObj dx sl)) (hd : h.get? dx = some od) : InstAt h x (ffObj dx sl) 75 (some od) := ⟨hx, rfl, rfl, hd⟩

theorem slot_set9 {K : Frag} {C x p i : Nat} {ox ox' : Obj} {od : Option Obj} {v : Value} {R : Result → Shared → Prop} (X : K.In s.heap) (I : InstAt s.heap x ox C od)
    (hp : slotIn K p C = some i) (hi : i < 1000)
    (e : { ox with slots := (ox.slots ++ Array.replicate (i + 1 - ox.slots.size) none).setIfInBounds i (some v) } = ox') (hf : ox'.isFreed = false)
    (h : ∀ h', Heap.SameBut x s.heap h' → h'.get? x = some ox' → R (.ok (.ret .none)) { s with heap := h' }) :
    codeAny (model prog w) A (.call (.builtin "member_descriptor.__set__") ⟨[.ref p, .ref x, v], []⟩) R s := by
  obtain ⟨n, tn, owner, behind, tb, d, sl, cd, ho, hc, hm, hb, rfl⟩ := slot_of X hp
  have hx0 := I.at_
  have U1 := Heap.SameBut.update s.heap x (fun o => { o with slots := (o.slots ++ Array.replicate (cd.slotNames.length - 1 - behind.toNat + 1 - o.slots.size) none).setIfInBounds (cd.slotNames.length - 1 - behind.toNat) (some v) })
  have U2 := Heap.get?_update_self (fun o : Obj => { o with slots := (o.slots ++ Array.replicate (cd.slotNames.length - 1 - behind.toNat + 1 - o.slots.size) none).setIfInBounds (cd.slotNames.length - 1 - behind.toNat) (some v) }) hx0 (by rw [e]; exact hf)
  rw [e] at U2
  obtain ⟨hh, g, dr, t, os⟩ := s
  have L0 := I.type (M := model prog w)
  have L1 := looks_mroIn (M := model prog w) X hm
  have L2 : Looks (model prog w) hh (Builtin.Slots.slotNamesOf (.ref C)) cd.slotNames := (looks_clsIn X hc).andThen .now
  have hx := I.at_
  dsimp only at ho hx L0 L1
  have f0 := looks_field (M := model prog w) ho 0 (v := .str n tn) rfl
  have f1 := looks_field (M := model prog w) ho 1 (v := owner) rfl
  have f3 := looks_field (M := model prog w) ho 3 (v := .builtin "proto.slot#set") rfl
  have f4 := looks_field (M := model prog w) ho 4 (v := .int behind tb) rfl
  refine codeAny_call_builtin KF.slot_mset.plain KF.entry_mset (KF.slot_mset.check _ _ _ _ _ _ _ _ ⟨_, ho, rfl⟩ (KF.args_mset _ _ _) ?_)
  unfold Builtin.«member_descriptor.__set__» descrSet descrStoreThrough descrCheckInstance descrNameAndClass isInstance
  have f5 : Looks (model prog w) hh (descrItself (.ref p)) [.ref p] := ((Looks.ld (part := none) ho).andThen .now).andThen (Looks.of_pure (by kernel_rfl))
  repeat lk
  refine ⟨Code.quiet_builtin _ (by decide +kernel), codeAny_builtin KF.entry_slotset ?_⟩
  unfold Builtin.«proto.slot#set» Slots.target
  repeat lk
  rw [if_neg hb]
  refine wpAny_pure (wpAny_bind ?_)
  unfold setSlotAt
  dsimp only
  rw [if_neg (by rw [sizeLine_eq]; omega)]
  exact wpAny_updatePart hx (wpAny_pure (h _ U1 U2))

theorem set_ff {K : Frag} {C x p i : Nat} {ox ox' od : Obj} {name : Str} {v : Value} {Q : Unit → Shared → Prop} (X : K.In s.heap) (I : InstAt s.heap x ox C (some od))
    (hs : findIn K (.ref C) "__setattr__" = some (some (.builtin "object.__setattr__"))) (hp : plainOver K C = true) (ht : takerIn K C name = some (some (.ref p))) (hT : typeIn K (.ref p) = some (.type "member_descriptor")) (hi : slotIn K p C = some i) (hz : i < 1000)
    (e : { ox with slots := (ox.slots ++ Array.replicate (i + 1 - ox.slots.size) none).setIfInBounds i (some v) } = ox') (hf : ox'.isFreed = false)
    (h : ∀ h', Heap.SameBut x s.heap h' → h'.get? x = some ox' → Q () { s with heap := h', toks := s.toks + 1 }) : wpAny (model prog w) A (setAttr (.ref x) name v) Q E s :=
  set_plain X I hs (osa_descr (s := { s with toks := s.toks + 1 }) KF.slot_mset X I hp ht hT (slot_set9 (s := { s with toks := s.toks + 1 }) X I hi hz e hf fun h' a b => h h' a b))

theorem get_ff {K : Frag} {C x p i : Nat} {ox od : Obj} {name : Str} {v : Value} {expr : Bool} {Q : Value → Shared → Prop} (X : K.In s.heap) (I : InstAt s.heap x ox C (some od)) (hg : plainGet K C name = true) (hc : isClsIn K C = true)
    (ha : findIn K (.ref C) name = some (some (.ref p))) (hn : specialIn K (.ref p) "__get__" = some (some (.builtin "member_descriptor.__get__"))) (ht : takesIn K (.ref p) = some true) (hp : slotIn K p C = some i)
    (hv : (ox.slots[i]?).join = some v) (hh : handedIn v = true) (h : Q v { s with toks := s.toks + 1 }) : wpAny (model prog w) A (getAttr (.ref x) name expr) Q E s :=
  get_bind X I (plainGet_of hg).1 (findObj_data hc ha hn ht) (plainGet_of hg).2 (wpAny_call (slot_get (s := { s with toks := s.toks + 1 }) X I hp hv (handed_on hh h)))

theorem iter_list {l : Addr} {items : Array Value} {Q : Value → Shared → Prop} (hl : s.heap.IsList l items)
    (hQ : Q (.ref s.heap.objs.size) { s with heap := s.heap.push { cls := .type "list_iterator", data := .fields #[.ref l, .int 0 0] } }) : wpAny (model prog w) A (call (.builtin "iter") [.ref l]) Q E s := by
  refine call_function_entry (by decide +kernel) (by decide +kernel) kdk_entry_iter (kdk_args_iter _) ?_
  unfold Builtin.«iter»
  refine wpAny_bind (m := someArgs "iter" 1 2 _) (wpAny_of_eq (a := [Value.ref l]) (by first | rfl | kernel_rfl!) ?_)
  show wpAny _ _ (pyIter (.ref l) >>= _) _ _ _
  exact wpAny_bind (wpAny_pyIter_list hl (wpAny_pure ⟨_, rfl, hQ⟩))

theorem kk_free (w : World) : ((hd.heap_39 w.params).all fun p => p.2.cls != .ref 75) = true := by kernel_rfl
theorem mem_of_lookupN {α : Type} : ∀ {l : List (Nat × α)} {n : Nat} {c : α}, l.lookup n = some c → (n, c) ∈ l
  | (k, v) :: r, n, c, h => by
    rw [List.lookup_cons] at h
    cases hb : n == k with
    | true => rw [hb] at h; cases h; rw [beq_iff_eq.mp hb]; exact List.mem_cons_self
    | false => rw [hb] at h; exact List.mem_cons_of_mem _ (mem_of_lookupN h)
theorem ff_not_K {c dx : Addr} {sl : Array (Option Value)} (e : (hd.heap_39 w.params).lookup c = some (ffObj dx sl)) : False := by
  have := List.all_eq_true.mp (kk_free w) _ (mem_of_lookupN e)
  revert this
  show (Value.ref 75 != Value.ref 75) = true → False
  decide
/-- filterfalse.__init__ -/
theorem ff_init {x dx l : Addr} {od : Obj} {f : Value} {items : Array Value} {R : Result → Shared → Prop} (a : At w mean mg mb bs A s.heap) (hroom : A.depth < recursionLimit) (hx : s.heap.get? x = some (ffObj dx #[])) (hdx : s.heap.get? dx = some od) (hxd : x ≠ dx)
    (hl : s.heap.IsList l items)
    (h : ∀ h' tk' I, ExtB A x s.heap h' → s.heap.get? I = none → I ≠ x → h'.IsListIter I l 0 → h'.get? x = some (ffObj dx #[some f, some (.ref I)]) → R (.ok (.ret .none)) { s with heap := h', toks := tk' }) :
    codeAny (model prog w) A (.call (.ref 57) ⟨[.ref x, f, .ref l], []⟩) R s := by
  have hgs : (s.heap.hide x).objs.size = s.heap.objs.size := Heap.hide_size _ _
  refine enterC (binds := [(Str.ofString "self", .ref x), (Str.ofString "function", f), (Str.ofString "iterable", .ref l)]) a hroom (s.heap.hide x) (Ext.of fun b o e => Heap.of_hide e) hgs (by k_is) (by k_is) (BindsTo.of_eq rfl) (kindsX rfl) rfl rfl rfl ?_
  intro L h₁ tk hL ex F B
  have hx₁ := ex _ _ hx
  have hdx₁ := ex _ _ hdx
  have hl₁ : h₁.IsList l items := hl.at fun o e => ex _ _ e
  refine wpAny_execs_cons (plainObj_wpAny_Assign_Attribute ?_)
  refine wpAny_Call_ofName (nmB B (by k_is) boot_iter (by decide) (callWith_builtin1 (spliced_more (nmL F.ns rfl (spliced_none ?_)))))
  refine iter_list hl₁ ?_
  refine nmL (F.ns.push _) rfl ?_
  generalize hI : h₁.objs.size = I
  have p₁ : ∀ b o, h₁.get? b = some o → (h₁.push { cls := .type "list_iterator", data := .fields #[.ref l, .int 0 0] }).get? b = some o := fun b o e => Heap.get?_push_of_some _ e
  have hI₂ : (h₁.push { cls := .type "list_iterator", data := .fields #[.ref l, .int 0 0] }).IsListIter I l 0 := ⟨_, hI ▸ Heap.get?_push_size _ rfl, rfl, rfl⟩
  have B₂ := B.ext (Ext.of p₁)
  generalize h₁.push { cls := .type "list_iterator", data := .fields #[.ref l, .int 0 0] } = h₂ at *
  have hxI : I ≠ x := fun q => by have := Heap.lt_size hx₁; rw [hI, q] at this; exact Nat.lt_irrefl _ this
  have hLx : L ≠ x := fun q => by have := Heap.lt_size hx; rw [← hL, q] at this; exact Nat.lt_irrefl _ this
  refine set_ff B₂.kin (ff_inst (p₁ _ _ hx₁) (p₁ _ _ hdx₁)) (by k_is) (by k_is) (by k_is) (by k_is) (by k_is) (by decide) (ox' := ffObj dx #[none, some (.ref I)]) rfl rfl fun h₃ hs₃ hx₃ => ?_
  have hI₃ : h₃.IsListIter I l 0 := hI₂.extBut hs₃.extBut hxI
  have hdx₃ := hs₃.extBut _ _ (Ne.symm hxd) (p₁ _ _ hdx₁)
  have n₃ : h₃.Ns L _ := (F.ns.at fun o e => p₁ _ _ e).sameBut hs₃ hLx
  have B₃ : KIn w h₃ := fun c o e => hs₃.extBut c o (fun q => by
    have e1 := B₂.kin c o e
    rw [q, p₁ _ _ hx₁] at e1
    cases e1
    exact ff_not_K e) (B₂.kin c o e)
  dsimp only
  refine wpAny_execs_cons (plainObj_wpAny_Assign_Attribute ?_)
  refine nmL n₃ rfl (nmL n₃ rfl ?_)
  refine set_ff B₃ (ff_inst hx₃ hdx₃) (by k_is) (by k_is) (by k_is) (by k_is) (by k_is) (by decide) (ox' := ffObj dx #[some f, some (.ref I)]) rfl rfl fun h₄ hs₄ hx₄ => ?_
  refine wpAny_execs_nil ?_
  refine h h₄ _ I (ExtB.of fun b o hb e => hs₄.extBut b o hb (hs₃.extBut b o hb (p₁ _ _ (ex _ _ e)))) ?_ hxI (hI₃.extBut hs₄.extBut hxI) hx₄
  cases q : s.heap.get? I with
  | none => rfl
  | some o => have := Heap.lt_size (ex _ _ q); rw [hI] at this; exact absurd this (Nat.lt_irrefl _)
end
end Mine
end

-- part N4
section
open PySem PySem.W PyProof.Rows PySem.Calls PySem.Spec Builtin Builtin.ObjectAttr Builtin.Getset_descriptor
set_option maxRecDepth 100000
set_option maxHeartbeats 8000000
namespace Mine
theorem fill4 : (PySem.Challenge.rw_il0044_01, hd.heap_39) = (PySem.Challenge.rw_il0044_01, hd.heap_39) := by
  k_fill
  rfl
section
variable {w : World} {mean : ExcName → Option Value} {mg mb : Str → Option Value} {bs : Heap}
variable {prog : Program} {A : Around} {E : Value → Shared → Prop} {s : Shared}

theorem At.making {h : Heap} (a : At w mean mg mb bs A h) (C : Addr) (vs : List Value) : At w mean mg mb bs (A.under (.builtin "type.__call__" ⟨.ref C :: vs, []⟩)) h := ⟨a.stay, a.kin0, a.top0, a.hand, a.fr⟩

theorem ff_make {l : Addr} {f : Value} {items : Array Value} {Q : Value → Shared → Prop} (a : At w mean mg mb bs A s.heap) (hroom : A.depth + 1 < recursionLimit) (hl : s.heap.IsList l items)
    (h : ∀ h' tk' x dx I, Ext A s.heap h' → s.heap.get? x = none → s.heap.get? dx = none → s.heap.get? I = none → I ≠ x → dx ≠ x → h'.get? x = some (ffObj dx #[some f, some (.ref I)]) → h'.get? dx = some emptyDict → h'.IsListIter I l 0 → Q (.ref x) { s with heap := h', toks := tk' }) :
    wpAny (model prog w) A (call (.ref 75) [f, .ref l]) Q E s := by
  obtain ⟨hp, g, d, t, os⟩ := s
  have X := a.kin
  have k : ∀ b o, hp.get? b = some o → ((hp.push emptyDict).push (instObj 75 hp.objs.size)).get? b = some o := fun b o e => Heap.get?_push_of_some _ (Heap.get?_push_of_some _ e)
  refine wpAny_call (make_core (makes_of X (by k_is)) (looks_findIn X (by k_is)) (fun self => bind_fn (f := 57) X self (by k_is)) (.inl rfl) ?_)
  have hx : ((hp.push emptyDict).push (instObj 75 hp.objs.size)).get? (hp.objs.size + 1) = some (ffObj hp.objs.size #[]) := by heap_get
  have hdx : ((hp.push emptyDict).push (instObj 75 hp.objs.size)).get? hp.objs.size = some emptyDict := by heap_get
  refine ff_init (s := ⟨(hp.push emptyDict).push (instObj 75 hp.objs.size), g, d, t, os⟩) ((a.ext (Ext.of k)).making 75 [f, .ref l]) hroom hx hdx (Nat.succ_ne_self _) (hl.at fun o e => k _ _ e) ?_
  intro h' tk' I hb hI hIx hit hx'
  have hx0 : hp.get? (hp.objs.size + 1) = none := Heap.get?_none_of_le (Nat.le_succ _)
  refine ⟨rfl, h h' tk' _ hp.objs.size I ?_ hx0 (Heap.get?_none_of_le (Nat.le_refl _)) ?_ hIx (Ne.symm (Nat.succ_ne_self _)) hx' ?_ hit⟩
  · intro b o e
    exact hb b o (fun q => by rw [q] at e; exact absurd (e.symm.trans hx0) (by simp)) (k b o e)
  · cases q : hp.get? I with
    | none => rfl
    | some o => exact absurd ((k _ _ q).symm.trans hI) (by simp)
  · rcases hb hp.objs.size _ (Ne.symm (Nat.succ_ne_self _)) hdx with e | ⟨f1, _⟩
    · exact e
    · exact absurd f1 (a.fresh (Heap.get?_none_of_le (Nat.le_refl _)))
end
end Mine
end

-- part N5
section
open PySem PySem.W PyProof.Rows PySem.Calls PySem.Spec Builtin Builtin.ObjectAttr Builtin.Getset_descriptor
set_option maxRecDepth 100000
set_option maxHeartbeats 8000000
namespace Mine
theorem fill5 : (PySem.Challenge.rw_il0044_01, hd.heap_39) = (PySem.Challenge.rw_il0044_01, hd.heap_39) := by
  k_fill
  rfl

mutual
def nodict : PyData → Bool
  | .dict _ => false
  | .list xs => nodictAll xs
  | .tuple xs => nodictAll xs
  | .none => true
  | .bool _ => true
  | .int _ => true
  | .str _ => true
def nodictAll : List PyData → Bool
  | [] => true
  | x :: r => nodict x && nodictAll r
end
mutual
theorem reads_sq {h h' : Heap} (hk : ∀ b o, IsSq o → h.get? b = some o → h'.get? b = some o) : ∀ {v : Value} {d : PyData} {as : List Addr}, nodict d = true → Reads h v d as → Reads h' v d as
  | _, _, _, _, .none => .none
  | _, _, _, _, .bool b => .bool b
  | _, _, _, _, .int i t => .int i t
  | _, _, _, _, .str x t => .str x t
  | _, _, _, nd, .list h1 h2 h3 h4 => .list (hk _ _ ⟨_, _, h3⟩ h1) h2 h3 (readsAll_sq hk (by simpa [nodict] using nd) h4)
  | _, _, _, nd, .tuple h1 h2 h3 h4 => .tuple (hk _ _ ⟨_, _, h3⟩ h1) h2 h3 (readsAll_sq hk (by simpa [nodict] using nd) h4)
  | _, _, _, nd, .dict _ _ _ _ _ => by simp [nodict] at nd
theorem readsAll_sq {h h' : Heap} (hk : ∀ b o, IsSq o → h.get? b = some o → h'.get? b = some o) : ∀ {vs : List Value} {ds : List PyData} {as : List Addr}, nodictAll ds = true → ReadsAll h vs ds as → ReadsAll h' vs ds as
  | _, _, _, _, .nil => .nil
  | _, _, _, nd, .cons h1 h2 => .cons (reads_sq hk (by simp only [nodictAll, Bool.and_eq_true] at nd; exact nd.1) h1) (readsAll_sq hk (by simp only [nodictAll, Bool.and_eq_true] at nd; exact nd.2) h2)
end
/-- v is read as the datum d -/
def Rd (h : Heap) (v : Value) (d : PyData) : Prop := ∃ as, Reads h v d as
theorem Rd.sq {h h' : Heap} {v : Value} {d : PyData} (r : Rd h v d) (nd : nodict d = true) (hk : ∀ b o, IsSq o → h.get? b = some o → h'.get? b = some o) : Rd h' v d := let ⟨as, q⟩ := r; ⟨as, reads_sq hk nd q⟩
theorem Rd.ext {A : Around} {h h' : Heap} {v : Value} {d : PyData} (r : Rd h v d) (nd : nodict d = true) (x : Ext A h h') : Rd h' v d := r.sq nd fun _ _ ho e => x.nd e (sq_nd ho)

section
variable {prog : Program} {w : World} {A : Around} {E : Value → Shared → Prop} {s : Shared} {env : Env}
theorem callWith_wrap0 {pos : Pos} {u k : Addr} {args : List (Bool × Sem Value)} {Q : Value → Shared → Prop} (hplain : args.any (·.1) = false)
    (h : wpAny (model prog w) A (evalArgs (.ref u) true args []) (fun x s₁ => s₁.heap.get? u = some (wrapObj k) ∧ wpAny (model prog w) A (call (.ref u) ([] ++ x.pos) x.kw) Q E s₁) E s) :
    wpAny (model prog w) A (callWith pos (.ref u) [] args []) Q E s := by
  unfold callWith
  refine wpAny_bind (wpAny_holding (wpAny_mono h (fun x s₁ h₁ => wpAny_bind (wpAny_standAt ?_)) fun _ _ x => x))
  obtain ⟨ho, hcall⟩ := h₁
  simp only [hplain, List.any_nil, Bool.or_false]
  refine wpAny_bind (m := keeperOf (.ref u)) ?_
  unfold keeperOf
  refine wpAny_bind (wpAny_load ho ?_)
  simp only [show (Value.type "method-wrapper" != Value.type "method") = true by decide, show (Value.type "method-wrapper" == Value.type "builtin_function_or_method" || Value.type "method-wrapper" == Value.type "method-wrapper") = true by decide, if_true]
  refine wpAny_pure ?_
  exact wpAny_bind (wpAny_mono hcall (fun r s₂ hr => wpAny_bind (wpAny_holding (wpAny_point (wpAny_pure hr)))) fun _ _ x => x)
theorem callWith_wrap {pos : Pos} {u k : Addr} {e : Expr} {rest : List Expr} {Q : Value → Shared → Prop}
    (h : wpAny (model prog w) A (spliced (backTo pos (starEach (e :: rest) env))) (fun vs s₁ => s₁.heap.get? u = some (wrapObj k) ∧ wpAny (model prog w) A (call (.ref u) vs) Q E s₁) E s)
    (he : starEach (e :: rest) env = (false, eval e env) :: starEach rest env := by rfl) (hplain : (backTo pos (starEach rest env)).any (·.1) = false := by rfl) :
    wpAny (model prog w) A (callWith pos (.ref u) [] (backTo pos (starEach (e :: rest) env)) []) Q E s := by
  rw [he] at h ⊢
  refine callWith_wrap0 (k := k) (by show (false || (backTo pos (starEach rest env)).any (·.1)) = false; rw [hplain]; rfl) ?_
  exact evalArgs_plain h
end

section
variable {w : World} {mean : ExcName → Option Value} {mg mb : Str → Option Value} {bs : Heap}
variable {prog : Program} {A : Around} {E : Value → Shared → Prop} {s : Shared}

structure FfC (h : Heap) (x dx b I l k : Addr) (items : List Value) (ds : List PyData) (ks : List Value) (xs : List PyData) : Prop where
  hx : h.get? x = some (ffObj dx #[some (.ref b), some (.ref I)])
  hdx : h.get? dx = some emptyDict
  hb : h.get? b = some (wrapObj k)
  ls : LstAt h l items
  sk : LstAt h k ks
  rk : ∃ as, ReadsAll h ks xs as
  ri : Al (Rd h) items ds
  ndx : nodictAll xs = true
  ndi : ∀ d ∈ ds, nodict d = true
  lay : PyData.canLayAll0 xs = true
  layi : ∀ d ∈ ds, d.canLay0 = true
  dep : ∀ d ∈ ds, d.depth ≤ 8

theorem al_mem {α β : Type} {R R' : α → β → Prop} {l : List α} {k : List β} (x : Al R l k) (f : ∀ a b, b ∈ k → R a b → R' a b) : Al R' l k := by
  induction x with
  | nil => exact .nil
  | cons h _ ih => exact .cons (f _ _ (.head _) h) (ih fun a b hb => f a b (.tail _ hb))
theorem FfC.map {h h' : Heap} {x dx b I l k : Addr} {items : List Value} {ds : List PyData} {ks : List Value} {xs : List PyData} (c : FfC h x dx b I l k items ds ks xs)
    (nd : ∀ a o, a ≠ I → (∀ es n, o.data ≠ .dict es n) → h.get? a = some o → h'.get? a = some o) (sq : ∀ a o, IsSq o → h.get? a = some o → h'.get? a = some o) (hdx : h'.get? dx = some emptyDict)
    (hxI : x ≠ I) (hbI : b ≠ I) : FfC h' x dx b I l k items ds ks xs :=
  ⟨nd _ _ hxI (fun _ _ q => by cases q) c.hx, hdx, nd _ _ hbI (fun _ _ q => by cases q) c.hb, c.ls.keeps fun o e => by
      obtain ⟨n, e2⟩ := c.ls
      rw [e] at e2; cases e2
      exact sq _ _ ⟨_, _, rfl⟩ e, c.sk.keeps fun o e => by
      obtain ⟨n, e2⟩ := c.sk
      rw [e] at e2; cases e2
      exact sq _ _ ⟨_, _, rfl⟩ e,
    let ⟨as, r⟩ := c.rk; ⟨as, readsAll_sq sq c.ndx r⟩, al_mem c.ri fun _ d hd r => r.sq (c.ndi d hd) sq, c.ndx, c.ndi, c.lay, c.layi, c.dep⟩

def keptD (xs : List PyData) (d : PyData) : Bool := !(xs.any fun y => PyData.eqv y d)

end
end Mine
end

-- part N6
section
open PySem PySem.W PyProof.Rows PySem.Calls PySem.Spec Builtin Builtin.ObjectAttr Builtin.Getset_descriptor
set_option maxRecDepth 100000
set_option maxHeartbeats 8000000
namespace Mine
theorem fill6 : (PySem.Challenge.rw_il0044_01, hd.heap_39) = (PySem.Challenge.rw_il0044_01, hd.heap_39) := by
  k_fill
  rfl
theorem al_get {α β : Type} {R : α → β → Prop} {l : List α} {k : List β} (x : Al R l k) : ∀ (j : Nat) (a : α), l[j]? = some a → ∃ b, k[j]? = some b ∧ R a b := by
  induction x with
  | nil => intro j a h; cases h
  | cons h _ ih =>
    intro j a hj
    cases j with
    | zero => simp at hj ⊢; subst hj; exact h
    | succ j => simpa using ih j a (by simpa using hj)
theorem iter_fields {h : Heap} {I l : Addr} {i : Nat} {o : Obj} (x : h.IsListIter I l i) (e : h.get? I = some o) : ∃ vs, o.data = .fields vs := by
  obtain ⟨o', e', _, hd⟩ := x
  rw [e] at e'; cases e'; exact ⟨_, hd⟩
section
variable {w : World} {mean : ExcName → Option Value} {mg mb : Str → Option Value} {bs : Heap}
variable {prog : Program} {A : Around} {E : Value → Shared → Prop} {s : Shared}

theorem ff_next {x dx b I l k i : Nat} {items : List Value} {ds : List PyData} {ks : List Value} {xs : List PyData} {Q : Value → Shared → Prop}
    (a : At w mean mg mb bs A s.heap) (hroom : A.depth < recursionLimit) (hu : A.units + 40 < cLine) (c : FfC s.heap x dx b I l k items ds ks xs) (it : s.heap.IsListIter I l i) (hi : i ≤ items.length)
    (hxI : x ≠ I) (hbI : b ≠ I) (hdxI : dx ≠ I) (hdf : dx ∉ frs A) (hIb : bs.get? I = none) (hIf : I ∉ frs A)
    (hQ : ∀ h' tk' j v d, i ≤ j → items[j]? = some v → ds[j]? = some d → keptD xs d = true → (∀ j' d', i ≤ j' → j' < j → ds[j']? = some d' → keptD xs d' = false) → ExtB A I s.heap h' → h'.IsListIter I l (j + 1) → Q v { s with heap := h', toks := tk' })
    (hE : (∀ j' d', i ≤ j' → ds[j']? = some d' → keptD xs d' = false) → ∀ h' tk' e T tb, ExtB A I s.heap h' → s.heap.get? e = none → h'.get? e = some (excObj T tb) → E (.ref e) { s with heap := h', toks := tk' }) :
    wpAny (model prog w) A (call (.ref 71) [.ref x]) Q E s := by
  have hgs : (s.heap.hide I).objs.size = s.heap.objs.size := Heap.hide_size _ _
  have hIo : ∃ o, s.heap.get? I = some o ∧ ∃ vs, o.data = .fields vs := by obtain ⟨o, e, _, hd⟩ := id it; exact ⟨o, e, _, hd⟩
  have sqI : ∀ a o, IsSq o → s.heap.get? a = some o → a ≠ I := fun a o ho e q => by
    obtain ⟨o', e', hf⟩ := hIo
    rw [q, e'] at e; cases e
    exact fields_not_sq hf ho
  have cg : FfC (s.heap.hide I) x dx b I l k items ds ks xs :=
    c.map (fun a o n _ e => (Heap.hide_ne s.heap n).trans e) (fun a o ho e => (Heap.hide_ne s.heap (sqI a o ho e)).trans e) ((Heap.hide_ne s.heap hdxI).trans c.hdx) hxI hbI
  have ch : ∀ h, Ext A (s.heap.hide I) h → FfC h x dx b I l k items ds ks xs := fun h e =>
    cg.map (fun a o _ nd q => e.nd q nd) (fun a o ho q => e.nd q (sq_nd ho)) (e.off cg.hdx hdf) hxI hbI
  have hIB : ∀ h, Ext A (s.heap.hide I) h → ExtB A I s.heap h := fun h e b o hb q => e b o ((Heap.hide_ne s.heap hb).trans q)
  refine enterG (binds := [(Str.ofString "self", .ref x)]) a hroom (s.heap.hide I) (Ext.of fun b o e => Heap.of_hide e) hgs (by k_is) (by k_is) (BindsTo.of_eq rfl) (kindsX rfl) rfl rfl rfl ?_
  intro L h₁ tk hL ex F B
  have hLI : L ≠ I := fun q => by obtain ⟨o, e, _⟩ := hIo; have := Heap.lt_size e; rw [← q, ← hL] at this; exact Nat.lt_irrefl _ this
  have hIf' : ∀ sc : Scope, I ∉ frs (A.deeper (envOfC (Str.ofString "filterfalse.__next__") sc L 71 (Value.ref 70))) := fun sc q => (frs_deeper rfl q).elim (fun q => hLI q.symm) hIf
  have c₁ := ch _ F.keep
  refine wpAny_execs_cons (wpAny_Assign_Name (Attribute_name (nmL F.ns rfl (get_ff B.kin (ff_inst c₁.hx c₁.hdx) (by k_is) (by k_is) (by k_is) (by k_is) (by k_is) (by k_is) (v := .ref b) rfl rfl ?_))))
  refine F.stL B fun h₂ tk₂ hs₂ _ F₂ B₂ => ?_
  dsimp only
  refine wpAny_execs_cons (wpAny_While ?_)
  have it₂ : h₂.IsListIter I l i := (it.at fun o e => ex _ _ e).extBut hs₂.extBut (Ne.symm hLI)
  refine codeAny_whileLoop (fun n s' => ∃ j h tk m, s' = { s with heap := h, toks := tk } ∧ i ≤ j ∧ j ≤ items.length ∧ n = items.length - j ∧ (∀ j' d', i ≤ j' → j' < j → ds[j']? = some d' → keptD xs d' = false) ∧ h.IsListIter I l j ∧
      FS bs A (s.heap.hide I) L _ h m _ ∧ m (Str.ofString "func") = some (.ref b) ∧ m (Str.ofString "self") = some (.ref x) ∧ At w mean mg mb bs (A.deeper (envOfC (Str.ofString "filterfalse.__next__") _ L 71 (Value.ref 70))) h) ?_ (items.length - i)
    ⟨i, h₂, tk₂, _, rfl, Nat.le_refl _, hi, rfl, fun j' d' h1 h2 => absurd h1 (Nat.not_le.mpr h2), it₂, F₂, rfl, rfl, B₂⟩
  rintro n s' ⟨j, h, tk', m, rfl, hij, hj, rfl, hno, itj, F₃, hfn, hself, B₃⟩
  refine wpAny_passesOwn PassesOwn.leaving (isTrue_plain (wpAny_Constant_bool (wpAny_truthy_bool ?_)))
  simp only [if_true]
  refine wpAny_passesOwn PassesOwn.leaving ?_
  have c₃ := ch _ F₃.keep
  refine wpAny_execs_cons (wpAny_Assign_Name (wpAny_Call_ofName (nmB B₃ (by k_is) boot_next (by decide) (callWith_builtin1 (spliced_more (Attribute_name (nmL F₃.ns hself (get_ff B₃.kin (ff_inst c₃.hx c₃.hdx) (by k_is) (by k_is) (by k_is) (by k_is) (by k_is) (by k_is) (v := .ref I) rfl rfl (spliced_none ?_)))))))))
  dsimp only
  have hIL : ∀ h n cc, Heap.IsListIter h I l n → ∀ v, h.IsCell cc v → cc ≠ I := fun h n cc y v x q => by
    obtain ⟨o, e, hd⟩ := x
    obtain ⟨vs, hv⟩ := iter_fields y (q ▸ e)
    rw [hd] at hv; cases hv
  by_cases hlt : j < items.length
  · obtain ⟨v, hv⟩ : ∃ v, items[j]? = some v := ⟨items[j], by simp [hlt]⟩
    refine next_item itj (by obtain ⟨q, e⟩ := c₃.ls; exact ⟨_, e, rfl, q, rfl⟩) (by simpa using hv) fun h₄ it₄ hs₄ => ?_
    have B₄ := B₃.but hs₄ hIb fun q => absurd q (hIf' _)
    have F₄ : FS bs A (s.heap.hide I) L _ h₄ m _ := ⟨F₃.ns.sameBut hs₄ hLI, fun b o e => by
        have hb : b ≠ I := fun q => by rw [q, show (s.heap.hide I).get? I = none from hideAll_none [I] (.head _)] at e; cases e
        rcases F₃.keep b o e with e1 | ⟨f1, d1, sl, e1⟩
        · exact .inl (hs₄.extBut b o hb e1)
        · exact .inr ⟨f1, d1, sl, hs₄.extBut b _ hb e1⟩, F₃.above, F₃.low, ⟨fun n cc q => (F₃.cl.cell n cc q).sameBut hs₄ (hIL h j cc itj _ (F₃.cl.cell n cc q)), F₃.cl.apart, F₃.cl.above⟩⟩
    refine F₄.stL B₄ fun h₅ tk₅ hs₅ _ F₅ B₅ => ?_
    have it₅ : h₅.IsListIter I l (j + 1) := it₄.extBut hs₅.extBut (Ne.symm hLI)
    have c₅ := ch _ F₅.keep
    dsimp only
    refine wpAny_execs_cons (wpAny_If ?_)
    refine isTrue_or (wpAny_isTrue_Compare1 (nmL F₅.ns hfn (wpAny_Constant_none (is_none_ne (by simp) (wpAny_truthy_bool ?_)))))
    simp only [Bool.false_eq_true, if_false]
    refine isTrue_or (wpAny_isTrue_Compare1 (nmL F₅.ns hfn (nmB B₅ (by k_is) boot_bool (by decide) (wpAny_is_plain rfl (wpAny_truthy_bool ?_)))))
    rw [show (Value.ref b == Value.type "bool") = false from rfl]
    simp only [Bool.false_eq_true, if_false]
    refine isTrue_or_nil ?_
    simp only [Bool.false_eq_true, if_false]
    obtain ⟨d, hd, rv⟩ := al_get c₅.ri j v hv
    have hdm : d ∈ ds := List.mem_of_getElem? hd
    refine wpAny_execs_cons (wpAny_If (isTrue_not (isTrue_plain (wpAny_Call_NameR (nmL F₅.ns hfn (callWith_wrap (k := k) (spliced_more (nmL F₅.ns rfl (spliced_none ⟨c₅.hb, ?_⟩)))))))))
    obtain ⟨qk, ek⟩ := c₅.sk
    obtain ⟨as, rk⟩ := c₅.rk
    obtain ⟨bs', rv⟩ := rv
    refine wrap_call c₅.hb ek (by simpa using rk) rv c₅.lay (c₅.layi d hdm) ?_ (wpAny_truthy_bool ?_)
    · have h1 := c₅.dep d hdm
      have h2 := Nat.min_le_right (PyData.depthAll xs) d.depth
      show A.units + 3 + 1 + _ < cLine
      omega
    · have hkd : keptD xs d = !(xs.any fun y => PyData.eqv y d) := rfl
      rw [← hkd]
      cases hk : keptD xs d with
      | false =>
        simp only [Bool.false_eq_true, if_false]
        refine wpAny_execs_nil ?_
        dsimp only
        refine wpAny_execs_nil ?_
        dsimp only
        refine wpAny_execs_nil ?_
        dsimp only
        refine ⟨items.length - (j + 1), by omega, j + 1, h₅, tk₅, _, rfl, by omega, hlt, rfl, ?_, it₅, F₅, hfn, hself, B₅⟩
        intro j' d' h1 h2 h3
        by_cases q : j' = j
        · subst q; rw [hd] at h3; cases h3; exact hk
        · exact hno j' d' h1 (by omega) h3
      | true =>
        simp only [if_true]
        refine wpAny_execs_cons (wpAny_Return_some (nmL F₅.ns rfl ?_))
        exact hQ h₅ tk₅ j v d hij hv hd hk hno (hIB _ F₅.keep) it₅
  · have hje : j = items.length := by omega
    have hlen := c.ri.length
    refine next_end B₃.hand itj (by obtain ⟨q, e⟩ := c₃.ls; exact ⟨_, e, rfl, q, rfl⟩) (by simp [hje]) fun h₄ e T he he₄ hk₄ => ?_
    have B₄ : At w mean mg mb bs _ h₄ := B₃.extB (I := I) (ExtB.of hk₄) (.inr ⟨hIb, hIf' _⟩)
    obtain ⟨env, outer, hA, _⟩ := a.fr
    refine leave_new B₄ (by show A.frames.map _ = _; rw [hA]; rfl) rfl he₄ fun h₅ tb hx₅ he₅ => ?_
    have he0 : s.heap.get? e = none := by
      cases q : s.heap.get? e with
      | none => rfl
      | some o =>
        exfalso
        by_cases qI : e = I
        · obtain ⟨oI, eI, _⟩ := itj
          have := Heap.lt_size eI
          rw [qI] at he
          exact absurd he (Nat.not_le.mpr this)
        · rcases hIB _ F₃.keep e o qI q with e1 | ⟨_, _, sl, e1⟩
          · exact absurd he (Nat.not_le.mpr (Heap.lt_size e1))
          · exact absurd he (Nat.not_le.mpr (Heap.lt_size e1))
    refine hE ?_ h₅ _ e T tb ?_ he0 he₅
    · intro j' d' h1 h2
      exact hno j' d' h1 (by rw [hje, hlen]; exact (List.getElem?_eq_some_iff.mp h2).1) h2
    · intro b' o hb' q
      have hbe : b' ≠ e := fun z => by rw [z, he0] at q; cases q
      have hbL : b' ≠ L := fun z => by have := Heap.lt_size q; rw [z, hL] at this; exact Nat.lt_irrefl _ this
      have key : ∀ o', h₄.get? b' = some o' → h₅.get? b' = some o' ∨ (b' ∈ frs A ∧ (∃ es n, o'.data = .dict es n) ∧ ∃ sl, h₅.get? b' = some { o' with slots := sl }) := fun o' z => by
        rcases hx₅ b' o' hbe z with e1 | ⟨f1, r⟩
        · exact .inl e1
        · exact .inr ⟨(frs_deeper rfl f1).resolve_left hbL, r⟩
      rcases hIB _ F₃.keep b' o hb' q with e1 | ⟨f1, ⟨es, n, d1⟩, sl, e1⟩
      · exact key o (hk₄ b' o hb' e1)
      · rcases key _ (hk₄ b' _ hb' e1) with e2 | ⟨_, _, sl2, e2⟩
        · exact .inr ⟨f1, ⟨es, n, d1⟩, sl, e2⟩
        · exact .inr ⟨f1, ⟨es, n, d1⟩, sl2, e2⟩
end
end Mine
end

-- part N7
section
open PySem PySem.W PyProof.Rows PySem.Calls PySem.Spec Builtin Builtin.ObjectAttr Builtin.Getset_descriptor
set_option maxRecDepth 100000
set_option maxHeartbeats 8000000
namespace Mine
theorem fill7 : (PySem.Challenge.rw_il0044_01, hd.heap_39) = (PySem.Challenge.rw_il0044_01, hd.heap_39) := by
  k_fill
  rfl
theorem take_filter {α : Type} {p : α → Bool} {l : List α} {i : Nat} : ∀ {k : Nat}, (∀ j d, i ≤ j → j < i + k → l[j]? = some d → p d = false) → (l.take (i + k)).filter p = (l.take i).filter p
  | 0, _ => rfl
  | k + 1, h => by
    rw [← Nat.add_assoc, List.take_add_one, List.filter_append, take_filter fun j d h1 h2 h3 => h j d h1 (by omega) h3]
    cases q : l[i + k]? with
    | none => simp
    | some d => simp [h (i + k) d (by omega) (by omega) q]
theorem take_filter_next {α : Type} {p : α → Bool} {l : List α} {i j : Nat} {d : α} (hij : i ≤ j) (h : ∀ j' d, i ≤ j' → j' < j → l[j']? = some d → p d = false) (hd : l[j]? = some d) (hp : p d = true) :
    (l.take (j + 1)).filter p = (l.take i).filter p ++ [d] := by
  obtain ⟨k, rfl⟩ := Nat.le.dest hij
  rw [List.take_add_one, List.filter_append, take_filter fun j d h1 h2 h3 => h j d h1 h2 h3, hd]
  simp [hp]
theorem take_filter_end {α : Type} {p : α → Bool} {l : List α} {i : Nat} (h : ∀ j' d, i ≤ j' → l[j']? = some d → p d = false) : l.filter p = (l.take i).filter p := by
  by_cases q : i ≤ l.length
  · obtain ⟨k, e⟩ := Nat.le.dest q
    have := take_filter (p := p) (l := l) (i := i) (k := k) fun j d h1 _ h3 => h j d h1 h3
    rw [e, List.take_length] at this
    exact this
  · rw [List.take_of_length_le (by omega)]
theorem al_len_le {α β : Type} {R : α → β → Prop} {l : List α} {k : List β} (x : Al R l k) : l.length = k.length := x.length
section
variable {w : World} {mean : ExcName → Option Value} {mg mb : Str → Option Value} {bs : Heap}
variable {prog : Program} {A : Around} {E : Value → Shared → Prop} {s : Shared}

theorem ff_iter {x dx : Addr} {sl : Array (Option Value)} {od : Obj} {Q : Value → Shared → Prop} (a : At w mean mg mb bs A s.heap) (hroom : A.depth < recursionLimit) (hx : s.heap.get? x = some (ffObj dx sl)) (hdx : s.heap.get? dx = some od)
    (hQ : ∀ h' tk', Ext A s.heap h' → Q (.ref x) { s with heap := h', toks := tk' }) : wpAny (model prog w) A (pyIter (.ref x)) Q E s := by
  have X := a.kin
  have I := ff_inst hx hdx
  have hs : findIn (hd.heap_39 w.params) (.ref 75) (Str.ofString "__iter__") = some (some (.ref 64)) := by k_is
  have hn : findIn (hd.heap_39 w.params) (.ref 75) (Str.ofString "__next__") = some (some (.ref 71)) := by k_is
  have hf : typeIn (hd.heap_39 w.params) (.ref 64) = some (.type "function") := by k_is
  have cont : wpAny (model prog w) A (call (.ref 64) [.ref x]) (OwitIt (model prog w) A Q E) E s := by
    refine enter (binds := [(Str.ofString "self", .ref x)]) a hroom (by k_is) (by k_is) (BindsTo.of_eq rfl) (kindsX rfl) rfl rfl rfl ?_
    intro L h₁ tk hL F B
    refine ex_return (R := fun v _ => v = .ref x) ?_ ?_
    · intro Q E hQ
      refine nmL F.ns rfl ?_
      exact hQ _ h₁ _ (Ext.refl _ _) rfl
    · intro v h₂ tk₂ x₂ r
      subst r
      have k := (F.ext rfl x₂).keep
      have e2 := k.nd hx (fun _ _ q => by cases q)
      unfold OwitIt
      have k2 := a.ext k
      have ty : Looks (model prog w) h₂ (typeOf (.ref x)) (.ref 75) := (Looks.ld e2).andThen .now
      exact wpAny_bind (ty.here ((looks_findIn k2.kin hn).here (hQ _ _ k)))
  have fin : wpAny (model prog w) A (call (.ref 64) [.ref x] >>= fun v => pure (some v)) (fun r s' => ∃ v, r = some v ∧ OwitIt (model prog w) A Q E v s') E s :=
    wpAny_bind (wpAny_mono cont (fun v s' h' => wpAny_pure ⟨v, rfl, h'⟩) fun _ _ z => z)
  have one : ∀ refuse : Sem Value, wpAny (model prog w) A (callSpecialIfBoundUnlessNone? (.ref x) "__iter__" refuse) (fun r s' => ∃ v, r = some v ∧ OwitIt (model prog w) A Q E v s') E s := by
    intro refuse
    simp only [callSpecialIfBoundUnlessNone?, bindSpecialIfBound?]
    refine wpAny_holding (wpAny_bind (wpAny_bind (wpAny_bind (I.type.here ((looks_findIn X hs).here ?_)))))
    refine wpAny_bind (wpAny_askSetting (wpAny_ite ?_))
    have fin2 : wpAny (model prog w) A (if (Value.ref 64 == Value.none) = true then (refuse >>= fun v => pure (some v)) else (call (.ref 64) [.ref x] >>= fun v => pure (some v))) (fun r s' => ∃ v, r = some v ∧ OwitIt (model prog w) A Q E v s') E s := by
      rw [if_neg (show ¬ ((Value.ref 64 == Value.none) = true) from Bool.false_ne_true)]
      exact fin
    split
    · exact wpAny_bind ((bind_fn X _ hf).here (wpAny_pure (by exact fin2)))
    · exact wpAny_tryCatch (wpAny_bind ((bind_fn X _ hf).here (wpAny_pure (by exact fin2))))
  unfold pyIter
  refine wpAny_bind (wpAny_bind (I.type.here ((looks_findIn X hs).here ?_)))
  show wpAny _ A (callSpecialIfBoundUnlessNone? (.ref x) "__iter__" _ >>= _) Q E s
  refine wpAny_bind (wpAny_mono (one _) (fun r s' hr => ?_) fun _ _ z => z)
  obtain ⟨v, rfl, hv⟩ := hr
  refine wpAny_bind (wpAny_mono hv (fun r s₂ hr => ?_) fun _ _ z => z)
  cases r with
  | none => exact hr.elim
  | some g => exact wpAny_pure hr

theorem ff_pyNext {x dx b I l k i : Nat} {items : List Value} {ds : List PyData} {ks : List Value} {xs : List PyData} {Q : Option Value → Shared → Prop}
    (a : At w mean mg mb bs A s.heap) (hroom : A.depth < recursionLimit) (hu : A.units + 40 < cLine) (c : FfC s.heap x dx b I l k items ds ks xs) (it : s.heap.IsListIter I l i) (hi : i ≤ items.length)
    (hxI : x ≠ I) (hbI : b ≠ I) (hdxI : dx ≠ I) (hdf : dx ∉ frs A) (hIb : bs.get? I = none) (hIf : I ∉ frs A)
    (hQ : ∀ h' tk' j v d, i ≤ j → items[j]? = some v → ds[j]? = some d → keptD xs d = true → (∀ j' d', i ≤ j' → j' < j → ds[j']? = some d' → keptD xs d' = false) → ExtB A I s.heap h' → h'.IsListIter I l (j + 1) → Q (some v) { s with heap := h', toks := tk' })
    (hE : (∀ j' d', i ≤ j' → ds[j']? = some d' → keptD xs d' = false) → ∀ h' tk', ExtB A I s.heap h' → Q none { s with heap := h', toks := tk' }) :
    wpAny (model prog w) A (pyNext (.ref x)) Q E s := by
  unfold pyNext
  refine wpAny_bind (wpAny_attempt (special_fn (name := "__next__") (args := []) a.kin (ff_inst c.hx c.hdx) (f := 71) (by k_is) (by k_is) ?_))
  refine ff_next a hroom hu c it hi hxI hbI hdxI hdf hIb hIf ?_ ?_
  · intro h' tk' j v d h1 h2 h3 h4 h5 h6 h7
    exact wpAny_pure (hQ h' tk' j v d h1 h2 h3 h4 h5 h6 h7)
  · intro hn h' tk' e T tb hx he0 he
    refine wpAny_bind (wpAny_isInstance (T := "StopIteration") (b := true) ⟨_, he, rfl⟩ isSubtype_stop ?_)
    exact wpAny_pure (hE hn h' tk' hx)
end
end Mine
end

-- part N8
section
open PySem PySem.W PyProof.Rows PySem.Calls PySem.Spec Builtin Builtin.ObjectAttr Builtin.Getset_descriptor
set_option maxRecDepth 100000
set_option maxHeartbeats 8000000
namespace Mine
theorem fill8 : (PySem.Challenge.rw_il0044_01, hd.heap_39) = (PySem.Challenge.rw_il0044_01, hd.heap_39) := by
  k_fill
  rfl
theorem ExtB.sq {A : Around} {I : Addr} {h h' : Heap} (x : ExtB A I h h') (hI : ∀ o, h.get? I = some o → ¬ IsSq o) : ∀ a o, IsSq o → h.get? a = some o → h'.get? a = some o :=
  fun a o ho e => x.nd (fun q => by subst q; exact hI o e ho) e (sq_nd ho)
section
variable {w : World} {mean : ExcName → Option Value} {mg mb : Str → Option Value} {bs : Heap}
variable {prog : Program} {A : Around} {E : Value → Shared → Prop} {s : Shared}

abbrev lstO (acc : Array Value) (c : Nat) : Obj := { cls := .type "list", dict := none, data := .seq acc c, slots := #[] }

theorem ff_loop {S x dx b I l k : Nat} {items : List Value} {ds : List PyData} {ks : List Value} {xs : List PyData} {R : Result → Shared → Prop} {s0 : Shared}
    (hroom : A.depth < recursionLimit) (hu : A.units + 42 < cLine) (a0 : At w mean mg mb bs A s0.heap) (c0 : FfC s0.heap x dx b I l k items ds ks xs) (hii : ∃ i, s0.heap.IsListIter I l i)
    (hxI : x ≠ I) (hbI : b ≠ I) (hdxI : dx ≠ I) (hdf : dx ∉ frs A) (hIb : bs.get? I = none) (hIf : I ∉ frs A) (hS0 : s0.heap.get? S = none) (hsz : items.length < sizeLine)
    (hR : ∀ h' tk' acc c', ExtB A I s0.heap h' → h'.get? S = some (lstO acc c') → Al (Rd s0.heap) acc.toList (ds.filter (keptD xs)) → R (.ok (.ret .none)) { s0 with heap := h', toks := tk' }) :
    ∀ (n j : Nat) (h : Heap) (tk : Nat) (acc : Array Value) (c' : Nat), items.length - j < n → j ≤ items.length → acc.size ≤ j → ExtB A I s0.heap h → h.IsListIter I l j → h.get? S = some (lstO acc c') → Al (Rd s0.heap) acc.toList ((ds.take j).filter (keptD xs)) →
    codeAny (model prog w) A (.builtin "list.extend.loop" ⟨[.ref S, .ref x, .none], []⟩) R { s0 with heap := h, toks := tk } := by
  have hSI : S ≠ I := fun q => by obtain ⟨i, o, e, _⟩ := hii; rw [← q, hS0] at e; cases e
  have hI0 : ∀ o, s0.heap.get? I = some o → ¬ IsSq o := fun o e => fields_not_sq (iter_fields hii.choose_spec e)
  intro n
  induction n with
  | zero => intro j h tk acc c' hn; exact absurd hn (Nat.not_lt_zero _)
  | succ n ih =>
    intro j h tk acc c' hn hj hacc hb it hS hal
    have aj : At w mean mg mb bs A h := a0.extB hb (.inr ⟨hIb, hIf⟩)
    have cj : FfC h x dx b I l k items ds ks xs := c0.map (fun a o ne nd e => hb.nd ne e nd) (hb.sq hI0) (by
      rcases hb dx _ hdxI c0.hdx with e | ⟨f, _⟩
      · exact e
      · exact absurd f hdf) hxI hbI
    refine codeAny_builtin PySem.F.entry_extend_loop ?_
    rw [Around.under_plainId PySem.F.plain_extend_loop _]
    show wpAny _ A.in1 (pyNext (.ref x) >>= _) _ _ _
    refine wpAny_bind (ff_pyNext (s := { s0 with heap := h, toks := tk }) aj.in1 hroom (by show A.units + 1 + 40 < cLine; omega) cj it hj hxI hbI hdxI hdf hIb hIf ?_ ?_)
    · intro h' tk' j' v d hjj hv hd hk hno hb' it'
      have hS' : h'.get? S = some (lstO acc c') := hb'.nd hSI hS (fun _ _ q => by cases q)
      show wpAny _ A.in1 (updateSeq S (·.push v) >>= _) _ _ _
      refine wpAny_bind ?_
      have hlt : j' < items.length := (List.getElem?_eq_some_iff.mp hv).1
      have rv : Rd s0.heap v d := by
        obtain ⟨d', hd', r⟩ := al_get c0.ri j' v hv
        rw [hd] at hd'; cases hd'; exact r
      refine wpAny_updateSeq hS' rfl (wpAny_pure ⟨plainId_quiet PySem.F.plain_extend_loop _, ?_⟩) (by omega) (by show (acc.push v).size ≤ sizeLine + 1; rw [Array.size_push]; omega)
      refine ih (j' + 1) _ _ (acc.push v) _ (by omega) hlt (by rw [Array.size_push]; omega) ?_ ?_ (Heap.get?_update_self _ hS' rfl) ?_
      · intro b' o hbI' e
        have hbS : b' ≠ S := fun q => by rw [q, hS0] at e; cases e
        rcases (hb.trans hb') b' o hbI' e with e1 | ⟨f1, d1, sl, e1⟩
        · exact .inl ((Heap.get?_update_other _ _ (Ne.symm hbS)).trans e1)
        · exact .inr ⟨f1, d1, sl, (Heap.get?_update_other _ _ (Ne.symm hbS)).trans e1⟩
      · exact it'.at fun o e => (Heap.get?_update_other _ _ hSI).trans e
      · rw [take_filter_next hjj hno hd hk, Array.toList_push]
        exact hal.snoc rv
    · intro hno h' tk' hb'
      have hS' : h'.get? S = some (lstO acc c') := hb'.nd hSI hS (fun _ _ q => by cases q)
      exact wpAny_pure (hR h' tk' acc c' (hb.trans hb') hS' (by rw [take_filter_end hno]; exact hal))

theorem ff_hint {x dx : Addr} {sl : Array (Option Value)} {od : Obj} {Q : Bool → Shared → Prop} (X : KIn w s.heap) (hx : s.heap.get? x = some (ffObj dx sl)) (hdx : s.heap.get? dx = some od) (h : Q true s) :
    wpAny (model prog w) A (Builtin.List.listLengthHint (.ref x)) Q E s := by
  have I := ff_inst hx hdx
  unfold Builtin.List.listLengthHint
  refine wpAny_bind (wpAny_bind (I.type.here ((looks_findIn X (r := none) (by k_is)).here ?_)))
  show wpAny _ A (specialOf (Value.ref x) (Str.ofString "__length_hint__") >>= _) _ _ _
  refine wpAny_bind (wpAny_bind (I.type.here ((looks_findIn X (r := none) (by k_is)).here ?_)))
  exact wpAny_pure h

theorem ff_list {x dx b I l k : Nat} {items : List Value} {ds : List PyData} {ks : List Value} {xs : List PyData} {Q : Value → Shared → Prop}
    (a : At w mean mg mb bs A s.heap) (hroom : A.depth < recursionLimit) (hu : A.units + 44 < cLine) (c : FfC s.heap x dx b I l k items ds ks xs) (it : s.heap.IsListIter I l 0)
    (hxI : x ≠ I) (hbI : b ≠ I) (hdxI : dx ≠ I) (hdf : dx ∉ frs A) (hIb : bs.get? I = none) (hIf : I ∉ frs A) (hsz : items.length < sizeLine)
    (hQ : ∀ h' tk' S ys, ExtB A I s.heap h' → s.heap.get? S = none → LstAt h' S ys → Al (Rd s.heap) ys (ds.filter (keptD xs)) → Q (.ref S) { s with heap := h', toks := tk' }) :
    wpAny (model prog w) A (call (.type "list") [.ref x]) Q E s := by
  have hI0 : ∀ o, s.heap.get? I = some o → ¬ IsSq o := fun o e => fields_not_sq (iter_fields it e)
  generalize hSe : s.heap.objs.size = S
  have hS0 : s.heap.get? S = none := Heap.get?_none_of_le (by rw [hSe]; exact Nat.le_refl _)
  have hSI : S ≠ I := fun q => by obtain ⟨o, e, _⟩ := it; rw [← q, hS0] at e; cases e
  have hSx : S ≠ x := fun q => by have e := c.hx; rw [← q, hS0] at e; cases e
  have hSd : S ≠ dx := fun q => by have e := c.hdx; rw [← q, hS0] at e; cases e
  refine callType_codes (Q₁ := fun obj s₁ => obj = .ref s.heap.objs.size ∧ s₁ = { s with heap := s.heap.push { cls := .type "list", data := .seq #[] } }) PySem.F.called_list (PySem.F.typeCall_list_1 _) PySem.F.entry_list_init
    (code_list_new _ ⟨rfl, rfl⟩) fun obj s₁ h₁ => ?_
  obtain ⟨rfl, rfl⟩ := h₁
  rw [hSe]
  have hS : (s.heap.push { cls := .type "list", data := .seq #[] }).get? S = some { cls := .type "list", data := .seq #[] } := hSe ▸ Heap.get?_push_size _ rfl
  have old1 : ∀ b o, s.heap.get? b = some o → (s.heap.push { cls := .type "list", data := .seq #[] }).get? b = some o := fun b o e => Heap.get?_push_of_some _ e
  generalize s.heap.push { cls := .type "list", data := .seq #[] } = h1 at hS old1 ⊢
  refine ⟨⟨_, hS, rfl⟩, PySem.F.args_list_init_2 _ _, ?_⟩
  show wpAny _ A.in1.in1 (do let old ← Builtin.List.listItems (.ref S); Builtin.List.listUpdate (.ref S) (fun _ => #[]); letGo old.toList.reverse; Builtin.List.listExtendWith (.ref S) (.ref x) .none) _ _ _
  refine wpAny_bind ?_
  unfold Builtin.List.listItems
  refine wpAny_bind (wpAny_seqItems hS rfl (wpAny_pure ?_))
  show wpAny _ A.in1.in1 (updateSeq S (fun _ => #[]) >>= fun _ => letGo (#[] : Array Value).toList.reverse >>= fun _ => Builtin.List.listExtendWith (.ref S) (.ref x) .none) _ _ _
  refine wpAny_bind (wpAny_updateSeq hS rfl ?_)
  have hS₂ := Heap.get?_update_self (Obj.mapSeq (fun _ => (#[] : Array Value))) hS rfl
  have old2 : ∀ b o, s.heap.get? b = some o → (h1.update S (Obj.mapSeq (fun _ => (#[] : Array Value)))).get? b = some o :=
    fun b o e => (Heap.get?_update_other _ _ (fun q => by rw [← q, hS0] at e; cases e)).trans (old1 b o e)
  generalize h1.update S (Obj.mapSeq (fun _ => (#[] : Array Value))) = h2 at hS₂ old2 ⊢
  refine wpAny_bind (wpAny_letGo ?_)
  have a2 := a.ext (Ext.of old2)
  unfold Builtin.List.listExtendWith
  have h1' : Builtin.List.listSameRef (.ref S) (.ref x) = false := by simp [Builtin.List.listSameRef, hSx]
  have ty : Looks (model prog w) h2 (typeOf (.ref x)) (.ref 75) := (Looks.ld (old2 _ _ c.hx)).andThen .now
  refine wpAny_bind (ty.here ?_)
  have h2' : (Value.ref 75 == Value.type "list") = false := by decide
  have h3' : (Value.ref 75 == Value.type "tuple") = false := by decide
  simp only [h1', h2', h3', Bool.or_false, Bool.false_eq_true, if_false]
  refine wpAny_bind (ff_iter (A := A.in1.in1) a2.in1.in1 hroom (old2 _ _ c.hx) (old2 _ _ c.hdx) fun h3 tk3 x3 => ?_)
  have old3 : Ext A s.heap h3 := Ext.trans (Ext.of old2) x3
  have a3 : At w mean mg mb bs A h3 := a.ext old3
  have hS₃ := x3.nd hS₂ (fun _ _ q => by cases q)
  refine wpAny_bind (wpAny_holding (ff_hint (A := A.in1.in1) a3.kin (old3.nd c.hx (fun _ _ q => by cases q)) (old3.off c.hdx hdf) ?_))
  simp only [Bool.true_or, if_true]
  refine wpAny_bind (wpAny_rule ?_)
  refine wpAny_bind ?_
  show wpAny _ _ (updateSeq S (·.push .none) >>= fun _ => updateSeq S (·.pop)) _ _ _
  refine wpAny_bind (wpAny_updateSeq hS₃ rfl ?_)
  have hS₄ := Heap.get?_update_self (Obj.mapSeq (·.push Value.none)) hS₃ rfl
  refine wpAny_updateSeq (hz := by seq_fits) hS₄ rfl ?_
  have hS₅ := Heap.get?_update_self (Obj.mapSeq (·.pop)) hS₄ rfl
  have old5 : Ext A s.heap ((h3.update S (Obj.mapSeq (·.push Value.none))).update S (Obj.mapSeq (·.pop))) := fun b o e => by
    have hbS : b ≠ S := fun q => by rw [q, hS0] at e; cases e
    have key : ∀ o', h3.get? b = some o' → ((h3.update S (Obj.mapSeq (·.push Value.none))).update S (Obj.mapSeq (·.pop))).get? b = some o' := fun o' e' =>
      (Heap.get?_update_other _ _ (Ne.symm hbS)).trans ((Heap.get?_update_other _ _ (Ne.symm hbS)).trans e')
    rcases old3 b o e with e1 | ⟨f1, d1, sl, e1⟩
    · exact .inl (key o e1)
    · exact .inr ⟨f1, d1, sl, key _ e1⟩
  have it5 : ((h3.update S (Obj.mapSeq (·.push Value.none))).update S (Obj.mapSeq (·.pop))).IsListIter I l 0 := it.at fun o e => old5.nd e (fun es n q => by
    obtain ⟨vs, hv⟩ := iter_fields it e
    rw [hv] at q; cases q)
  refine wpAny_pure ⟨plainId_quiet PySem.F.plain_extend_loop _, ?_⟩
  refine ff_loop (A := A.in1) (s0 := s) hroom (by show A.units + 1 + 42 < cLine; omega) a.in1 c ⟨0, it⟩ hxI hbI hdxI hdf hIb hIf hS0 hsz ?_ (items.length + 1) 0 _ _ #[] _ (by omega) (Nat.zero_le _) (Nat.le_refl _) (old5.toB I) it5 hS₅ .nil
  intro h' tk' acc c' hb hS' hal
  exact ⟨rfl, hQ h' tk' S acc.toList hb hS0 ⟨c', by rw [hS']⟩ hal⟩
end
end Mine
end

-- part N9
section
open PySem PySem.W PyProof.Rows PySem.Calls PySem.Spec Builtin Builtin.ObjectAttr Builtin.Getset_descriptor
set_option maxRecDepth 100000
set_option maxHeartbeats 8000000
namespace Mine
theorem fill9 : (PySem.Challenge.rw_il0044_01, hd.heap_39) = (PySem.Challenge.rw_il0044_01, hd.heap_39) := by
  k_fill
  rfl
/-- a list of data, laid -/
def Ld (h : Heap) (v : Value) (ds : List PyData) : Prop := ∃ a items, v = .ref a ∧ LstAt h a items ∧ Al (Rd h) items ds
structure Small (d : PyData) : Prop where
  lay : d.canLay0 = true
  nd : nodict d = true
  dep : d.depth ≤ 8
theorem Ld.sq {h h' : Heap} {v : Value} {ds : List PyData} (x : Ld h v ds) (nd : ∀ d ∈ ds, nodict d = true) (hk : ∀ b o, IsSq o → h.get? b = some o → h'.get? b = some o) : Ld h' v ds := by
  obtain ⟨a, items, rfl, ⟨q, e⟩, al⟩ := x
  exact ⟨a, items, rfl, ⟨q, hk _ _ ⟨_, _, rfl⟩ e⟩, al_mem al fun _ d hd r => r.sq (nd d hd) hk⟩
theorem Ld.ext {A : Around} {h h' : Heap} {v : Value} {ds : List PyData} (x : Ld h v ds) (nd : ∀ d ∈ ds, Small d) (e : Ext A h h') : Ld h' v ds := x.sq (fun d hd => (nd d hd).nd) fun _ _ ho q => e.nd q (sq_nd ho)
theorem nodictAll_of : ∀ {ds : List PyData}, (∀ d ∈ ds, Small d) → nodictAll ds = true
  | [], _ => rfl
  | d :: r, h => by simp only [nodictAll, (h d (.head _)).nd, nodictAll_of fun d hd => h d (.tail _ hd), Bool.and_self]
theorem canLayAll_of : ∀ {ds : List PyData}, (∀ d ∈ ds, Small d) → PyData.canLayAll0 ds = true
  | [], _ => rfl
  | d :: r, h => by simp only [PyData.canLayAll0, (h d (.head _)).lay, canLayAll_of fun d hd => h d (.tail _ hd), Bool.and_self]
theorem readsAll_of {h : Heap} {items : List Value} {ds : List PyData} (x : Al (Rd h) items ds) : ∃ as, ReadsAll h items ds as := by
  induction x with
  | nil => exact ⟨_, .nil⟩
  | cons r _ ih => obtain ⟨as, r⟩ := r; obtain ⟨bs, q⟩ := ih; exact ⟨_, .cons r q⟩
section
variable {w : World} {mean : ExcName → Option Value} {mg mb : Str → Option Value} {bs : Heap}
variable {prog : Program} {A : Around} {E : Value → Shared → Prop} {s : Shared}

theorem filter_spec {vl vk : Value} {ds xs : List PyData} (a : At w mean mg mb bs A s.heap) (hroom : A.depth + 2 < recursionLimit) (hu : A.units + 60 < cLine)
    (hl : Ld s.heap vl ds) (hk : Ld s.heap vk xs) (sl : ∀ d ∈ ds, Small d) (sk : ∀ d ∈ xs, Small d) (hsz : ds.length < sizeLine) :
    GW prog w A (call (.ref 86) [vl, vk]) s (fun v h' => Ld h' v (ds.filter (keptD xs))) := by
  intro Q E hQ
  obtain ⟨l, items, rfl, ll, al⟩ := hl
  obtain ⟨k, ks, rfl, lk, ak⟩ := hk
  refine enter (binds := [(Str.ofString "flist", .ref l), (Str.ofString "skip", .ref k)]) a (by omega) (by k_is) (by k_is) (BindsTo.of_eq rfl) (kindsX rfl) rfl rfl rfl ?_
  intro L h₁ tk hL F B
  have k0 := F.keep
  have ll₁ : LstAt h₁ l items := ll.ext k0
  have lk₁ : LstAt h₁ k ks := lk.ext k0
  refine ex_return (R := fun v h' => Ld h' v (ds.filter (keptD xs))) ?_ ?_
  · intro Q E hQ
    refine wpAny_Call_ofName (nmB B (by k_is) boot_list (by decide) (callWith_type1 (spliced_more ?_)))
    refine cDef (fa := 75) B (by k_is) (by k_is) (spliced_more (Attribute_name (nmL F.ns rfl ?_)))
    obtain ⟨kc, ek⟩ := lk₁
    refine contains_attr ek fun tk₂ => ?_
    have p₂ : ∀ b o, h₁.get? b = some o → (h₁.push (wrapObj k)).get? b = some o := fun b o e => Heap.get?_push_of_some _ e
    have hb₂ : (h₁.push (wrapObj k)).get? h₁.objs.size = some (wrapObj k) := Heap.get?_push_size _ rfl
    generalize hbe : h₁.objs.size = b at hb₂ ⊢
    have hn₂ := F.ns.at fun o e => p₂ L o e
    generalize h₁.push (wrapObj k) = h₂ at *
    have B₂ := B.ext (Ext.of p₂)
    refine spliced_more (nmL hn₂ rfl (spliced_none ⟨B₂.kin, ?_⟩))
    obtain ⟨lc, el⟩ := ll₁
    refine ff_make (items := items.toArray) B₂ (by show A.depth + 1 + 1 < recursionLimit; omega) ⟨_, p₂ _ _ el, rfl, lc, rfl⟩ fun h₃ tk₃ x dx I e₃ hx0 hdx0 hI0 hIx hdx hx hdx' hit => ?_
    refine spliced_none ?_
    have B₃ := B₂.ext e₃
    have hb₃ := e₃.nd hb₂ (fun _ _ q => by cases q)
    have x₃ := (Ext.of p₂).trans e₃
    have k3 : Ext A s.heap h₃ := (F.ext rfl x₃).keep
    have al₃ : Al (Rd h₃) items ds := al_mem al fun _ d hd r => r.ext (sl d hd).nd k3
    have ak₃ : Al (Rd h₃) ks xs := al_mem ak fun _ d hd r => r.ext (sk d hd).nd k3
    have hbx : b ≠ I := fun q => by rw [q, hI0] at hb₂; cases hb₂
    have hdxI : dx ≠ I := fun q => by
      obtain ⟨o, e, _, hd⟩ := hit
      rw [← q, hdx'] at e; cases e; cases hd
    have hIb : bs.get? I = none := by
      cases q : bs.get? I with
      | none => rfl
      | some o => rw [B₂.stay _ _ q] at hI0; cases hI0
    have c : FfC h₃ x dx b I l k items ds ks xs := ⟨hx, hdx', hb₃, ⟨lc, x₃.nd el (sq_nd ⟨_, _, rfl⟩)⟩, ⟨kc, x₃.nd ek (sq_nd ⟨_, _, rfl⟩)⟩, readsAll_of ak₃, al₃, nodictAll_of sk, fun d hd => (sl d hd).nd, canLayAll_of sk, fun d hd => (sl d hd).lay, fun d hd => (sl d hd).dep⟩
    refine ff_list B₃ (by show A.depth + 1 < recursionLimit; omega) (by show A.units + 3 + 44 < cLine; omega) c hit (Ne.symm hIx) hbx hdxI (B₂.fresh hdx0) hIb (B₂.fresh hI0) (by rw [al.length]; exact hsz) fun h₄ tk₄ S ys e₄ hS hls hal => ?_
    have x₄ := x₃.transB (by
      cases q : h₁.get? I with
      | none => rfl
      | some o => rw [p₂ _ _ q] at hI0; cases hI0) e₄
    refine hQ _ h₄ tk₄ x₄ ⟨S, ys, rfl, hls, al_mem hal fun _ d hd r => r.sq (sl d (List.mem_filter.mp hd).1).nd ?_⟩
    exact e₄.sq fun o e => fields_not_sq (iter_fields hit e)
  · intro v h₂ tk₂ x₂ r
    exact hQ v h₂ tk₂ (F.ext rfl x₂).keep r
end
end Mine
end

-- part O1
section
open PySem PySem.W PyProof.Rows PySem.Calls PySem.Spec
set_option maxRecDepth 100000
set_option maxHeartbeats 8000000
namespace Mine
theorem sq_hide {D : Addr} {h h' : Heap} (x : SqBut D h h') : Sqx (h.hide D) (h'.hide D) := fun b o ho e => by
  have hb : b ≠ D := fun q => by rw [q, show (h.hide D).get? D = none from hideAll_none [D] (.head _)] at e; cases e
  exact (Heap.hide_ne h' hb).trans (x b o hb ho (Heap.of_hide e))
theorem sq_to_hide {D : Addr} {h h' : Heap} (x : Sqx h h') (hD : h.get? D = none) : Sqx h (h'.hide D) := fun b o ho e => by
  have hb : b ≠ D := fun q => by rw [q, hD] at e; cases e
  exact (Heap.hide_ne h' hb).trans (x b o ho e)
theorem sq_of_hide {D : Addr} {h : Heap} : Sqx (h.hide D) h := fun _ _ _ e => Heap.of_hide e
theorem Sqx.trans {h h' h'' : Heap} (x : Sqx h h') (y : Sqx h' h'') : Sqx h h'' := fun b o ho e => y b o ho (x b o ho e)
theorem Ext.sqx {A : Around} {h h' : Heap} (x : Ext A h h') : Sqx h h' := fun _ _ ho e => x.nd e (sq_nd ho)
theorem ExtB.sqx {A : Around} {I : Addr} {h h' : Heap} (x : ExtB A I h h') (hI : ∀ o, h.get? I = some o → ¬ IsSq o) : Sqx h h' := x.sq hI

theorem filter_ix {α : Type} (es : List α) (p : α → Bool) : ∀ n, n ≤ es.length → (es.take n).filter p = ((List.range n).filter fun i => (es[i]?.map p).getD false).filterMap fun i => es[i]?
  | 0, _ => rfl
  | n + 1, h => by
    rw [List.take_add_one, List.filter_append, filter_ix es p n (Nat.le_of_succ_le h), List.range_succ, List.filter_append, List.filterMap_append]
    congr 1
    obtain ⟨e, he⟩ : ∃ e, es[n]? = some e := ⟨es[n], by simp [Nat.lt_of_succ_le h]⟩
    rw [he]
    cases hp : p e <;> simp [he, hp]
theorem al_ix {α β γ : Type} {es : List α} {f : α → β} {R : Nat → γ → Prop} {R' : γ → β → Prop} (k : ∀ i e y, es[i]? = some e → R i y → R' y (f e)) : ∀ {l : List Nat} {ys : List γ}, (∀ i ∈ l, i < es.length) → Al R l ys → Al R' ys ((l.filterMap fun i => es[i]?).map f) := by
  intro l ys hl x
  induction x with
  | nil => exact .nil
  | cons h _ ih =>
    rename_i i y l' ys' _
    have hi : i < es.length := hl _ (.head _)
    have he : es[i]? = some es[i] := by simp [hi]
    rw [List.filterMap_cons, he]
    exact .cons (k i _ y he h) (ih fun j hj => hl j (.tail _ hj))

section
variable {prog : Program} {w : World} {A : Around} {E : Value → Shared → Prop} {s : Shared} {env : Env} {scope : Scope} {cl : List (Str × Addr)}

def SrcG {α : Type} (prog : Program) (w : World) (A : Around) (scope : Scope) (cl : List (Str × Addr)) (env : Env) (target iter : Expr) (s : Shared) (es : List α) (B : α → (Str → Option Value) → Heap → Prop) : Prop :=
  ∀ (Q : Value → Shared → Prop) (E : Value → Shared → Prop), (∀ I St h' tk', Ext A s.heap h' → s.heap.get? I = none → CompSrc9 prog w A scope cl env target { s with heap := h', toks := tk' } I es.length St (fun i m => ∃ e, es[i]? = some e ∧ B e m h') → Q (.ref I) { s with heap := h', toks := tk' }) →
    wpAny (model prog w) A (eval iter env) (fun xv s₁ => wpAny (model prog w) A (pyIter xv) Q E s₁) E s

theorem lcd {α β : Type} {elt iter target : Expr} {ifs : List Expr} {pos pos₂ : Pos} {es : List α} {B : α → (Str → Option Value) → Heap → Prop} {f : α → β} {p : α → Bool} {P : Heap → Value → β → Prop}
    {use : Option (Value → Sem Unit)} {Q : Value → Shared → Prop}
    (hsrc : SrcG prog w A scope cl env target iter s es B)
    (htest : ∀ e ∈ es, ∀ C h tk m'' h0, h.Ns C m'' → B e m'' h0 → Ext A s.heap h → Sqx h0 h → s.heap.get? C = none →
      GW prog w A (testsOf ifs (compEnvC scope cl C env)) { s with heap := h, toks := tk } (fun ok _ => ok = p e))
    (helt : ∀ e ∈ es, p e = true → ∀ C D h tk m'' h0, h.Ns C m'' → B e m'' h0 → Ext A s.heap h → Sqx h0 h → s.heap.get? C = none → s.heap.get? D = none → h0.get? D = none → (∃ ys, LstAt h D ys) →
      GW prog w A (eval elt (compEnvC scope cl C env)) { s with heap := h, toks := tk } (fun y h' => P (h'.hide D) y (f e)))
    (hP : ∀ e ∈ es, ∀ h h' v, Sqx h h' → P h v (f e) → P h' v (f e))
    (hend : ∀ D C h tk m' ys, D ≠ C → s.heap.get? D = none → s.heap.get? C = none → h.Ns C m' → LstAt h D ys → Ext A s.heap h → Al (P (h.hide D)) ys ((es.filter p).map f) →
      compPost (model prog w) A E use Q (.ref D) C (.ok .next) { s with heap := h, toks := tk })
    (hsz : es.length ≤ sizeLine) (hclos : closureFor scope env = pure cl) (hcell : ∀ y ∈ scope.names, y.2 ≠ .cell) (hkind : scope.kind = .function)
    (hnames : ∀ y ∈ scope.names, y.2 = .local → scope.names.lookup y.1 = some .local)
    (hs : ∀ x, foldedSetIterable iter env x = pure x) :
    wpAny (model prog w) A (comprehension (.ListComp elt [⟨target, iter, ifs, 0⟩] scope pos) scope env pos₂ (newList []) false (eval iter env) use) Q E s := by
  refine wpAny_comprehension_free (use := use) rfl hs hclos hkind hnames (hsrc _ _ fun I St h' tk' hx hI S => ?_)
  have hIf : ∀ o, h'.get? I = some o → ¬ IsSq o := fun o e => fields_not_sq (S.hIf 0 _ o S.hst e)
  refine lc_core (p := fun i => (es[i]?.map p).getD false) (R := fun i y D h => ∃ e, es[i]? = some e ∧ P (h.hide D) y (f e)) (RR := fun acc C => compPost (model prog w) A E use Q acc C) hsz hcell hkind S ?_ ?_ ?_ ?_
  · intro i C h tk m'' hi hn hB hb hC
    obtain ⟨e, he, hB⟩ := hB
    exact (htest e (List.mem_of_getElem? he) C h tk m'' h' hn hB (Ext.transB hx hI hb) (hb.sqx hIf) (Ext.none hx hC)).mono fun v _ _ q => by simp [he, q]
  · intro i C D h tk m'' hi hp hn hB hb hC hD hL
    obtain ⟨e, he, hB⟩ := hB
    exact (helt e (List.mem_of_getElem? he) (by simpa [he] using hp) C D h tk m'' h' hn hB (Ext.transB hx hI hb) (hb.sqx hIf) (Ext.none hx hC) (Ext.none hx hD) hD hL).mono fun v _ _ q => ⟨e, he, q⟩
  · rintro i y D h h'' hi _ sq ⟨e, he, q⟩
    exact ⟨e, he, hP e (List.mem_of_getElem? he) _ _ _ (sq_hide sq) q⟩
  · intro D C h tk m' ys hDC hD hC hn hL hb hA
    refine hend D C h tk m' ys hDC (Ext.none hx hD) (Ext.none hx hC) hn hL (Ext.transB hx hI hb) ?_
    have := filter_ix es p es.length (Nat.le_refl _)
    rw [List.take_length] at this
    rw [this]
    refine al_ix (fun i e y he r => ?_) (fun i hi => List.mem_range.mp (List.mem_filter.mp hi).1) hA
    obtain ⟨e', he', q⟩ := r
    rw [he] at he'; cases he'; exact q

/-- as an expression -/
theorem lcE {α β : Type} {elt iter target : Expr} {ifs : List Expr} {pos : Pos} {es : List α} {B : α → (Str → Option Value) → Heap → Prop} {f : α → β} {p : α → Bool} {P : Heap → Value → β → Prop}
    (hsrc : SrcG prog w A scope cl env target iter s es B)
    (htest : ∀ e ∈ es, ∀ C h tk m'' h0, h.Ns C m'' → B e m'' h0 → Ext A s.heap h → Sqx h0 h → s.heap.get? C = none →
      GW prog w A (testsOf ifs (compEnvC scope cl C env)) { s with heap := h, toks := tk } (fun ok _ => ok = p e))
    (helt : ∀ e ∈ es, p e = true → ∀ C D h tk m'' h0, h.Ns C m'' → B e m'' h0 → Ext A s.heap h → Sqx h0 h → s.heap.get? C = none → s.heap.get? D = none → h0.get? D = none → (∃ ys, LstAt h D ys) →
      GW prog w A (eval elt (compEnvC scope cl C env)) { s with heap := h, toks := tk } (fun y h' => P (h'.hide D) y (f e)))
    (hP : ∀ e ∈ es, ∀ h h' v, Sqx h h' → P h v (f e) → P h' v (f e))
    (hsz : es.length ≤ sizeLine) (hclos : closureFor scope env = pure cl := by rfl) (hcell : ∀ y ∈ scope.names, y.2 ≠ .cell := by decide) (hkind : scope.kind = .function := by rfl)
    (hnames : ∀ y ∈ scope.names, y.2 = .local → scope.names.lookup y.1 = some .local := by decide)
    (hs : ∀ x, foldedSetIterable iter env x = pure x := by intro _; rfl) :
    GW prog w A (eval (.ListComp elt [⟨target, iter, ifs, 0⟩] scope pos) env) s
      (fun r h' => ∃ D ys, r = .ref D ∧ s.heap.get? D = none ∧ LstAt h' D ys ∧ Al (P h') ys ((es.filter p).map f)) := by
  intro Q E hQ
  rw [eval_ListComp]
  refine lcd (P := P) (use := none) hsrc htest helt hP ?_ hsz hclos hcell hkind hnames hs
  intro D C h tk m' ys hDC hD hC hn hL e0 hA
  refine ⟨m', hn, fun h'' hs'' => ?_⟩
  have hCo : ∀ b o, s.heap.get? b = some o → b ≠ C := fun b o e q => by rw [q, hC] at e; cases e
  have e1 : Ext A s.heap h'' := fun b o e => by
    rcases e0 b o e with e2 | ⟨f1, d1, sl, e2⟩
    · exact .inl (hs''.extBut b o (hCo b o e) e2)
    · exact .inr ⟨f1, d1, sl, hs''.extBut b _ (hCo b o e) e2⟩
  refine hQ _ h'' tk e1 ⟨D, ys, rfl, hD, hL.keeps fun o e => hs''.extBut _ _ hDC e, al_mem hA fun y b hb r => ?_⟩
  obtain ⟨e, he, rfl⟩ := List.mem_map.mp hb
  refine hP e (List.mem_filter.mp he).1 _ _ _ (fun b o ho q => hs''.extBut b o (fun z => ?_) (Heap.of_hide q)) r
  rw [z] at q; exact ns_not_sq hn (Heap.of_hide q) ho
end

section
variable {prog : Program} {w : World} {mean : ExcName → Option Value} {mg mb : Str → Option Value} {bs : Heap}
variable {A : Around} {E : Value → Shared → Prop} {s : Shared} {g : Heap} {L f : Addr} {scope : Scope} {qual : Str} {cdv : Value} {A₀ : Around} {m cm : Str → Option Value}

theorem FS.butC {C : Addr} {h h₁ h' : Heap} {m₁ cm₁ m₀ cm₀ : Str → Option Value} (f0 : FS bs A₀ g L scope h m₀ cm₀) (hC : h.get? C = none) (f1 : FS bs A₀ g L scope h₁ m₁ cm₁) (hs : Heap.SameBut C h₁ h') : FS bs A₀ g L scope h' m₁ cm₁ := by
  have hLC : L ≠ C := fun q => by obtain ⟨o, _, _, e, _⟩ := f0.ns; rw [q, hC] at e; cases e
  refine ⟨f1.ns.sameBut hs hLC, fun b o e => ?_, f1.above, f1.low, ⟨fun n c q => (f1.cl.cell n c q).sameBut hs (fun z => ?_), f1.cl.apart, f1.cl.above⟩⟩
  · have hb : b ≠ C := fun q => by
      rcases f0.keep b o e with e1 | ⟨_, _, sl, e1⟩ <;> rw [q, hC] at e1 <;> cases e1
    rcases f1.keep b o e with e1 | ⟨h1, d1, sl, e1⟩
    · exact .inl (hs.extBut b o hb e1)
    · exact .inr ⟨h1, d1, sl, hs.extBut b _ hb e1⟩
  · obtain ⟨o, e, _⟩ := f0.cl.cell n c q
    rw [z, hC] at e; cases e

/-- a plain assignment to a local name -/
theorem asgL {x : Str} {px pos : Pos} {e : Expr} {rest : List Stmt} {Q : Flow → Shared → Prop} {R : Value → Heap → Prop} (fs : FS bs (A₀) g L scope s.heap m cm) (a : At w mean mg mb bs (A₀.deeper (envOfC qual scope L f cdv)) s.heap)
    (ge : GW prog w (A₀.deeper (envOfC qual scope L f cdv)) (eval e (envOfC qual scope L f cdv)) s R)
    (k : ∀ v h h₁ tk₁, Sqx s.heap h → Sqx h h₁ → R v h → FS bs A₀ g L scope h₁ (fun y => if y = x then some v else m y) cm → At w mean mg mb bs (A₀.deeper (envOfC qual scope L f cdv)) h₁ →
      wpAny (model prog w) (A₀.deeper (envOfC qual scope L f cdv)) (execs rest (envOfC qual scope L f cdv)) Q E { s with heap := h₁, toks := tk₁ })
    (hs : swapsWith e (some (.Name x px)) pos.line (envOfC qual scope L f cdv) = pure false := by rfl) (hk : scope.kind = .function := by rfl) (hl : (envOfC qual scope L f cdv).kindOf x = some .local := by rfl) :
    wpAny (model prog w) (A₀.deeper (envOfC qual scope L f cdv)) (execs (.Assign [.Name x px] e pos :: rest) (envOfC qual scope L f cdv)) Q E s := by
  refine ex_assign ge (fun v h tk x₁ r => ?_) hs
  exact FS.stL (s := { s with heap := h, toks := tk }) (fs.ext rfl x₁) (a.ext x₁) (fun h' tk' _ sq fs' a' => k v h h' tk' x₁.sqx sq r fs' a') hk hl

/-- a plain assignment to a cell -/
theorem asgC {x : Str} {c : Addr} {px pos : Pos} {e : Expr} {rest : List Stmt} {Q : Flow → Shared → Prop} {R : Value → Heap → Prop} (fs : FS bs (A₀) g L scope s.heap m cm) (a : At w mean mg mb bs (A₀.deeper (envOfC qual scope L f cdv)) s.heap)
    (ge : GW prog w (A₀.deeper (envOfC qual scope L f cdv)) (eval e (envOfC qual scope L f cdv)) s R)
    (k : ∀ v h h₁ tk₁, Sqx s.heap h → Sqx h h₁ → R v h → FS bs A₀ g L scope h₁ m (fun y => if y = x then some v else cm y) → At w mean mg mb bs (A₀.deeper (envOfC qual scope L f cdv)) h₁ →
      wpAny (model prog w) (A₀.deeper (envOfC qual scope L f cdv)) (execs rest (envOfC qual scope L f cdv)) Q E { s with heap := h₁, toks := tk₁ })
    (hc : (cellsFrom (L + 1) scope.names []).lookup x = some c) (hs : swapsWith e (some (.Name x px)) pos.line (envOfC qual scope L f cdv) = pure false := by rfl) (hk : scope.kind = .function := by rfl) (hl : (envOfC qual scope L f cdv).kindOf x = some .cell := by rfl) :
    wpAny (model prog w) (A₀.deeper (envOfC qual scope L f cdv)) (execs (.Assign [.Name x px] e pos :: rest) (envOfC qual scope L f cdv)) Q E s := by
  refine ex_assign ge (fun v h tk x₁ r => ?_) hs
  exact FS.stC (s := { s with heap := h, toks := tk }) (fs.ext rfl x₁) (a.ext x₁) (fun h' tk' _ sq fs' a' => k v h h' tk' x₁.sqx sq r fs' a') hc hk hl

/-- a comprehension assigned to a local name -/
theorem asgLC {α β : Type} {x : Str} {px spos : Pos} {rest : List Stmt} {Q : Flow → Shared → Prop} {cscope : Scope} {cl : List (Str × Addr)}
    {elt iter target : Expr} {ifs : List Expr} {pos : Pos} {es : List α} {B : α → (Str → Option Value) → Heap → Prop} {ff : α → β} {p : α → Bool} {P : Heap → Value → β → Prop}
    (fs : FS bs A₀ g L scope s.heap m cm) (a : At w mean mg mb bs (A₀.deeper (envOfC qual scope L f cdv)) s.heap)
    (hsrc : SrcG prog w (A₀.deeper (envOfC qual scope L f cdv)) cscope cl (envOfC qual scope L f cdv) target iter s es B)
    (htest : ∀ e ∈ es, ∀ C h tk m'' h0, h.Ns C m'' → B e m'' h0 → Ext (A₀.deeper (envOfC qual scope L f cdv)) s.heap h → Sqx h0 h → s.heap.get? C = none →
      GW prog w (A₀.deeper (envOfC qual scope L f cdv)) (testsOf ifs (compEnvC cscope cl C (envOfC qual scope L f cdv))) { s with heap := h, toks := tk } (fun ok _ => ok = p e))
    (helt : ∀ e ∈ es, p e = true → ∀ C D h tk m'' h0, h.Ns C m'' → B e m'' h0 → Ext (A₀.deeper (envOfC qual scope L f cdv)) s.heap h → Sqx h0 h → s.heap.get? C = none → s.heap.get? D = none → h0.get? D = none → (∃ ys, LstAt h D ys) →
      GW prog w (A₀.deeper (envOfC qual scope L f cdv)) (eval elt (compEnvC cscope cl C (envOfC qual scope L f cdv))) { s with heap := h, toks := tk } (fun y h' => P (h'.hide D) y (ff e)))
    (hP : ∀ e ∈ es, ∀ h h' v, Sqx h h' → P h v (ff e) → P h' v (ff e))
    (hsz : es.length ≤ sizeLine)
    (k : ∀ D ys h₁ tk₁, Sqx s.heap h₁ → LstAt h₁ D ys → Al (P h₁) ys ((es.filter p).map ff) → FS bs A₀ g L scope h₁ (fun y => if y = x then some (.ref D) else m y) cm → At w mean mg mb bs (A₀.deeper (envOfC qual scope L f cdv)) h₁ →
      wpAny (model prog w) (A₀.deeper (envOfC qual scope L f cdv)) (execs rest (envOfC qual scope L f cdv)) Q E { s with heap := h₁, toks := tk₁ })
    (hsw : swapsWith (.ListComp elt [⟨target, iter, ifs, 0⟩] cscope pos) (some (.Name x px)) spos.line (envOfC qual scope L f cdv) = pure true := by rfl)
    (hclos : closureFor cscope (envOfC qual scope L f cdv) = pure cl := by rfl) (hcell : ∀ y ∈ cscope.names, y.2 ≠ .cell := by decide) (hkind : cscope.kind = .function := by rfl)
    (hnames : ∀ y ∈ cscope.names, y.2 = .local → cscope.names.lookup y.1 = some .local := by decide)
    (hs : ∀ x, foldedSetIterable iter (envOfC qual scope L f cdv) x = pure x := by intro _; rfl)
    (hk : scope.kind = .function := by rfl) (hl : (envOfC qual scope L f cdv).kindOf x = some .local := by rfl) :
    wpAny (model prog w) (A₀.deeper (envOfC qual scope L f cdv)) (execs (.Assign [.Name x px] (.ListComp elt [⟨target, iter, ifs, 0⟩] cscope pos) spos :: rest) (envOfC qual scope L f cdv)) Q E s := by
  refine wpAny_execs_cons ?_
  rw [exec_Assign_Name_used _ _ _ _ hsw]
  refine wpAny_bind (wpAny_standAt (wpAny_bind ?_))
  show wpAny _ _ (do let _ ← comprehension (.ListComp elt [⟨target, iter, ifs, 0⟩] cscope pos) cscope (envOfC qual scope L f cdv) _ (newList []) false (eval iter (envOfC qual scope L f cdv)) (some (assign (.Name x px) (envOfC qual scope L f cdv)))) _ _ s
  refine wpAny_bind (wpAny_mono (lcd (P := P) (use := some (assign (.Name x px) (envOfC qual scope L f cdv))) (Q := fun _ s' => wpAny (model prog w) (A₀.deeper (envOfC qual scope L f cdv)) (execs rest (envOfC qual scope L f cdv)) Q E s') hsrc htest helt hP ?_ hsz hclos hcell hkind hnames hs)
    (fun _ s' hq => wpAny_pure (wpAny_pure hq)) fun _ _ e => e)
  intro D C h tk m' ys hDC hD hC hn hL e0 hA
  have fs₁ := fs.ext rfl e0
  have a₁ := a.ext e0
  show wpAny _ _ (assign (.Name x px) (envOfC qual scope L f cdv) (.ref D)) _ _ _
  have hLC : L ≠ C := fun q => by obtain ⟨o, _, _, e, _⟩ := fs.ns; rw [q, hC] at e; cases e
  refine wpAny_assign_Name ?_
  refine FS.stL (s := { s with heap := h, toks := tk }) fs₁ a₁ (fun h₂ tk₂ hs₂ sq₂ fs₂ a₂ => ?_) hk hl
  refine ⟨m', hn.sameBut hs₂ (Ne.symm hLC), fun h₃ hs₃ => ?_⟩
  have sq₃ : Sqx h₂ h₃ := fun b o ho q => hs₃.extBut b o (fun z => by
    rw [z] at q; exact ns_not_sq (hn.sameBut hs₂ (Ne.symm hLC)) q ho) q
  refine k D ys h₃ tk₂ ((e0.sqx.trans sq₂).trans sq₃) (hL.keeps fun o q => ?_) (al_mem hA fun y b hb r => ?_) (FS.butC fs hC fs₂ hs₃) (a₂.but hs₃ ?_ ?_)
  · obtain ⟨n, e⟩ := hL
    rw [q] at e; cases e
    exact sq₃ _ _ ⟨_, _, rfl⟩ (sq₂ _ _ ⟨_, _, rfl⟩ q)
  · obtain ⟨e, he, rfl⟩ := List.mem_map.mp hb
    exact hP e (List.mem_filter.mp he).1 _ _ _ ((sq_of_hide.trans sq₂).trans sq₃) r
  · cases q : bs.get? C with
    | none => rfl
    | some o => rw [a.stay _ _ q] at hC; cases hC
  · intro q; exact absurd q (a.fresh hC)
end
end Mine
end

-- part O2
section
open PySem PySem.W PyProof.Rows PySem.Calls PySem.Spec
set_option maxRecDepth 100000
set_option maxHeartbeats 8000000
namespace Mine
def pd (e : Str × Int) : PyData := .tuple [.str e.1, .int e.2]
abbrev EL (h : Heap) (v : Value) (es : List (Str × Int)) : Prop := Ld h v (es.map pd)
abbrev PL (h : Heap) (v : Value) (ps : List Str) : Prop := Ld h v (ps.map PyData.str)
theorem al_of_map {α β γ : Type} {R : γ → β → Prop} {f : α → β} : ∀ {l : List γ} {es : List α}, Al R l (es.map f) → Al (fun y e => R y (f e)) l es
  | [], [], _ => .nil
  | _ :: _, _ :: _, .cons h t => .cons h (al_of_map t)
theorem al_to_map {α β γ : Type} {R : γ → β → Prop} {f : α → β} : ∀ {l : List γ} {es : List α}, Al (fun y e => R y (f e)) l es → Al R l (es.map f)
  | [], [], _ => .nil
  | _ :: _, _ :: _, .cons h t => .cons h (al_to_map t)
theorem rd_pd {h : Heap} {v : Value} {e : Str × Int} (r : Rd h v (pd e)) : ∃ t tk tk', v = .ref t ∧ IsTup h t #[.str e.1 tk, .int e.2 tk'] := by
  obtain ⟨as, r⟩ := r
  cases r with
  | tuple h1 h2 h3 h4 =>
    rename_i a o vs n
    obtain ⟨l⟩ := vs
    cases h4 with
    | cons r1 r2 =>
      cases r2 with
      | cons r2 r3 =>
        cases r3
        cases r1
        cases r2
        exact ⟨a, _, _, rfl, o, h1, h2, n, by rw [h3]⟩
theorem rd_of_tup {h : Heap} {t : Addr} {e : Str × Int} {tk tk' : Tok} (x : IsTup h t #[.str e.1 tk, .int e.2 tk']) : Rd h (.ref t) (pd e) := by
  obtain ⟨o, h1, h2, n, h3⟩ := x
  exact ⟨_, .tuple h1 h2 h3 (.cons (.str _ _) (.cons (.int _ _) .nil))⟩
theorem rd_str {h : Heap} {v : Value} {x : Str} (r : Rd h v (.str x)) : ∃ t, v = .str x t := by
  obtain ⟨as, r⟩ := r; cases r; exact ⟨_, rfl⟩
theorem rd_int {h : Heap} {v : Value} {x : Int} (r : Rd h v (.int x)) : ∃ t, v = .int x t := by
  obtain ⟨as, r⟩ := r; cases r; exact ⟨_, rfl⟩
theorem LstAt.isList {h : Heap} {l : Addr} {items : List Value} (x : LstAt h l items) : h.IsList l items.toArray := by
  obtain ⟨n, e⟩ := x; exact ⟨_, e, rfl, n, rfl⟩

section
variable {prog : Program} {w : World} {A : Around} {E : Value → Shared → Prop} {s : Shared} {env : Env} {scope : Scope} {cl : List (Str × Addr)}
theorem CompSrc9.imp {target : Expr} {I n : Nat} {St : Nat → Heap → Prop} {BF BF' : Nat → (Str → Option Value) → Prop} (S : CompSrc9 prog w A scope cl env target s I n St BF) (k : ∀ i m, i < n → BF i m → BF' i m) :
    CompSrc9 prog w A scope cl env target s I n St BF' :=
  ⟨S.hI, S.hIf, S.hst, S.hframe, S.hself, S.hdone, fun i C h tk m' Q E hi st hn hC hCI hb hQ => S.hturn i C h tk m' Q E hi st hn hC hCI hb fun h' tk' m'' st' hn' hB hk => hQ h' tk' m'' st' hn' (k i m'' hi hB) hk⟩

theorem srcN {α : Type} {es : List α} {P0 : Heap → Value → α → Prop} {x : Str} {px : Pos} {iter : Expr} (hh : A.handled = none)
    (hiter : GW prog w A (eval iter env) s (fun v h' => ∃ l items, v = .ref l ∧ LstAt h' l items ∧ Al (P0 h') items es))
    (hP : ∀ e ∈ es, ∀ h h' v, Sqx h h' → P0 h v e → P0 h' v e)
    (hx : scope.names.lookup x = some .local := by rfl) (hkind : scope.kind = .function := by rfl) :
    SrcG prog w A scope cl env (.Name x px) iter s es (fun e m h0 => ∃ v, m x = some v ∧ P0 h0 v e) := by
  intro Q E hQ
  refine hiter _ _ fun v h' tk' x₁ r => ?_
  obtain ⟨l, items, rfl, ll, al⟩ := r
  have hl := ll.isList
  have hlt : l < h'.objs.size := by obtain ⟨_, e⟩ := ll; exact Heap.lt_size e
  refine wpAny_pyIter_list hl ?_
  have up : ∀ b o, h'.get? b = some o → (h'.push { cls := .type "list_iterator", data := .fields #[.ref l, .int 0 0] }).get? b = some o := fun b o e => Heap.get?_push_of_some _ e
  have hn : items.toArray.size = es.length := by simpa using al.length
  have S := src_walks (s := { s with heap := h'.push { cls := .type "list_iterator", data := .fields #[.ref l, .int 0 0] }, toks := tk' }) (env := env) (scope := scope) (cl := cl) (x := x) (px := px) (Walks.list (prog := prog) (w := w) hh h'.objs.size l (Nat.ne_of_lt hlt) items.toArray) (fun b hm => by
      rcases List.mem_cons.mp hm with rfl | hm
      · exact .inl rfl
      · rw [List.mem_singleton.mp hm]; obtain ⟨n, e⟩ := ll; exact .inr ⟨_, up _ _ e, _, _, rfl⟩) (by show _ < (h'.push _).objs.size; rw [Heap.size_push]; exact Nat.lt_succ_self _) ⟨⟨_, Heap.get?_push_size _ rfl, rfl, rfl⟩, hl.push _⟩ (fun i h o st e => iter_fields st.1 e) hx hkind
  rw [hn] at S
  refine hQ _ _ _ _ (x₁.trans (Ext.of up)) ?_ (S.imp fun i m hi hB => ?_)
  · exact Ext.none x₁ (Heap.get?_none_of_le (Nat.le_refl _))
  · obtain ⟨v, hv, hm⟩ := hB
    obtain ⟨e, he, r⟩ := al_get al i v (by simpa using hv)
    exact ⟨e, he, v, hm, hP e (List.mem_of_getElem? he) _ _ _ (fun b o _ q => up b o q) r⟩

theorem srcP {es : List (Str × Int)} {x x₂ : Str} {px px₂ tp : Pos} {tk₀ : Nat} {iter : Expr} (hh : A.handled = none)
    (hiter : GW prog w A (eval iter env) s (fun v h' => EL h' v es))
    (hx : scope.names.lookup x = some .local := by rfl) (hx₂ : scope.names.lookup x₂ = some .local := by rfl) (hxx : x ≠ x₂ := by decide) (hkind : scope.kind = .function := by rfl) :
    SrcG prog w A scope cl env (.Tuple [.Name x px, .Name x₂ px₂] tk₀ tp) iter s es (fun e m _ => ∃ t t', m x = some (.str e.1 t) ∧ m x₂ = some (.int e.2 t')) := by
  intro Q E hQ
  refine hiter _ _ fun v h' tk' x₁ r => ?_
  obtain ⟨l, items, rfl, ll, al⟩ := r
  have hl := ll.isList
  have hlt : l < h'.objs.size := by obtain ⟨_, e⟩ := ll; exact Heap.lt_size e
  refine wpAny_pyIter_list hl ?_
  have up : ∀ b o, h'.get? b = some o → (h'.push { cls := .type "list_iterator", data := .fields #[.ref l, .int 0 0] }).get? b = some o := fun b o e => Heap.get?_push_of_some _ e
  have al' := al_of_map al
  have hn : items.toArray.size = es.length := by simpa using al'.length
  have S := src_pairs (prog := prog) (w := w) (s := { s with heap := h'.push { cls := .type "list_iterator", data := .fields #[.ref l, .int 0 0] }, toks := tk' }) (env := env) (scope := scope) (cl := cl) (x := x) (px := px) (x₂ := x₂) (px₂ := px₂) (tp := tp) (tk₀ := tk₀) (I := h'.objs.size) (ax := l) (items := items.toArray) hh
    (by show _ < (h'.push _).objs.size; rw [Heap.size_push]; exact Nat.lt_succ_self _) ⟨_, Heap.get?_push_size _ rfl, rfl, rfl⟩ (hl.push _) (fun i hi => by
      obtain ⟨e, he, r⟩ := al_get al' i items[i] (by simp at hi ⊢)
      obtain ⟨t, a, b, q, x⟩ := rd_pd r
      obtain ⟨o, e1, e2⟩ := x
      exact ⟨t, _, _, by rw [List.getElem?_toArray]; exact List.getElem?_eq_some_iff.mpr ⟨by simpa using hi, q⟩, o, up _ _ e1, e2⟩) hx hx₂ hxx hkind
  rw [hn] at S
  refine hQ _ _ _ _ (x₁.trans (Ext.of up)) ?_ (S.imp fun i m hi hB => ?_)
  · exact Ext.none x₁ (Heap.get?_none_of_le (Nat.le_refl _))
  · obtain ⟨t, a, b, hv, htup, hm1, hm2⟩ := hB
    obtain ⟨e, he, r⟩ := al_get al' i (.ref t) (by simpa using hv)
    obtain ⟨t', tk1, tk2, q, x⟩ := rd_pd r
    cases q
    obtain ⟨o, e1, e2, n, e3⟩ := x
    obtain ⟨o', e1', e2', n', e3'⟩ := htup
    rw [up _ _ e1] at e1'
    cases e1'
    rw [e3] at e3'
    cases e3'
    exact ⟨e, he, tk1, tk2, hm1, hm2⟩
end
end Mine
end

-- part O3
section
open PySem PySem.W PyProof.Rows PySem.Calls PySem.Spec
set_option maxRecDepth 100000
set_option maxHeartbeats 8000000
namespace Mine
def paths6 : List Str := [Str.ofString "b", Str.ofString "b/b", Str.ofString "b/a", Str.ofString "a", Str.ofString "a/b", Str.ofString "a/a"]
def head1 (x : Str) : Str := Txt.slice x none (some 1)
def cut2 (x : Str) : Str := Txt.slice x none (some (-2))
theorem ok6 : (paths6.all fun x => PyData.strOk x && PyData.strOk (head1 x) && PyData.strOk (cut2 x) && decide (x.length ≤ 10)) = true := by decide +kernel
structure OkS (x : Str) : Prop where
  ok : PyData.strOk x = true
  head : PyData.strOk (head1 x) = true
  cut : PyData.strOk (cut2 x) = true
  len : x.length ≤ sizeLine
theorem okS {x : Str} (h : x ∈ paths6) : OkS x := by
  have := List.all_eq_true.mp ok6 x h
  simp only [Bool.and_eq_true, decide_eq_true_eq] at this
  exact ⟨this.1.1.1, this.1.1.2, this.1.2, Nat.le_trans this.2 (by decide)⟩
def OkE (es : List (Str × Int)) : Prop := ∀ e ∈ es, e.1 ∈ paths6
def OkP (ps : List Str) : Prop := ∀ x ∈ ps, x ∈ paths6
theorem small_str {x : Str} (h : PyData.strOk x = true) : Small (.str x) := ⟨by simpa [PyData.canLay0] using h, rfl, by simp [PyData.depth]⟩
theorem small_pd {e : Str × Int} (h : PyData.strOk e.1 = true) : Small (pd e) := ⟨by simp [pd, PyData.canLay0, PyData.canLayAll0, h], rfl, by simp [pd, PyData.depth, PyData.depthAll]⟩
theorem OkE.small {es : List (Str × Int)} (h : OkE es) : ∀ d ∈ es.map pd, Small d := fun d hd => by
  obtain ⟨e, he, rfl⟩ := List.mem_map.mp hd; exact small_pd (okS (h e he)).ok
theorem OkP.small {es : List Str} (h : OkP es) : ∀ d ∈ es.map PyData.str, Small d := fun d hd => by
  obtain ⟨e, he, rfl⟩ := List.mem_map.mp hd; exact small_str (okS (h e he)).ok
theorem OkE.filter {es : List (Str × Int)} (h : OkE es) (p : Str × Int → Bool) : OkE (es.filter p) := fun e he => h e (List.mem_filter.mp he).1
theorem OkP.filter {es : List Str} (h : OkP es) (p : Str → Bool) : OkP (es.filter p) := fun e he => h e (List.mem_filter.mp he).1
theorem OkE.append {es fs : List (Str × Int)} (h : OkE es) (k : OkE fs) : OkE (es ++ fs) := fun e he => (List.mem_append.mp he).elim (h e) (k e)
theorem OkE.paths {es : List (Str × Int)} (h : OkE es) : OkP (es.map (·.1)) := fun x hx => by
  obtain ⟨e, he, rfl⟩ := List.mem_map.mp hx; exact h e he
theorem Ld.sqx {h h' : Heap} {v : Value} {ds : List PyData} (x : Ld h v ds) (nd : ∀ d ∈ ds, Small d) (k : Sqx h h') : Ld h' v ds := x.sq (fun d hd => (nd d hd).nd) k

/-- membership, as python has it -/
def hasE (es : List (Str × Int)) (e : Str × Int) : Bool := es.any fun y => y.1 == e.1 && y.2 == e.2
def hasP (ps : List Str) (x : Str) : Bool := ps.any fun y => y == x
theorem eqv_pd (e f : Str × Int) : PyData.eqv (pd e) (pd f) = (e.1 == f.1 && e.2 == f.2) := by simp [pd, PyData.eqv, PyData.eqvAll]
theorem any_pd (es : List (Str × Int)) (e : Str × Int) : ((es.map pd).any fun y => PyData.eqv y (pd e)) = hasE es e := by simp [hasE, List.any_map, Function.comp_def, eqv_pd]
theorem any_str (es : List Str) (e : Str) : ((es.map PyData.str).any fun y => PyData.eqv y (.str e)) = hasP es e := by simp [hasP, List.any_map, Function.comp_def, PyData.eqv]
theorem filter_pd (es xs : List (Str × Int)) : (es.map pd).filter (keptD (xs.map pd)) = (es.filter fun e => !hasE xs e).map pd := by
  rw [List.filter_map]; congr 1; apply List.filter_congr; intro e _; simp only [Function.comp_def, keptD, any_pd]
theorem filter_str (es xs : List Str) : (es.map PyData.str).filter (keptD (xs.map PyData.str)) = (es.filter fun e => !hasP xs e).map PyData.str := by
  rw [List.filter_map]; congr 1; apply List.filter_congr; intro e _; simp only [Function.comp_def, keptD, any_str]

section
variable {prog : Program} {w : World} {A : Around} {E : Value → Shared → Prop} {s : Shared} {env : Env}
/-- a text's first part -/
theorem slTo {value upper : Expr} {p pos : Pos} {Q : Value → Shared → Prop}
    (h : wpAny (model prog w) A (eval value env) (fun o s₁ => wpAny (model prog w) A (eval upper env) (fun i s₂ => ∃ x t j u, o = .str x t ∧ i = .int j u ∧ x.length ≤ sizeLine ∧
      ∀ h' tk' t', (∀ b o, s₂.heap.get? b = some o → h'.get? b = some o) → Q (.str (Txt.slice x none (some j)) t') { s₂ with heap := h', toks := tk' }) E s₁) E s)
    (ht : ∀ x t r, letTemporaryGo value (.str x t) r = pure () := by intro _ _ _; with_unfolding_all rfl) :
    wpAny (model prog w) A (eval (.Subscript value (.Slice none (some upper) none p) pos) env) Q E s := by
  refine Subscript_ (wpAny_mono h (fun o s₁ h₁ => wpAny_Slice (evalPart_none_step (evalPart_some_step (wpAny_mono h₁ (fun i s₂ h₂ => evalPart_none_step ?_) fun _ _ e => e)))) fun _ _ e => e)
  obtain ⟨x, t, j, u, rfl, rfl, hsz, hQ⟩ := h₂
  refine tail_of_ItemOn (ops := [.ref s₂.heap.objs.size, .str x t]) ⟨"str", _, PySem.F.slot_str_getitem.lookup, typeIs_str _ _ _, wpAny_getItem_str_slice (l := none) (u := some (j, u)) (st := none) ⟨_, Heap.get?_push_size _ rfl, rfl, rfl⟩ rfl
    (post_val_or_str ⟨Nat.le_trans (Txt.slice_le x _ _) hsz, fun t' k => hQ _ k t' fun b o e => Heap.get?_push_of_some _ e⟩)⟩ (by with_unfolding_all rfl) (ht x t)
theorem tup0 {value : Expr} {kd : Nat} {p pos : Pos} {Q : Value → Shared → Prop}
    (h : wpAny (model prog w) A (eval value env) (fun o s₁ => ∃ t a b, o = .ref t ∧ IsTup s₁.heap t #[a, b] ∧ ∀ tk', Q a { s₁ with toks := tk' }) E s)
    (ht : ∀ o r, letTemporaryGo value o r = pure () := by intro _ _; rfl) :
    wpAny (model prog w) A (eval (.Subscript value (.Constant (.int 0) kd p) pos) env) Q E s := by
  refine Subscript_Constant (wpAny_mono h (fun o s₁ h₁ => wpAny_Constant_int ?_) fun _ _ e => e) ht
  obtain ⟨t, a, b, rfl, htup, hQ⟩ := h₁
  exact ⟨"tuple", _, slot_tuple_getitem.lookup, htup.typeIs, getItem_tuple htup (by decide) (by decide) (j := 0) rfl rfl (hQ _)⟩
theorem tup1 {value : Expr} {kd : Nat} {p pos : Pos} {Q : Value → Shared → Prop}
    (h : wpAny (model prog w) A (eval value env) (fun o s₁ => ∃ t a b, o = .ref t ∧ IsTup s₁.heap t #[a, b] ∧ ∀ tk', Q b { s₁ with toks := tk' }) E s)
    (ht : ∀ o r, letTemporaryGo value o r = pure () := by intro _ _; rfl) :
    wpAny (model prog w) A (eval (.Subscript value (.Constant (.int 1) kd p) pos) env) Q E s := by
  refine Subscript_Constant (wpAny_mono h (fun o s₁ h₁ => wpAny_Constant_int ?_) fun _ _ e => e) ht
  obtain ⟨t, a, b, rfl, htup, hQ⟩ := h₁
  exact ⟨"tuple", _, slot_tuple_getitem.lookup, htup.typeIs, getItem_tuple htup (by decide) (by decide) (j := 1) rfl rfl (hQ _)⟩
theorem Ld.reads {h : Heap} {v : Value} {ds : List PyData} (x : Ld h v ds) : ∃ as, Reads h v (.list ds) as := by
  obtain ⟨a, items, rfl, ⟨n, e⟩, al⟩ := x
  obtain ⟨as, r⟩ := readsAll_of al
  exact ⟨_, .list e rfl rfl (by simpa using r)⟩
theorem inPL {c : Value} {ps : List Str} {x : Str} {t : Tok} {Q : Value → Shared → Prop} (hc : PL s.heap c ps) (sm : ∀ x ∈ ps, PyData.strOk x = true) (hx : PyData.strOk x = true) (hu : A.units + 40 < cLine) (h : Q (.bool (hasP ps x)) s) :
    wpAny (model prog w) A (compareOp .In (.str x t) c) Q E s := by
  obtain ⟨as, r⟩ := hc.reads
  refine SeqAt.in_list_reads r (.str x t) (canLayAll_of fun d hd => ?_) (by simpa [PyData.canLay0] using hx) ?_ (by rw [any_str]; exact h)
  · obtain ⟨e, he, rfl⟩ := List.mem_map.mp hd; exact small_str (sm e he)
  · have := Nat.min_le_right (PyData.depthAll (ps.map PyData.str)) (PyData.str x).depth
    have h2 : (PyData.str x).depth ≤ 8 := (small_str hx).dep
    omega
theorem ninPL {c : Value} {ps : List Str} {x : Str} {t : Tok} {Q : Value → Shared → Prop} (hc : PL s.heap c ps) (sm : ∀ x ∈ ps, PyData.strOk x = true) (hx : PyData.strOk x = true) (hu : A.units + 40 < cLine) (h : Q (.bool (!hasP ps x)) s) :
    wpAny (model prog w) A (compareOp .NotIn (.str x t) c) Q E s := by
  obtain ⟨as, r⟩ := hc.reads
  refine SeqAt.notIn_list_reads r (.str x t) (canLayAll_of fun d hd => ?_) (by simpa [PyData.canLay0] using hx) ?_ (by rw [any_str]; exact h)
  · obtain ⟨e, he, rfl⟩ := List.mem_map.mp hd; exact small_str (sm e he)
  · have := Nat.min_le_right (PyData.depthAll (ps.map PyData.str)) (PyData.str x).depth
    have h2 : (PyData.str x).depth ≤ 8 := (small_str hx).dep
    omega
/-- list + list -/
theorem catLd {u v : Value} {ds es : List PyData} {Q : Value → Shared → Prop} (hu : Ld s.heap u ds) (hv : Ld s.heap v es) (sd : ∀ d ∈ ds, Small d) (se : ∀ d ∈ es, Small d) (hsz : ds.length + es.length ≤ sizeLine)
    (h : ∀ a h', (∀ b o, s.heap.get? b = some o → h'.get? b = some o) → s.heap.get? a = none → Ld h' (.ref a) (ds ++ es) → Q (.ref a) { s with heap := h' }) : wpAny (model prog w) A (binaryOp .Add u v) Q E s := by
  obtain ⟨a, items, rfl, ⟨n, e⟩, al⟩ := hu
  obtain ⟨b, its, rfl, ⟨k, e'⟩, al'⟩ := hv
  refine PySem.P.add_list (show IsL s.heap a items.toArray n from e) (show IsL s.heap b its.toArray k from e') ?_ (by simpa [al.length, al'.length] using hsz)
  have up : ∀ b o, s.heap.get? b = some o → (s.heap.push { cls := .type "list", data := .seq (items.toArray ++ its.toArray) }).get? b = some o := fun b o e => Heap.get?_push_of_some _ e
  refine h _ _ up (Heap.get?_none_of_le (Nat.le_refl _)) ⟨_, items ++ its, rfl, ⟨0, ?_⟩, ?_⟩
  · rw [Heap.get?_push_size _ rfl]; simp [W.listOf]
  · have app : ∀ {l l' : List Value} {k k' : List PyData} {R : Value → PyData → Prop}, Al R l k → Al R l' k' → Al R (l ++ l') (k ++ k') := by
      intro l l' k k' R x y
      induction x with
      | nil => exact y
      | cons h _ ih => exact .cons h ih
    exact app (al_mem al fun _ d hd r => r.sq (sd d hd).nd fun b o _ q => up b o q) (al_mem al' fun _ d hd r => r.sq (se d hd).nd fun b o _ q => up b o q)
end
end Mine
end

-- part O4
section
open PySem PySem.W PyProof.Rows PySem.Calls PySem.Spec
set_option maxRecDepth 100000
set_option maxHeartbeats 8000000
namespace Mine
theorem fill10 : (PySem.Challenge.rw_il0044_01, hd.heap_39) = (PySem.Challenge.rw_il0044_01, hd.heap_39) := by
  k_fill
  rfl
def isDirI (m : Int) : Bool := Builtin.bitAnd m 61440 == 16384
def isChrI (m : Int) : Bool := Builtin.bitAnd m 61440 == 8192
def isMark (e : Str × Int) : Bool := isChrI e.2 && Builtin.bitAnd e.2 4095 == 0
def goneF (layer : List (Str × Int)) (e : Str × Int) : Bool := hasP (layer.map (·.1)) e.1 || hasP ((layer.filter fun e => !isDirI e.2).map (·.1)) (head1 e.1)
def laidF (view layer : List (Str × Int)) : List (Str × Int) := (layer.filter fun e => !hasE (layer.filter isMark) e) ++ (view.filter fun e => !hasE (view.filter (goneF layer)) e)

section
variable {w : World} {mean : ExcName → Option Value} {mg mb : Str → Option Value} {bs : Heap}
variable {prog : Program} {A : Around} {E : Value → Shared → Prop} {s : Shared}

theorem Ext.like {A : Around} {a b h h' : Heap} (_x : Ext A a b) (up : ∀ b o, h.get? b = some o → h'.get? b = some o) : Ext A h h' := Ext.of up
theorem tup_ext {A : Around} {h h' : Heap} {t : Addr} {xs : Array Value} (x : IsTup h t xs) (e : Ext A h h') : IsTup h' t xs := by
  obtain ⟨o, e1, e2, n, e3⟩ := x
  exact ⟨o, e.nd e1 (sq_nd ⟨_, n, e3⟩), e2, n, e3⟩
theorem tr_filter {α : Type} (l : List α) : (l.filter fun _ => true) = l := List.filter_eq_self.mpr fun _ _ => rfl
theorem mapid {α : Type} (l : List α) : l.map (fun x => x) = l := List.map_id' l
theorem rdP {β : Type} {f : β → PyData} {h h' : Heap} {v : Value} {e : β} (hs : Small (f e)) (k : Sqx h h') (r : Rd h v (f e)) : Rd h' v (f e) := r.sq hs.nd k

theorem laid_spec {vv vl : Value} {view layer : List (Str × Int)} (a : At w mean mg mb bs A s.heap) (hroom : A.depth + 4 < recursionLimit) (hu : A.units + 80 < cLine)
    (hv : EL s.heap vv view) (hl : EL s.heap vl layer) (okv : OkE view) (okl : OkE layer) (szv : view.length ≤ 100) (szl : layer.length ≤ 100) :
    GW prog w A (call (.ref 107) [vv, vl]) s (fun v h' => EL h' v (laidF view layer)) := by
  intro Q E hQ
  have big : (200 : Nat) < sizeLine := by decide
  refine enter (binds := [(Str.ofString "view", vv), (Str.ofString "layer", vl)]) a (by omega) (by k_is) (by k_is) (BindsTo.of_eq rfl) (kindsX rfl) rfl rfl rfl ?_
  intro L h₁ tk hL F B
  have hh := a.hand
  -- paths
  refine asgC F B (lcE (es := layer) (f := fun e => e.1) (p := fun _ => true) (P := fun h v x => Rd h v (.str x)) (srcP hh (gw_of (v := vl) (fun Q E h => nmL F.ns rfl h) (hl.ext okl.small F.keep))) ?_ ?_ ?_ (by omega)) ?_ rfl
  · intro e he C h tk m'' h0 hn hB hx hs hC
    exact fun Q E hQ => wpAny_tests_nil (hQ true h tk (Ext.refl _ _) rfl)
  · intro e he hp C D h tk m'' h0 hn hB hx hs hC hD hD0 hL
    obtain ⟨t, t', h1, h2⟩ := hB
    exact gw_of (fun Q E h => nmL hn h1 h) ⟨_, .str _ _⟩
  · intro e he h h' v k r
    exact r.sq rfl k
  intro v h₂ h₃ tk₃ sq₂ sq₃ r F₃ B₃
  obtain ⟨D₁, ys₁, rfl, -, l₁, al₁⟩ := r
  rw [tr_filter] at al₁
  have paths₂ : PL h₂ (.ref D₁) (layer.map (·.1)) := ⟨D₁, ys₁, rfl, l₁, al_to_map al₁⟩
  have paths₃ := paths₂.sqx okl.paths.small sq₃
  clear paths₂ sq₂ al₁ l₁
  dsimp only
  -- blocks
  refine asgC F₃ B₃ (lcE (es := layer) (f := fun e => e.1) (p := fun e => !isDirI e.2) (P := fun h v x => Rd h v (.str x)) (srcP hh (gw_of (v := vl) (fun Q E h => nmL F₃.ns rfl h) (hl.ext okl.small F₃.keep))) ?_ ?_ ?_ (by omega)) ?_ rfl
  · intro e he C h tk m'' h0 hn hB hx hs hC
    obtain ⟨t, t', h1, h2⟩ := hB
    intro Q E hQ
    have B' := B₃.ext hx
    refine wpAny_tests_one (isTrue_not (isTrue_plain (cDef (fa := 35) B' (by k_is) (by k_is) (spliced_more (nmL hn h2 (spliced_none ⟨B'.kin, ?_⟩))))))
    refine isdir_spec B' (by show A.depth + 1 + 1 < _; omega) _ _ fun v h' tk' x' r => ?_
    subst r
    exact wpAny_truthy_bool (hQ _ h' tk' x' rfl)
  · intro e he hp C D h tk m'' h0 hn hB hx hs hC hD hD0 hL
    obtain ⟨t, t', h1, h2⟩ := hB
    exact gw_of (fun Q E h => nmL hn h1 h) ⟨_, .str _ _⟩
  · intro e he h h' v k r
    exact r.sq rfl k
  intro v h₄ h₅ tk₅ sq₄ sq₅ r F₅ B₅
  obtain ⟨D₂, ys₂, rfl, -, l₂, al₂⟩ := r
  have blocks₄ : PL h₄ (.ref D₂) ((layer.filter fun e => !isDirI e.2).map (·.1)) := ⟨D₂, ys₂, rfl, l₂, al_to_map al₂⟩
  have okb := (okl.filter fun e => !isDirI e.2).paths
  have blocks₅ := blocks₄.sqx okb.small sq₅
  have paths₅ := paths₃.sqx okl.paths.small (sq₄.trans sq₅)
  clear blocks₄ sq₄ sq₅ al₂ l₂ sq₃
  dsimp only
  -- gone
  refine asgLC (es := view) (ff := fun e => pd e) (p := goneF layer) (P := fun h v d => Rd h v d) F₅ B₅ (srcN (P0 := fun h v e => Rd h v (pd e)) hh (gw_of (v := vv) (fun Q E h => nmL F₅.ns rfl h) ?_) ?_) ?_ ?_ ?_ (by omega) ?_
  · obtain ⟨l, items, rfl, ll, al⟩ := hv.ext okv.small F₅.keep
    exact ⟨l, items, rfl, ll, al_of_map al⟩
  · exact fun e he h h' v k r => rdP (small_pd (okS (okv e he)).ok) k r
  · intro e he C h tk m'' h0 hn hB hx hs hC
    obtain ⟨v, hm, r⟩ := hB
    have oe := okS (okv e he)
    have r' := rdP (small_pd oe.ok) hs r
    obtain ⟨t, t1, t2, rfl, htup⟩ := rd_pd r'
    have F' := F₅.ext rfl hx
    have p' := paths₅.sqx okl.paths.small hx.sqx
    have b' := blocks₅.sqx okb.small hx.sqx
    intro Q E hQ
    refine wpAny_tests_one (isTrue_or (wpAny_isTrue_Compare1 (tup0 (nmL hn hm ⟨t, _, _, rfl, htup, fun tk' => ?_⟩))))
    refine nmC rfl (F'.cell (x := Str.ofString "paths") rfl rfl) (inPL p' (fun x hx => (okS (okl.paths x hx)).ok) oe.ok (by show A.units + 3 + 40 < _; omega) (wpAny_truthy_bool ?_))
    cases hp : hasP (layer.map (·.1)) e.1 with
    | true =>
      simp only [if_true]
      exact hQ true h tk' (Ext.refl _ _) (by simp [goneF, hp])
    | false =>
      simp only [Bool.false_eq_true, if_false]
      refine isTrue_or (wpAny_isTrue_Compare1 (slTo (tup0 (nmL hn hm ⟨t, _, _, rfl, htup, fun tk₂ => ?_⟩))))
      refine wpAny_Constant_int ⟨_, _, _, _, rfl, rfl, oe.len, fun h' tk₃ t' up => ?_⟩
      have F'' := F'.ext rfl (hx.like up)
      refine nmC rfl (F''.cell (x := Str.ofString "blocks") rfl rfl) (inPL (b'.sqx okb.small fun b o _ q => up b o q) (fun x hx => (okS (okb x hx)).ok) oe.head (by show A.units + 3 + 40 < _; omega) (wpAny_truthy_bool ?_))
      cases hb : hasP ((layer.filter fun e => !isDirI e.2).map (·.1)) (head1 e.1) with
      | true =>
        rw [show hasP _ (Txt.slice e.1 none (some 1)) = true from hb]
        simp only [if_true]
        exact hQ true h' tk₃ (Ext.of up) (by simp [goneF, hp, hb])
      | false =>
        rw [show hasP _ (Txt.slice e.1 none (some 1)) = false from hb]
        simp only [Bool.false_eq_true, if_false]
        exact isTrue_or_nil (hQ false h' tk₃ (Ext.of up) (by simp [goneF, hp, hb]))
  · intro e he hp C D h tk m'' h0 hn hB hx hs hC hD hD0 hL
    obtain ⟨v, hm, r⟩ := hB
    exact gw_of (fun Q E h => nmL hn hm h) (rdP (small_pd (okS (okv e he)).ok) (sq_to_hide hs hD0) r)
  · exact fun e he h h' v k r => rdP (small_pd (okS (okv e he)).ok) k r
  intro D₃ ys₃ h₇ tk₇ sq₇ l₃ al₃ F₇ B₇
  have gone₇ : EL h₇ (.ref D₃) (view.filter (goneF layer)) := ⟨D₃, ys₃, rfl, l₃, al₃⟩
  clear al₃ l₃ sq₇ paths₅ blocks₅ paths₃
  -- marks
  refine asgLC (es := layer) (ff := fun e => pd e) (p := isMark) (P := fun h v d => Rd h v d) F₇ B₇ (srcN (P0 := fun h v e => Rd h v (pd e)) hh (gw_of (v := vl) (fun Q E h => nmL F₇.ns rfl h) ?_) ?_) ?_ ?_ ?_ (by omega) ?_
  · obtain ⟨l, items, rfl, ll, al⟩ := hl.ext okl.small F₇.keep
    exact ⟨l, items, rfl, ll, al_of_map al⟩
  · exact fun e he h h' v k r => rdP (small_pd (okS (okl e he)).ok) k r
  · intro e he C h tk m'' h0 hn hB hx hs hC
    obtain ⟨v, hm, r⟩ := hB
    have oe := okS (okl e he)
    have r' := rdP (small_pd oe.ok) hs r
    obtain ⟨t, t1, t2, rfl, htup⟩ := rd_pd r'
    have B' := B₇.ext hx
    intro Q E hQ
    refine wpAny_tests_one (isTrue_and (isTrue_plain (cDef (fa := 42) B' (by k_is) (by k_is) (spliced_more (tup1 (nmL hn hm ⟨t, _, _, rfl, htup, fun tk' => spliced_none ⟨B'.kin, ?_⟩⟩))))))
    refine ischr_spec (s := { s with heap := h, toks := tk' }) B' (by show A.depth + 1 + 1 < _; omega) _ _ fun v h' tk₂ x' r => ?_
    subst r
    refine wpAny_truthy_bool ?_
    cases hp : (Builtin.bitAnd e.2 61440 == 8192) with
    | false =>
      simp only [Bool.false_eq_true, if_false]
      exact hQ false h' tk₂ x' (by simp [isMark, isChrI, hp])
    | true =>
      simp only [if_true]
      have B'' := B'.ext x'
      have htup' := tup_ext htup x'
      refine isTrue_and (wpAny_isTrue_Compare1 (cDef (fa := 21) B'' (by k_is) (by k_is) (spliced_more (tup1 (nmL (x'.ns hn) hm ⟨t, _, _, rfl, htup', fun tk' => spliced_none ⟨B''.kin, ?_⟩⟩)))))
      refine imode_spec (s := { s with heap := h', toks := tk' }) B'' (by show A.depth + 1 < _; omega) _ _ fun v h'' tk₃ x'' r => ?_
      obtain ⟨t', rfl⟩ := r
      refine wpAny_Constant_int (eq_int (wpAny_truthy_bool ?_))
      cases hb : (Builtin.bitAnd e.2 4095 == 0) with
      | false =>
        simp only [Bool.false_eq_true, if_false]
        exact hQ false h'' _ (x'.trans x'') (by simp [isMark, hb])
      | true =>
        simp only [if_true]
        exact isTrue_and_nil (hQ true h'' _ (x'.trans x'') (by simp [isMark, isChrI, hp, hb]))
  · intro e he hp C D h tk m'' h0 hn hB hx hs hC hD hD0 hL
    obtain ⟨v, hm, r⟩ := hB
    exact gw_of (fun Q E h => nmL hn hm h) (rdP (small_pd (okS (okl e he)).ok) (sq_to_hide hs hD0) r)
  · exact fun e he h h' v k r => rdP (small_pd (okS (okl e he)).ok) k r
  intro D₄ ys₄ h₉ tk₉ sq₉ l₄ al₄ F₉ B₉
  have marks₉ : EL h₉ (.ref D₄) (layer.filter isMark) := ⟨D₄, ys₄, rfl, l₄, al₄⟩
  have gone₉ := gone₇.sqx (okv.filter _).small sq₉
  clear al₄ l₄ sq₉ gone₇
  have view₉ := hv.ext okv.small F₉.keep
  have layer₉ := hl.ext okl.small F₉.keep
  refine ex_return (R := fun v h' => EL h' v (laidF view layer)) ?_ fun v h₂ tk₂ x₂ r => hQ v h₂ tk₂ (F₉.ext rfl x₂).keep r
  intro Q E hQ
  refine wpAny_BinOp (cDef (fa := 86) B₉ (by k_is) (by k_is) (spliced_more (nmL F₉.ns rfl (spliced_more (nmL F₉.ns rfl (spliced_none ⟨B₉.kin, ?_⟩))))))
  refine filter_spec B₉ (by show A.depth + 1 + 2 < _; omega) (by show A.units + 3 + 60 < _; omega) layer₉ marks₉ okl.small (okl.filter _).small (by simp; omega) _ _ fun v₁ h₁₀ tk₁₀ x₁₀ r₁ => ?_
  rw [filter_pd] at r₁
  have B₁₀ := B₉.ext x₁₀
  have F₁₀ := F₉.ext rfl x₁₀
  refine cDef (fa := 86) B₁₀ (by k_is) (by k_is) (spliced_more (nmL F₁₀.ns rfl (spliced_more (nmL F₁₀.ns rfl (spliced_none ⟨B₁₀.kin, ?_⟩)))))
  refine filter_spec (s := { s with heap := h₁₀, toks := tk₁₀ }) B₁₀ (by show A.depth + 1 + 2 < _; omega) (by show A.units + 3 + 60 < _; omega) (view₉.ext okv.small x₁₀) (gone₉.ext (okv.filter _).small x₁₀) okv.small (okv.filter _).small (by simp; omega) _ _ fun v₂ h₁₁ tk₁₁ x₁₁ r₂ => ?_
  rw [filter_pd] at r₂
  have l1 := List.length_filter_le (fun e => !hasE (layer.filter isMark) e) layer
  have l2 := List.length_filter_le (fun e => !hasE (view.filter (goneF layer)) e) view
  refine catLd (s := { s with heap := h₁₁, toks := tk₁₁ }) (r₁.ext (okl.filter _).small x₁₁) r₂ (okl.filter _).small (okv.filter _).small (by simp only [List.length_map]; omega) fun a' h' up _ r => ?_
  refine hQ _ h' tk₁₁ ((x₁₀.trans x₁₁).trans (Ext.of up)) ?_
  rw [← List.map_append] at r
  exact r
end
end Mine
end

-- part O5
section
open PySem PySem.W PyProof.Rows PySem.Calls PySem.Spec
set_option maxRecDepth 100000
set_option maxHeartbeats 8000000
namespace Mine
theorem fill11 : (PySem.Challenge.rw_il0044_01, hd.heap_39) = (PySem.Challenge.rw_il0044_01, hd.heap_39) := by
  k_fill
  rfl
def lostF (old new : List (Str × Int)) : List Str := (old.map (·.1)).filter fun x => !hasP (new.map (·.1)) x
def blocksF (old new : List (Str × Int)) : List Str := lostF old new ++ (new.filter fun e => !isDirI e.2).map (·.1)
def layerF (old new : List (Str × Int)) : List (Str × Int) := (new.filter fun e => !hasE old e) ++ ((lostF old new).filter fun x => !hasP (blocksF old new) (cut2 x)).map fun x => (x, 8192)
theorem OkP.append {es fs : List Str} (h : OkP es) (k : OkP fs) : OkP (es ++ fs) := fun e he => (List.mem_append.mp he).elim (h e) (k e)
theorem okLost {old new : List (Str × Int)} (h : OkE old) : OkP (lostF old new) := h.paths.filter _
theorem okBlocks {old new : List (Str × Int)} (h : OkE old) (k : OkE new) : OkP (blocksF old new) := (okLost h).append (k.filter _).paths
theorem okLayer {old new : List (Str × Int)} (h : OkE old) (k : OkE new) : OkE (layerF old new) := (k.filter _).append fun e he => by
  obtain ⟨x, hx, rfl⟩ := List.mem_map.mp he; exact okLost h x (List.mem_filter.mp hx).1
theorem lenLost (old new : List (Str × Int)) : (lostF old new).length ≤ old.length := by
  have := List.length_filter_le (fun x => !hasP (new.map (·.1)) x) (old.map (·.1)); rw [List.length_map] at this; exact this
theorem lenBlocks (old new : List (Str × Int)) : (blocksF old new).length ≤ old.length + new.length := by
  unfold blocksF
  have := lenLost old new
  have := List.length_filter_le (fun e : Str × Int => !isDirI e.2) new
  simp only [List.length_append, List.length_map]; omega
theorem lenLayer (old new : List (Str × Int)) : (layerF old new).length ≤ old.length + new.length := by
  unfold layerF
  have := lenLost old new
  have := List.length_filter_le (fun e => !hasE old e) new
  have := List.length_filter_le (fun x => !hasP (blocksF old new) (cut2 x)) (lostF old new)
  simp only [List.length_append, List.length_map]; omega
theorem okLaid {old new : List (Str × Int)} (h : OkE old) (k : OkE new) : OkE (laidF old new) := (k.filter _).append (h.filter _)
theorem lenLaid (old new : List (Str × Int)) : (laidF old new).length ≤ old.length + new.length := by
  unfold laidF
  have := List.length_filter_le (fun e => !hasE (new.filter isMark) e) new
  have := List.length_filter_le (fun e => !hasE (old.filter (goneF new)) e) old
  simp only [List.length_append]; omega

section
variable {w : World} {mean : ExcName → Option Value} {mg mb : Str → Option Value} {bs : Heap}
variable {prog : Program} {A : Around} {E : Value → Shared → Prop} {s : Shared}

theorem GW.run {α : Type} {t : Sem α} {R : α → Heap → Prop} {Q : α → Shared → Prop} (g : GW prog w A t s R) (k : ∀ v h' tk', Ext A s.heap h' → R v h' → Q v { s with heap := h', toks := tk' }) : wpAny (model prog w) A t Q E s := g Q E k

theorem layer_spec {vo vn : Value} {old new : List (Str × Int)} (a : At w mean mg mb bs A s.heap) (hroom : A.depth + 4 < recursionLimit) (hu : A.units + 80 < cLine)
    (hv : EL s.heap vo old) (hl : EL s.heap vn new) (okv : OkE old) (okl : OkE new) (szv : old.length ≤ 100) (szl : new.length ≤ 100) :
    GW prog w A (call (.ref 112) [vo, vn]) s (fun v h' => EL h' v (layerF old new) ∧ ∀ a, v = .ref a → s.heap.get? a = none) := by
  intro Q E hQ
  have big : (400 : Nat) < sizeLine := by decide
  refine enter (binds := [(Str.ofString "old", vo), (Str.ofString "new", vn)]) a (by omega) (by k_is) (by k_is) (BindsTo.of_eq rfl) (kindsX rfl) rfl rfl rfl ?_
  intro L h₁ tk hL F B
  have hh := a.hand
  -- lost
  refine asgL F B (R := fun v h => PL h v (lostF old new)) ?_ ?_
  · intro Q E hQ
    refine cDef (fa := 86) B (by k_is) (by k_is) (spliced_more ?_)
    refine GW.run (lcE (es := old) (f := fun e => e.1) (p := fun _ => true) (P := fun h v x => Rd h v (.str x)) (srcP hh (gw_of (v := vo) (fun Q E h => nmL F.ns rfl h) (hv.ext okv.small F.keep))) ?_ ?_ ?_ (by omega)) ?_
    · intro e he C h tk m'' h0 hn hB hx hs hC
      exact fun Q E hQ => wpAny_tests_nil (hQ true h tk (Ext.refl _ _) rfl)
    · intro e he hp C D h tk m'' h0 hn hB hx hs hC hD hD0 hL
      obtain ⟨t, t', h1, h2⟩ := hB
      exact gw_of (fun Q E h => nmL hn h1 h) ⟨_, .str _ _⟩
    · intro e he h h' v k r
      exact r.sq rfl k
    intro v h₂ tk₂ x₂ r
    obtain ⟨D₁, ys₁, rfl, -, l₁, al₁⟩ := r
    rw [tr_filter] at al₁
    have p₂ : PL h₂ (.ref D₁) (old.map (·.1)) := ⟨D₁, ys₁, rfl, l₁, al_to_map al₁⟩
    have F₂ := F.ext rfl x₂
    have B₂ := B.ext x₂
    refine spliced_more ?_
    refine GW.run (lcE (s := { s with heap := h₂, toks := tk₂ }) (es := new) (f := fun e => e.1) (p := fun _ => true) (P := fun h v x => Rd h v (.str x)) (srcP hh (gw_of (v := vn) (fun Q E h => nmL F₂.ns rfl h) (hl.ext okl.small F₂.keep))) ?_ ?_ ?_ (by omega)) ?_
    · intro e he C h tk m'' h0 hn hB hx hs hC
      exact fun Q E hQ => wpAny_tests_nil (hQ true h tk (Ext.refl _ _) rfl)
    · intro e he hp C D h tk m'' h0 hn hB hx hs hC hD hD0 hL
      obtain ⟨t, t', h1, h2⟩ := hB
      exact gw_of (fun Q E h => nmL hn h1 h) ⟨_, .str _ _⟩
    · intro e he h h' v k r
      exact r.sq rfl k
    intro v h₃ tk₃ x₃ r
    obtain ⟨D₂, ys₂, rfl, -, l₂, al₂⟩ := r
    rw [tr_filter] at al₂
    have q₃ : PL h₃ (.ref D₂) (new.map (·.1)) := ⟨D₂, ys₂, rfl, l₂, al_to_map al₂⟩
    have B₃ := B₂.ext x₃
    refine spliced_none ⟨B₃.kin, ?_⟩
    refine filter_spec (s := { s with heap := h₃, toks := tk₃ }) B₃ (by show A.depth + 1 + 2 < _; omega) (by show A.units + 3 + 60 < _; omega) (p₂.ext okv.paths.small x₃) q₃ okv.paths.small okl.paths.small (by simp; omega) _ _ fun v₁ h₁₀ tk₁₀ x₁₀ r₁ => ?_
    rw [filter_str] at r₁
    exact hQ _ h₁₀ tk₁₀ ((x₂.trans x₃).trans x₁₀) r₁
  intro vL h₂ h₃ tk₃ sq₂ sq₃ r F₃ B₃
  have lost₃ := r.sqx (okLost okv).small sq₃
  clear r sq₂ sq₃
  -- blocks
  refine asgC F₃ B₃ (R := fun v h => PL h v (blocksF old new)) ?_ ?_ rfl
  · intro Q E hQ
    refine wpAny_BinOp (nmL F₃.ns rfl ?_)
    refine GW.run (lcE (es := new) (f := fun e => e.1) (p := fun e => !isDirI e.2) (P := fun h v x => Rd h v (.str x)) (srcP hh (gw_of (v := vn) (fun Q E h => nmL F₃.ns rfl h) (hl.ext okl.small F₃.keep))) ?_ ?_ ?_ (by omega)) ?_
    · intro e he C h tk m'' h0 hn hB hx hs hC
      obtain ⟨t, t', h1, h2⟩ := hB
      intro Q E hQ
      have B' := B₃.ext hx
      refine wpAny_tests_one (isTrue_not (isTrue_plain (cDef (fa := 35) B' (by k_is) (by k_is) (spliced_more (nmL hn h2 (spliced_none ⟨B'.kin, ?_⟩))))))
      refine isdir_spec B' (by show A.depth + 1 + 1 < _; omega) _ _ fun v h' tk' x' r => ?_
      subst r
      exact wpAny_truthy_bool (hQ _ h' tk' x' rfl)
    · intro e he hp C D h tk m'' h0 hn hB hx hs hC hD hD0 hL
      obtain ⟨t, t', h1, h2⟩ := hB
      exact gw_of (fun Q E h => nmL hn h1 h) ⟨_, .str _ _⟩
    · intro e he h h' v k r
      exact r.sq rfl k
    intro v h₄ tk₄ x₄ r
    obtain ⟨D₂, ys₂, rfl, -, l₂, al₂⟩ := r
    have b₄ : PL h₄ (.ref D₂) ((new.filter fun e => !isDirI e.2).map (·.1)) := ⟨D₂, ys₂, rfl, l₂, al_to_map al₂⟩
    have l1 := lenLost old new
    have l2 := List.length_filter_le (fun e : Str × Int => !isDirI e.2) new
    refine catLd (s := { s with heap := h₄, toks := tk₄ }) (lost₃.ext (okLost okv).small x₄) b₄ (okLost okv).small (okl.filter _).paths.small (by simp only [List.length_map]; omega) fun a' h' up _ r => ?_
    refine hQ _ h' tk₄ (x₄.trans (Ext.of up)) ?_
    rw [← List.map_append] at r
    exact r
  intro v₂ h₄ h₅ tk₅ sq₄ sq₅ r F₅ B₅
  have blocks₅ := r.sqx (okBlocks okv okl).small sq₅
  have lost₅ := lost₃.sqx (okLost okv).small (sq₄.trans sq₅)
  clear r sq₄ sq₅ lost₃
  refine ex_return (R := fun v h' => EL h' v (layerF old new) ∧ ∀ a, v = .ref a → s.heap.get? a = none) ?_ fun v h₂ tk₂ x₂ r => hQ v h₂ tk₂ (F₅.ext rfl x₂).keep r
  intro Q E hQ
  refine wpAny_BinOp (cDef (fa := 86) B₅ (by k_is) (by k_is) (spliced_more (nmL F₅.ns rfl (spliced_more (nmL F₅.ns rfl (spliced_none ⟨B₅.kin, ?_⟩))))))
  refine filter_spec B₅ (by show A.depth + 1 + 2 < _; omega) (by show A.units + 3 + 60 < _; omega) (hl.ext okl.small F₅.keep) (hv.ext okv.small F₅.keep) okl.small okv.small (by simp; omega) _ _ fun v₁ h₁₀ tk₁₀ x₁₀ r₁ => ?_
  rw [filter_pd] at r₁
  have B₁₀ := B₅.ext x₁₀
  have F₁₀ := F₅.ext rfl x₁₀
  have lost₁₀ := lost₅.ext (okLost okv).small x₁₀
  have blocks₁₀ := blocks₅.ext (okBlocks okv okl).small x₁₀
  refine GW.run (lcE (s := { s with heap := h₁₀, toks := tk₁₀ }) (es := lostF old new) (f := fun x => pd (x, 8192)) (p := fun x => !hasP (blocksF old new) (cut2 x)) (P := fun h v d => Rd h v d) (srcN (P0 := fun h v x => Rd h v (.str x)) hh (gw_of (v := vL) (fun Q E h => nmL F₁₀.ns rfl h) ?_) ?_) ?_ ?_ ?_ (by have := lenLost old new; omega)) ?_
  · obtain ⟨l, items, e, ll, al⟩ := lost₁₀
    exact ⟨l, items, e, ll, al_of_map al⟩
  · exact fun e he h h' v k r => r.sq rfl k
  · intro e he C h tk m'' h0 hn hB hx hs hC
    obtain ⟨v, hm, r⟩ := hB
    obtain ⟨t, rfl⟩ := rd_str r
    have oe := okS (okLost okv e he)
    intro Q E hQ
    refine wpAny_tests_one (wpAny_isTrue_Compare1 (slTo (nmL hn hm (wpAny_UnaryOp (wpAny_Constant_int (neg_int ⟨_, _, _, _, rfl, rfl, oe.len, fun h' tk₃ t' up => ?_⟩))))))
    have F'' := F₁₀.ext rfl (hx.trans (hx.like up))
    refine nmC rfl (F''.cell (x := Str.ofString "blocks") rfl rfl) (ninPL ((blocks₁₀.ext (okBlocks okv okl).small hx).sqx (okBlocks okv okl).small fun b o _ q => up b o q) (fun x hx => (okS (okBlocks okv okl x hx)).ok) oe.cut (by show A.units + 3 + 40 < _; omega) (wpAny_truthy_bool ?_))
    exact hQ _ h' tk₃ (Ext.of up) rfl
  · intro e he hp C D h tk m'' h0 hn hB hx hs hC hD hD0 hL
    obtain ⟨v, hm, r⟩ := hB
    obtain ⟨t, rfl⟩ := rd_str r
    intro Q E hQ
    refine wpAny_Tuple (spliced_more (nmL hn hm (spliced_more (wpAny_Constant_int (spliced_none ⟨by show 2 ≤ _; omega, ?_⟩)))))
    have up : ∀ b o, h.get? b = some o → (h.push { cls := .type "tuple", data := .seq #[.str e t, .int 8192 tk] }).get? b = some o := fun b o q => Heap.get?_push_of_some _ q
    refine hQ _ _ _ (Ext.of up) ?_
    have hDh : D ≠ h.objs.size := fun q => by obtain ⟨ys, n, e⟩ := hL; rw [q] at e; exact Nat.lt_irrefl _ (Heap.lt_size e)
    exact rd_of_tup (e := (e, 8192)) ⟨_, (Heap.hide_ne _ (Ne.symm hDh)).trans (Heap.get?_push_size _ rfl), rfl, 0, rfl⟩
  · exact fun e he h h' v k r => r.sq rfl k
  intro v₂ h₁₁ tk₁₁ x₁₁ r
  obtain ⟨D₃, ys₃, rfl, -, l₃, al₃⟩ := r
  have c₁₁ : EL h₁₁ (.ref D₃) (((lostF old new).filter fun x => !hasP (blocksF old new) (cut2 x)).map fun x => (x, 8192)) := ⟨D₃, ys₃, rfl, l₃, by rw [List.map_map]; exact al₃⟩
  have okc : OkE (((lostF old new).filter fun x => !hasP (blocksF old new) (cut2 x)).map fun x => (x, (8192 : Int))) := fun e he => by
    obtain ⟨x, hx, rfl⟩ := List.mem_map.mp he; exact okLost okv x (List.mem_filter.mp hx).1
  have lt := lenLayer old new
  unfold layerF at lt
  refine catLd (s := { s with heap := h₁₁, toks := tk₁₁ }) (r₁.ext (okl.filter _).small x₁₁) c₁₁ (okl.filter _).small okc.small (by simp only [List.length_map, List.length_append] at lt ⊢; omega) fun a' h' up ha' r => ?_
  refine hQ _ h' tk₁₁ ((x₁₀.trans x₁₁).trans (Ext.of up)) ?_
  rw [← List.map_append] at r
  exact ⟨r, fun a e => by cases e; exact Ext.none (F₁₀.ext rfl x₁₁).keep ha'⟩
end
end Mine
end

-- part Q1
section
open PySem PySem.W PyProof.Rows PySem.Calls PySem.Spec
set_option maxRecDepth 100000
set_option maxHeartbeats 8000000
namespace Mine
theorem lk_list_keys : typeLookup (.type "list") "keys" = pure none := by rw [typeLookup_type, builtinLookup_eq_fast]; kernel_rfl
theorem plain_upd_loop : plainId "dict.update.loop" = true := by decide +kernel
theorem entry_upd_loop : entryFor table "dict.update.loop" = some Builtin.«dict.update.loop» := entryFor_of_tree (by kernel_rfl)
section
variable {prog : Program} {w : World} {A : Around} {E : Value → Shared → Prop} {s : Shared}

theorem noKeys {a : Addr} {xs : Array Value} {k : Nat} {Q : Option Value → Shared → Prop} (hx : s.heap.get? a = some (W.listOf xs k)) (hA : A.handled = none)
    (h : ∀ h' tk, (∀ b o, s.heap.get? b = some o → h'.get? b = some o) → Q none { s with heap := h', toks := tk }) :
    wpAny (model prog w) A (getAttr? (.ref a) (Str.ofString "keys")) Q E s := by
  obtain ⟨hp, g, d, tk, os⟩ := s
  have hT : ∀ tk', (⟨hp, g, d, tk', os⟩ : Shared).TypeIs (.ref a) "list" := fun _ => ⟨_, hx, rfl⟩
  have f1 := sub_AttributeError
  have f3 := PySem.F.slot_list_getattribute.lookup
  have f4 := PySem.F.slot_list_getattribute.bind (.ref a)
  have f5 := am_list_getattr_none
  unfold getAttr? getAttrBy? getAttrBy
  repeat (any_goals (first | assumption | exact hT _ | ((with_reducible show wpAny _ _ (call (Value.builtin "list.__getattribute__") _ _) _ _ _); refine call_meets PySem.F.slot_list_getattribute (hT _) am_entry_list_getattribute (PySem.F.args_list_getattribute_2 _ _) (meets_getattribute_miss_list a xs k #[] (Str.ofString "keys") _ lk_list_keys (by decide) (by decide)) ⟨hx, hA, fun h' tk' e hx' => ?_⟩) | wp_step))
  obtain ⟨t', u', he⟩ := hx'.there
  show wpAny _ _ (getattributeRaised _ _ _ _ _ _ _) _ _ _
  unfold getattributeRaised
  repeat (any_goals (first | assumption | wp_step))
  exact h _ _ hx'.keeps

/-- what a dict of paths to figures holds -/
def DK (kvs : List (Str × Value)) (es : List (Str × Int)) : Prop := Al (fun kv e => kv.1 = e.1 ∧ ∃ t, kv.2 = .int e.2 t) kvs es
theorem DK.keys {kvs : List (Str × Value)} {es : List (Str × Int)} (x : DK kvs es) : kvs.map (·.1) = es.map (·.1) := by
  induction x with
  | nil => rfl
  | cons h _ ih => simp only [List.map_cons, h.1, ih]
def DIs (prog : Program) (w : World) (h : Heap) (d : Addr) (es : List (Str × Int)) : Prop := ∃ kvs, h.DictOf (strKind prog w) d kvs ∧ DK kvs es

theorem stored_new {kvs : List (Str × Value)} {k : Str} {v : Value} (h : k ∉ kvs.map (·.1)) : stored kvs k v = kvs ++ [(k, v)] := by
  unfold stored
  rw [if_neg]
  intro q
  obtain ⟨kv, hm, he⟩ := List.any_eq_true.mp q
  exact h (List.mem_map.mpr ⟨kv, hm, by simpa using he⟩)

theorem upd_loop {d I l : Addr} {items : List Value} {es : List (Str × Int)} {R : Result → Shared → Prop} {s0 : Shared} (hh : A.handled = none)
    (hl0 : LstAt s0.heap l items) (al : Al (fun y e => Rd s0.heap y (pd e)) items es) (nd : (es.map (·.1)).Nodup) (hsz : es.length < sizeLine) (hIl : I ≠ l) (hId : I ≠ d) (hI0 : s0.heap.get? I = none) (hd0 : s0.heap.get? d = none)
    (hR : ∀ h' tk', (∀ b o, s0.heap.get? b = some o → h'.get? b = some o) → DIs prog w h' d es → R (.ok (.ret .none)) { s0 with heap := h', toks := tk' }) :
    ∀ (n j : Nat) (t : Tok) (h : Heap) (tk : Nat), es.length - j < n → j ≤ es.length → (∀ b o, s0.heap.get? b = some o → h.get? b = some o) → h.IsListIter I l j → DIs prog w h d (es.take j) →
    codeAny (model prog w) A (.builtin "dict.update.loop" ⟨[.ref d, .ref I, .int j t, .none], []⟩) R { s0 with heap := h, toks := tk } := by
  have hn : items.toArray.size = es.length := by simpa using al.length
  have hld : l ≠ d := fun q => by obtain ⟨n, e⟩ := hl0; rw [q, hd0] at e; cases e
  intro n
  induction n with
  | zero => intro j t h tk hn; exact absurd hn (Nat.not_lt_zero _)
  | succ n ih =>
    intro j t h tk hlt hj kp it hd
    have W := Walks.list (prog := prog) (w := w) (A := A.in1) hh I l (Ne.symm hIl) items.toArray
    have hlh : h.IsList l items.toArray := by obtain ⟨n, e⟩ := hl0; exact ⟨_, kp _ _ e, rfl, n, rfl⟩
    refine codeAny_builtin entry_upd_loop ?_
    rw [Around.under_plainId plain_upd_loop _]
    show wpAny _ A.in1 (pyNext (.ref I) >>= _) _ _ _
    by_cases hjn : j < es.length
    · refine wpAny_bind (W.item j _ _ _ (by rw [hn]; exact hjn) ⟨it, hlh⟩ fun v h' tk' hP hst' hk => ?_)
      have hP' : items[j]? = some v := by have : items.toArray[j]? = some v := hP; simpa using this
      obtain ⟨e, he, r⟩ := al_get al j v hP'
      have kp' : ∀ b o, s0.heap.get? b = some o → h'.get? b = some o := fun b o q => hk b o (by simp only [List.mem_singleton]; rintro rfl; rw [hI0] at q; cases q) (kp b o q)
      obtain ⟨tp, t1, t2, rfl, htup⟩ := rd_pd r
      obtain ⟨o, e1, e2, nn, e3⟩ := htup
      have e1' := kp' _ _ e1
      have hd' : DIs prog w h' d (es.take j) := by
        obtain ⟨kvs, ⟨o, es', ep, q, rr⟩, dk⟩ := hd
        exact ⟨kvs, ⟨o, es', ep, hk _ _ (by simpa using Ne.symm hId) q, rr⟩, dk⟩
      obtain ⟨kvs, hdo, dk⟩ := hd'
      have hnew : e.1 ∉ kvs.map (·.1) := by
        rw [dk.keys]
        have hs : es = es.take j ++ e :: es.drop (j + 1) := by
          obtain ⟨h1, h2⟩ := List.getElem?_eq_some_iff.mp he
          rw [← h2, List.getElem_cons_drop, List.take_append_drop]
        rw [hs, List.map_append, List.map_cons] at nd
        exact fun q => (List.nodup_append.mp nd).2.2 _ q _ (.head _) rfl
      show wpAny _ A.in1 (holding [Value.ref tp] _ >>= _) _ _ _
      refine wpAny_bind (wpAny_holding ?_)
      refine wpAny_bind (wpAny_tryCatch ?_)
      unfold Builtin.Dict.pairItems
      refine wpAny_bind (wpAny_typeOf (T := "tuple") ⟨o, e1', e2⟩ ?_)
      have hty : (Value.type "tuple" == Value.type "list" || Value.type "tuple" == Value.type "tuple") = true := by decide
      simp only [hty, if_true]
      refine wpAny_bind (wpAny_seqItems e1' e3 (wpAny_pure ?_))
      show wpAny _ A.in1 (holding [Value.str e.1 t1, Value.int e.2 t2] (dictSet d (.str e.1 t1) (.int e.2 t2))) _ _ _
      refine wpAny_holding (wpAny_dictSet_pairs (K := Str) (knd := strKind prog w) (k := e.1) (by show Value.isStrOf e.1 (.str e.1 t1) = true; simp [Value.isStrOf]) hdo (fun h'' hd'' hs'' => ?_) (by
        have := dk.length; rw [this, List.length_take]; omega))
      rw [stored_new hnew] at hd''
      refine wpAny_pure ⟨plainId_quiet plain_upd_loop _, ?_⟩
      refine ih (j + 1) _ h'' _ (by omega) hjn (fun b o q => hs''.extBut b o (fun z => by rw [z, hd0] at q; cases q) (kp' b o q)) (hst'.1.extBut hs''.extBut hId) ⟨_, hd'', ?_⟩
      rw [List.take_add_one, he]
      exact dk.snoc ⟨rfl, t2, rfl⟩
    · obtain rfl : j = es.length := by omega
      refine wpAny_bind (W.done _ _ _ (by rw [hn]; exact ⟨it, hlh⟩) fun h' tk' hk => ?_)
      rw [List.take_length] at hd
      have hd' : DIs prog w h' d es := by
        obtain ⟨kvs, ⟨o, es', ep, q, rr⟩, dk⟩ := hd
        exact ⟨kvs, ⟨o, es', ep, hk _ _ (by simpa using Ne.symm hId) q, rr⟩, dk⟩
      show wpAny _ A.in1 (Builtin.Dict.addKeywords d [] >>= _) _ _ _
      exact wpAny_bind (wpAny_pure (wpAny_pure (hR h' tk' (fun b o q => hk b o (by simp only [List.mem_singleton]; rintro rfl; rw [hI0] at q; cases q) (kp b o q)) hd')))

theorem mkDict {vl : Value} {es : List (Str × Int)} {Q : Value → Shared → Prop} (hh : A.handled = none) (hl : EL s.heap vl es) (_ok : OkE es) (nd : (es.map (·.1)).Nodup) (hsz : es.length < sizeLine)
    (hQ : ∀ d h' tk', (∀ b o, s.heap.get? b = some o → h'.get? b = some o) → s.heap.objs.size ≤ d → DIs prog w h' d es → Q (.ref d) { s with heap := h', toks := tk' }) :
    wpAny (model prog w) A (call (.type "dict") [vl]) Q E s := by
  obtain ⟨l, items, rfl, ll, al⟩ := hl
  refine callType_codes (Q₁ := fun obj s₁ => obj = .ref s.heap.objs.size ∧ s₁ = { s with heap := s.heap.push { cls := .type "dict", data := .dict #[] } }) PySem.F.kt_called_dict (PySem.F.kt_typeCall_dict_1 _) PySem.F.entry_dict_init (kt_code_dict_new _ ⟨rfl, rfl⟩) ?_
  rintro obj s₁ ⟨rfl, rfl⟩
  have hnew : (s.heap.push { cls := .type "dict", data := .dict #[] }).DictOf (strKind prog w) s.heap.objs.size [] := Heap.DictOf.new s.heap
  have up₁ : ∀ b o, s.heap.get? b = some o → (s.heap.push { cls := .type "dict", data := .dict #[] }).get? b = some o := fun b o e => Heap.get?_push_of_some _ e
  have hd0 : s.heap.get? s.heap.objs.size = none := Heap.get?_none_of_le (Nat.le_refl _)
  have hs1 : (s.heap.push { cls := .type "dict", data := .dict #[] }).objs.size = s.heap.objs.size + 1 := Heap.size_push ..
  generalize s.heap.push { cls := .type "dict", data := .dict #[] } = h₁ at *
  refine ⟨hnew.typeIs, PySem.F.args_dict_init_2 _ _, ?_⟩
  unfold Builtin.«dict.__init__»
  refine wpAny_bind ?_
  unfold Builtin.Dict.selfAndRest
  refine wpAny_bind (wpAny_notOrdered_dict hnew.typeIs ?_)
  show wpAny _ _ (pure (s.heap.objs.size, [Value.ref l])) _ _ _
  refine wpAny_pure ?_
  show wpAny _ _ (Builtin.Dict.updateFrom "dict.__init__" s.heap.objs.size (.ref l) [] .none) _ _ _
  obtain ⟨q, e⟩ := id ll
  unfold Builtin.Dict.updateFrom
  refine wpAny_bind (wpAny_typeOf (T := "list") ⟨_, up₁ _ _ e, rfl⟩ ?_)
  rw [if_pos (by decide)]
  show wpAny _ _ (getAttr? (Value.ref l) (Str.ofString "keys") >>= _) _ _ _
  refine wpAny_bind (noKeys (up₁ _ _ e) hh fun h₂ tk₂ up₂ => ?_)
  simp only [Option.isNone_none, if_true]
  refine wpAny_bind (wpAny_rule ?_)
  have e₂ := up₂ _ _ (up₁ _ _ e)
  refine wpAny_bind (wpAny_pyIter_list (items := items.toArray) ⟨_, e₂, rfl, q, rfl⟩ ?_)
  refine wpAny_pure ⟨plainId_quiet plain_upd_loop _, ?_⟩
  have up₃ : ∀ b o, h₂.get? b = some o → (h₂.push { cls := .type "list_iterator", data := .fields #[.ref l, .int 0 0] }).get? b = some o := fun b o e => Heap.get?_push_of_some _ e
  have hI0 : s.heap.get? h₂.objs.size = none := by
    cases z : s.heap.get? h₂.objs.size with
    | none => rfl
    | some o => exact absurd (Heap.lt_size (up₂ _ _ (up₁ _ _ z))) (Nat.lt_irrefl _)
  have hd₂ : s.heap.objs.size < h₂.objs.size := by
    obtain ⟨o, _, _, z, _⟩ := hnew
    exact Heap.lt_size (up₂ _ _ z)
  refine upd_loop (A := A.in1) (s0 := s) (items := items) (es := es) hh ll (al_of_map al) nd hsz (fun z => ?_) (fun z => ?_) hI0 hd0 ?_ (es.length + 1) 0 _ _ _ (by omega) (Nat.zero_le _) (fun b o z => up₃ _ _ (up₂ _ _ (up₁ _ _ z))) ⟨_, Heap.get?_push_size _ rfl, rfl, rfl⟩ ⟨[], ?_, .nil⟩
  · rw [z, e] at hI0; cases hI0
  · rw [z] at hd₂; exact Nat.lt_irrefl _ hd₂
  · intro h' tk' kp hd
    exact ⟨rfl, hQ _ h' tk' kp (Nat.le_refl _) hd⟩
  · obtain ⟨o, es', ep, z, rr⟩ := hnew
    exact ⟨o, es', ep, up₃ _ _ (up₂ _ _ z), rr⟩
end
end Mine
end

-- part Q2
section
open PySem PySem.W PyProof.Rows PySem.Calls PySem.Spec
set_option maxRecDepth 100000
set_option maxHeartbeats 8000000
namespace Mine
section
variable {prog : Program} {w : World} {mean : ExcName → Option Value} {mg mb : Str → Option Value} {bs : Heap}
variable {A : Around} {E : Value → Shared → Prop} {s : Shared} {g : Heap} {L f : Addr} {scope : Scope} {qual : Str} {cdv : Value} {A₀ : Around} {m cm : Str → Option Value}

/-- the frame, when an object off it changes -/
theorem FS.off {I : Addr} {h h' : Heap} (fs : FS bs A₀ g L scope h m cm) (hg : g.get? I = none) (hIL : I ≠ L) (hIf : ∃ o, h.get? I = some o ∧ ¬ ∃ v, o.data = .cell v) (hk : ∀ b o, b ≠ I → h.get? b = some o → h'.get? b = some o) : FS bs A₀ g L scope h' m cm := by
  refine ⟨fs.ns.at fun o e => hk _ o (Ne.symm hIL) e, fun b o e => ?_, fs.above, fs.low, ⟨fun n c q => ?_, fs.cl.apart, fs.cl.above⟩⟩
  · have hb : b ≠ I := fun q => by rw [q, hg] at e; cases e
    rcases fs.keep b o e with e1 | ⟨f1, d1, sl, e1⟩
    · exact .inl (hk b o hb e1)
    · exact .inr ⟨f1, d1, sl, hk b _ hb e1⟩
  · have x := fs.cl.cell n c q
    obtain ⟨o, e, hd⟩ := x
    refine ⟨o, hk c o (fun z => ?_) e, hd⟩
    obtain ⟨o', e', hn⟩ := hIf
    rw [z, e'] at e
    cases e
    exact hn ⟨_, hd⟩

theorem for_core {x : Str} {px : Pos} {body : List Stmt} {I n : Nat} {fp : List Addr} {P : Nat → Value → Prop} {St : Nat → Heap → Prop} {J : Nat → Heap → (Str → Option Value) → Prop} {R : Result → Shared → Prop}
    (W : Walks prog w (A₀.deeper (envOfC qual scope L f cdv)) I fp [I] n P St) (hSI : ∀ i h, St i h → ∃ o, h.get? I = some o ∧ ∃ vs, o.data = .fields vs)
    (hIg : g.get? I = none) (hIL : I ≠ L) (hIb : bs.get? I = none) (hIf : I ∉ frs (A₀.deeper (envOfC qual scope L f cdv)))
    (hfp : ∀ b ∈ fp, b ≠ L)
    (hJ : ∀ i h h' m m', Sqx h h' → (∀ y, y ≠ x → m' y = m y) → J i h m → J i h' m')
    (F : FS bs A₀ g L scope s.heap m cm) (B : At w mean mg mb bs (A₀.deeper (envOfC qual scope L f cdv)) s.heap) (st : St 0 s.heap) (j0 : J 0 s.heap m)
    (step : ∀ (i : Nat) (v : Value) (h : Heap) (tk : Nat) (m : Str → Option Value) (Q : Flow → Shared → Prop) (E : Value → Shared → Prop), i < n → P i v → FS bs A₀ g L scope h (fun y => if y = x then some v else m y) cm → At w mean mg mb bs (A₀.deeper (envOfC qual scope L f cdv)) h → St (i + 1) h → J i h (fun y => if y = x then some v else m y) →
      (∀ h' tk' m', FS bs A₀ g L scope h' m' cm → At w mean mg mb bs (A₀.deeper (envOfC qual scope L f cdv)) h' → St (i + 1) h' → J (i + 1) h' m' → Q .next { s with heap := h', toks := tk' }) →
      wpAny (model prog w) (A₀.deeper (envOfC qual scope L f cdv)) (execs body (envOfC qual scope L f cdv)) Q E { s with heap := h, toks := tk })
    (hR : ∀ h tk m, FS bs A₀ g L scope h m cm → At w mean mg mb bs (A₀.deeper (envOfC qual scope L f cdv)) h → J n h m → R (.ok .next) { s with heap := h, toks := tk })
    (hk : scope.kind = .function := by rfl) (hl : (envOfC qual scope L f cdv).kindOf x = some .local := by rfl) :
    codeAny (model prog w) (A₀.deeper (envOfC qual scope L f cdv)) (.forLoop (.Name x px) (.ref I) body [] (envOfC qual scope L f cdv)) R s := by
  refine codeAny_forLoop_any (fun k s' => ∃ i h tk m, s' = { s with heap := h, toks := tk } ∧ i ≤ n ∧ k = n + 1 - i ∧ FS bs A₀ g L scope h m cm ∧ At w mean mg mb bs (A₀.deeper (envOfC qual scope L f cdv)) h ∧ St i h ∧ J i h m) ?_ (n + 1)
    ⟨0, s.heap, s.toks, m, rfl, Nat.zero_le _, rfl, F, B, st, j0⟩
  rintro k s' ⟨i, h, tk, m₁, rfl, hi, rfl, F₁, B₁, st₁, j₁⟩
  have hIo : ∃ o, h.get? I = some o ∧ ¬ ∃ v, o.data = .cell v := by
    obtain ⟨o, e, vs, hd⟩ := hSI i h st₁
    exact ⟨o, e, fun ⟨v, q⟩ => by rw [hd] at q; cases q⟩
  have hsq : ∀ h' : Heap, (∀ b o, b ≠ I → h.get? b = some o → h'.get? b = some o) → Sqx h h' := fun h' kk b o ho e => kk b o (fun q => by
    obtain ⟨o', e', vs, hd⟩ := hSI i h st₁
    rw [q, e'] at e; cases e
    exact fields_not_sq ⟨vs, hd⟩ ho) e
  by_cases hlt : i < n
  · refine W.item i _ _ _ hlt st₁ fun v h₂ tk₂ hP st₂ hk₂ => ?_
    have kk : ∀ b o, b ≠ I → h.get? b = some o → h₂.get? b = some o := fun b o hb e => hk₂ b o (by simpa using hb) e
    have F₂ := F₁.off hIg hIL hIo kk
    have B₂ := B₁.extB (ExtB.of kk) (.inr ⟨hIb, hIf⟩)
    refine wpAny_of_eq (show letOwnedTupleGo (.Name x px) (.ref I) v = pure () from rfl) ?_
    refine wpAny_assign_Name ?_
    refine FS.stL (s := { s with heap := h₂, toks := tk₂ }) F₂ B₂ (fun h₃ tk₃ hs₃ sq₃ F₃ B₃ => ?_) hk hl
    refine step i v h₃ tk₃ m₁ _ _ hlt hP F₃ B₃ (W.frame _ _ _ st₂ fun b hb o e => hs₃.extBut b o (hfp b hb) e) (hJ i h h₃ m₁ _ ((hsq _ kk).trans sq₃) (fun y hy => by simp [hy]) j₁) fun h' tk' m' F' B' st' j' => ?_
    exact ⟨n + 1 - (i + 1), by omega, i + 1, h', tk', m', rfl, hlt, rfl, F', B', st', j'⟩
  · obtain rfl : i = n := by omega
    refine W.done _ _ _ st₁ fun h₂ tk₂ hk₂ => ?_
    have kk : ∀ b o, b ≠ I → h.get? b = some o → h₂.get? b = some o := fun b o hb e => hk₂ b o (by simpa using hb) e
    refine wpAny_execs_nil ?_
    exact hR h₂ tk₂ m₁ (F₁.off hIg hIL hIo kk) (B₁.extB (ExtB.of kk) (.inr ⟨hIb, hIf⟩)) (hJ _ h h₂ m₁ m₁ (hsq _ kk) (fun _ _ => rfl) j₁)
end

section
variable {prog : Program} {w : World} {A : Around} {E : Value → Shared → Prop} {s : Shared} {env : Env} {scope : Scope} {cl : List (Str × Addr)}
theorem DIs.at {h h' : Heap} {d : Addr} {es : List (Str × Int)} (x : DIs prog w h d es) (k : ∀ o, h.get? d = some o → h'.get? d = some o) : DIs prog w h' d es := by
  obtain ⟨kvs, ⟨o, es', ep, q, r⟩, dk⟩ := x
  exact ⟨kvs, ⟨o, es', ep, k _ q, r⟩, dk⟩
theorem DIs.ext {A : Around} {h h' : Heap} {d : Addr} {es : List (Str × Int)} (x : DIs prog w h d es) (e : Ext A h h') (hf : d ∉ frs A) : DIs prog w h' d es := x.at fun _ q => e.off q hf
theorem DK.get {kvs : List (Str × Value)} {es : List (Str × Int)} (x : DK kvs es) {i : Nat} {k : Str} {v : Value} (h : kvs[i]? = some (k, v)) : ∃ e t, es[i]? = some e ∧ k = e.1 ∧ v = .int e.2 t := by
  obtain ⟨e, he, hk, t, hv⟩ := al_get x i _ h
  exact ⟨e, t, he, hk, hv⟩
/-- what .get finds -/
def dget (es : List (Str × Int)) (x : Str) : Option Int := (es.find? fun e => e.1 = x).map (·.2)
theorem DK.valueAt {kvs : List (Str × Value)} {es : List (Str × Int)} (x : DK kvs es) (k : Str) : (dget es k = none ∧ PySem.valueAt kvs k = none) ∨ ∃ i t, dget es k = some i ∧ PySem.valueAt kvs k = some (.int i t) := by
  induction x with
  | nil => exact .inl ⟨rfl, rfl⟩
  | cons h _ ih =>
    rename_i kv e kvs' es' _
    obtain ⟨h1, t, h2⟩ := h
    unfold dget PySem.valueAt at ih ⊢
    rw [List.find?_cons, List.find?_cons, h1]
    by_cases q : e.1 = k
    · simp only [q, decide_true, Option.map_some]
      exact .inr ⟨e.2, t, rfl, by rw [h2]⟩
    · simp only [q, decide_false]
      exact ih
theorem isStr_is {x : Str} {t : Tok} : (strKind prog w).is x (.str x t) = true := by show Value.isStrOf x (.str x t) = true; simp [Value.isStrOf]


theorem src_items {x x₂ : Str} {px px₂ tp : Pos} {tk₀ : Nat} {I d ep : Nat} {kvs : List (Str × Value)} (hh : A.handled = none)
    (hI : I < s.heap.objs.size) (hit : IsItemIter s.heap I d 0 kvs.length ep .none .none) (hm : s.heap.DictAt (strKind prog w) d kvs ep) (hdI : d ≠ I) (hdf : d ∉ frs A)
    (hx : scope.names.lookup x = some .local) (hx₂ : scope.names.lookup x₂ = some .local) (hxx : x ≠ x₂) (hkind : scope.kind = .function) :
    CompSrc9 prog w A scope cl env (.Tuple [.Name x px, .Name x₂ px₂] tk₀ tp) s I kvs.length (fun i h => (∃ ok ov, IsItemIter h I d i kvs.length ep ok ov) ∧ h.DictAt (strKind prog w) d kvs ep)
      (fun i m => ∃ k v key, kvs[i]? = some (k, v) ∧ (strKind prog w).is k key = true ∧ m x = some key ∧ m x₂ = some v) where
  hI := hI
  hIf := fun i h o st e => by
    obtain ⟨⟨ok, ov, q⟩, _⟩ := st
    rw [q] at e; cases e; exact ⟨_, rfl⟩
  hst := ⟨⟨_, _, hit⟩, hm⟩
  hframe := fun i h h' st hb hi hb' => by
    obtain ⟨⟨ok, ov, q⟩, _⟩ := st
    refine ⟨⟨ok, ov, hi _ q⟩, ?_⟩
    obtain ⟨o, es, ho, r⟩ := id hm
    rcases hb' d o hdI ho with e | ⟨f, _⟩
    · exact ⟨o, es, e, r⟩
    · exact absurd f hdf
  hself := fun h tk Q E st hQ => by
    obtain ⟨⟨ok, ov, q⟩, _⟩ := st
    exact kcp_self (s := { s with heap := h, toks := tk }) q hQ
  hdone := fun h tk Q E st hQ => by
    obtain ⟨⟨ok, ov, q⟩, hm'⟩ := st
    refine wpAny_pyNext_items_end (s := { s with heap := h, toks := tk }) hh q hm' (by simp) fun h' he => ?_
    exact hQ h' tk fun b o hb e => he b o hb e
  hturn := fun i C h tk m' Q E hi st hn hC hCI hb hQ => by
    obtain ⟨⟨ok, ov, q⟩, hm'⟩ := st
    obtain ⟨⟨k, v⟩, hkv⟩ : ∃ p, kvs[i]? = some p := ⟨kvs[i], by simp [hi]⟩
    refine wpAny_pyNext_items_item (s := { s with heap := h, toks := tk }) q hm' hkv fun key h₁ hkey heo ht₁ hz₁ hk₁ => ⟨_, rfl, ?_⟩
    have hIh : I < h.objs.size := Heap.lt_size q
    refine wpAny_letOwnedTupleGo_items (s := { s with heap := h₁, toks := tk }) heo fun h₂ he₂ hs₂ => ?_
    have ht₂ : h₂.IsTuple h.objs.size #[key, v] := ⟨_, (hs₂.2 _ (Nat.ne_of_gt hIh)).trans ht₁, rfl, _, rfl⟩
    have hn₂ : h₂.Ns C m' := (hn.at fun o e => hk₁ _ o hCI e).sameBut hs₂ hCI
    refine kcp_assign (s := { s with heap := h₂, toks := tk }) (m := m') hh ht₂ (lookup_relabel_local hx) (lookup_relabel_local hx₂) (by simp [compEnvC, relabel, hkind]) hn₂ fun h₃ tk₃ hn₃ hk₃ => ?_
    have old : ∀ b o, b ≠ I → b ≠ C → h.get? b = some o → h₃.get? b = some o := fun b o hbI hbC e => hk₃ b o hbC (hs₂.extBut b o hbI (hk₁ b o hbI e))
    have hdC : d ≠ C := fun z => by
      obtain ⟨o, es, ho, r⟩ := id hm
      rw [z, hC] at ho; cases ho
    refine hQ h₃ tk₃ _ ⟨⟨key, v, hk₃ _ _ (Ne.symm hCI) he₂⟩, ?_⟩ hn₃ ⟨k, v, key, hkv, hkey, by simp [hxx], by simp⟩ old
    exact hm'.at fun o e => old d o hdI hdC e

theorem srcI {es : List (Str × Int)} {x x₂ : Str} {px px₂ tp apos pos : Pos} {tk₀ : Nat} {d : Addr} {o : Expr} (hh : A.handled = none) (hdS : (d == sysModules) = false) (hd : DIs prog w s.heap d es) (hdf : d ∉ frs A)
    (hev : ∀ (Q : Value → Shared → Prop) (E : Value → Shared → Prop), Q (.ref d) s → wpAny (model prog w) A (eval o env) Q E s)
    (hbase : attributeBase o (Str.ofString "items") env (eval o env) = eval o env := by rfl) (hline : (apos.endLine == pos.line) = true := by rfl)
    (hx : scope.names.lookup x = some .local := by rfl) (hx₂ : scope.names.lookup x₂ = some .local := by rfl) (hxx : x ≠ x₂ := by decide) (hkind : scope.kind = .function := by rfl) :
    SrcG prog w A scope cl env (.Tuple [.Name x px, .Name x₂ px₂] tk₀ tp) (.Call (.Attribute o (Str.ofString "items") apos) [] [] pos) s es (fun e m _ => ∃ t t', m x = some (.str e.1 t) ∧ m x₂ = some (.int e.2 t')) := by
  intro Q E hQ
  obtain ⟨kvs, hm, dk⟩ := hd
  obtain ⟨ep, hat⟩ := hm.dictAt
  refine wpAny_Call_items hdS hm hbase hline (fun Q' h => hev Q' _ h) ?_
  have up₁ : ∀ b o, s.heap.get? b = some o → (s.heap.push { cls := .type "dict_items", data := .fields #[.ref d] }).get? b = some o := fun b o e => Heap.get?_push_of_some _ e
  refine wpAny_pyIter_items (kvs := kvs) (ep := ep) (d := d) (knd := strKind prog w) ⟨_, Heap.get?_push_size _ rfl, rfl, rfl⟩ (hat.push _) ?_
  dsimp only
  generalize hh₁ : s.heap.push { cls := .type "dict_items", data := .fields #[.ref d] } = h₁ at *
  have hat₁ : h₁.DictAt (strKind prog w) d kvs ep := hat.at fun o e => up₁ d o e
  have up₂ : ∀ b o, h₁.get? b = some o → (h₁.push { cls := .type "dict_itemiterator", data := .fields #[.none, .bool false, .ref d, .int 0 0, .int kvs.length 0, .int ep 0, .none, .none] }).get? b = some o := fun b o e => Heap.get?_push_of_some _ e
  have hlen : kvs.length = es.length := dk.length
  have S := src_items (prog := prog) (w := w) (s := { s with heap := h₁.push { cls := .type "dict_itemiterator", data := .fields #[.none, .bool false, .ref d, .int 0 0, .int kvs.length 0, .int ep 0, .none, .none] } }) (env := env) (scope := scope) (cl := cl) (x := x) (px := px) (x₂ := x₂) (px₂ := px₂) (tp := tp) (tk₀ := tk₀) (I := h₁.objs.size) (d := d) (ep := ep) (kvs := kvs) hh
    (by show _ < (h₁.push _).objs.size; rw [Heap.size_push]; exact Nat.lt_succ_self _) (Heap.get?_push_size _ rfl) (hat₁.at fun o e => up₂ d o e) (Nat.ne_of_lt hat₁.lt_size) hdf hx hx₂ hxx hkind
  refine hQ _ _ _ _ (Ext.of fun b o e => up₂ b o (up₁ b o e)) ?_ (by
    rw [← hlen]
    refine S.imp fun i m hi hB => ?_
    obtain ⟨k, v, key, hkv, hkey, h1, h2⟩ := hB
    obtain ⟨e, t, he, hk, hv⟩ := dk.get hkv
    obtain ⟨t', hk'⟩ := Value.isStrOf_shape (show Value.isStrOf k key = true from hkey)
    exact ⟨e, he, t', t, by rw [h1, hk', hk], by rw [h2, hv]⟩)
  cases z : s.heap.get? h₁.objs.size with
  | none => rfl
  | some o => exact absurd (Heap.lt_size (up₁ _ _ z)) (Nat.lt_irrefl _)

theorem Call_get1 {o : Expr} {args : List Expr} {apos pos : Pos} {d : Addr} {es : List (Str × Int)} {Q : Value → Shared → Prop} (hdS : (d == sysModules) = false)
    (ho : ∀ (Q' : Value → Shared → Prop), Q' (.ref d) s → wpAny (model prog w) A (eval o env) Q' E s) (hd0 : DIs prog w s.heap d es)
    (h : wpAny (model prog w) A (spliced (backTo pos (starEach args env))) (fun vs s₁ => ∃ x t, vs = [.str x t] ∧ DIs prog w s₁.heap d es ∧
      ((dget es x = none → Q .none { s₁ with toks := s₁.toks + 1 }) ∧ ∀ i t, dget es x = some i → Q (.int i t) { s₁ with toks := s₁.toks + 1 })) E s)
    (hargs : ∃ a r, backTo pos (starEach args env) = (false, a) :: r ∧ r.any (·.1) = false)
    (hbase : attributeBase o (Str.ofString "get") env (eval o env) = eval o env := by rfl)
    (hfew : ((backTo pos (starEach args env)).all (fun x => !x.1) && (backToKw pos (keywordEach [] env)).all (fun x => x.1.isSome)
      && decide (args.length + ([] : List Keyword).length + (if ([] : List Keyword).isEmpty then 0 else 1) < 30)) = true := by rfl)
    (hline : (apos.endLine == pos.line) = true := by rfl) :
    wpAny (model prog w) A (eval (.Call (.Attribute o (Str.ofString "get") apos) args [] pos) env) Q E s := by
  obtain ⟨kvs, hm, dk⟩ := id hd0
  refine wpAny_Call_method (T := "dict") (id := "dict.get") hbase hfew hline PySem.F.plainAttrs_dict PySem.F.slot_dict_get PySem.F.type_dict_get (ho _ ⟨hm.typeIs, hm.mapOf.noDict, ?_⟩)
  obtain ⟨a, r, ha, hr⟩ := hargs
  rw [ha] at h ⊢
  refine callWith_builtin (by simpa using hr) (evalArgs_plain (wpAny_mono h (fun vs s₁ h₁ => ?_) fun _ _ e => e))
  obtain ⟨x, t, rfl, ⟨kvs', hm', dk'⟩, q1, q2⟩ := h₁
  refine call_meetsIn PySem.F.slot_dict_get hm'.typeIs PySem.F.entry_dict_get (PySem.F.args_dict_get_2 _ _) (meets_dict_get (strKind prog w) d (k := x) isStr_is hdS) ⟨_, hm'.mapOf, ?_⟩
  rcases dk'.valueAt x with ⟨h1, h2⟩ | ⟨i, t', h1, h2⟩
  · rw [h2]; exact q1 h1
  · rw [h2]; exact q2 i t' h1

theorem Call_get2 {o : Expr} {args : List Expr} {apos pos : Pos} {d : Addr} {es : List (Str × Int)} {Q : Value → Shared → Prop} (hdS : (d == sysModules) = false)
    (ho : ∀ (Q' : Value → Shared → Prop), Q' (.ref d) s → wpAny (model prog w) A (eval o env) Q' E s) (hd0 : DIs prog w s.heap d es)
    (h : wpAny (model prog w) A (spliced (backTo pos (starEach args env))) (fun vs s₁ => ∃ x t j u, vs = [.str x t, .int j u] ∧ DIs prog w s₁.heap d es ∧
      (∀ t, Q (.int ((dget es x).getD j) t) { s₁ with toks := s₁.toks + 1 })) E s)
    (hargs : ∃ a r, backTo pos (starEach args env) = (false, a) :: r ∧ r.any (·.1) = false)
    (hbase : attributeBase o (Str.ofString "get") env (eval o env) = eval o env := by rfl)
    (hfew : ((backTo pos (starEach args env)).all (fun x => !x.1) && (backToKw pos (keywordEach [] env)).all (fun x => x.1.isSome)
      && decide (args.length + ([] : List Keyword).length + (if ([] : List Keyword).isEmpty then 0 else 1) < 30)) = true := by rfl)
    (hline : (apos.endLine == pos.line) = true := by rfl) :
    wpAny (model prog w) A (eval (.Call (.Attribute o (Str.ofString "get") apos) args [] pos) env) Q E s := by
  obtain ⟨kvs, hm, dk⟩ := id hd0
  refine wpAny_Call_method (T := "dict") (id := "dict.get") hbase hfew hline PySem.F.plainAttrs_dict PySem.F.slot_dict_get PySem.F.type_dict_get (ho _ ⟨hm.typeIs, hm.mapOf.noDict, ?_⟩)
  obtain ⟨a, r, ha, hr⟩ := hargs
  rw [ha] at h ⊢
  refine callWith_builtin (by simpa using hr) (evalArgs_plain (wpAny_mono h (fun vs s₁ h₁ => ?_) fun _ _ e => e))
  obtain ⟨x, t, j, u, rfl, ⟨kvs', hm', dk'⟩, q⟩ := h₁
  refine call_meetsIn PySem.F.slot_dict_get hm'.typeIs PySem.F.entry_dict_get (PySem.F.args_dict_get_3 _ _ _) (meets_dict_get_default (strKind prog w) d (k := x) isStr_is hdS _) ⟨_, hm'.mapOf, ?_⟩
  rcases dk'.valueAt x with ⟨h1, h2⟩ | ⟨i, t', h1, h2⟩
  · rw [h2]; rw [h1] at q; exact q u
  · rw [h2]; rw [h1] at q; exact q t'
theorem in_dict {d : Addr} {es : List (Str × Int)} {x : Str} {t : Tok} {Q : Value → Shared → Prop} (hdS : (d == sysModules) = false) (hd : DIs prog w s.heap d es)
    (h : Q (.bool (!(dget es x).isSome)) { s with toks := s.toks + 1 }) : wpAny (model prog w) A (compareOp .NotIn (.str x t) (.ref d)) Q E s := by
  obtain ⟨kvs, hm, dk⟩ := id hd
  refine wpAny_notIn_of (k := x) (knd := strKind prog w) isStr_is hdS hm.mapOf ?_
  rcases dk.valueAt x with ⟨h1, h2⟩ | ⟨i, t', h1, h2⟩
  · rw [h1] at h; rw [h2]; exact h
  · rw [h1] at h; rw [h2]; exact h
end
end Mine
end

-- part Q3
section
open PySem PySem.W PyProof.Rows PySem.Calls PySem.Spec
set_option maxRecDepth 100000
set_option maxHeartbeats 8000000
namespace Mine
theorem fill12 : (PySem.Challenge.rw_il0044_01, hd.heap_39) = (PySem.Challenge.rw_il0044_01, hd.heap_39) := by
  k_fill
  rfl
def chgF (old new : List (Str × Int)) : List (Str × Int) := new.filter fun e => dget old e.1 != some e.2
def toldP (new : List (Str × Int)) (x : Str) : Bool := !(dget new x).isSome && (((x.length : Int) == 1) || ((dget new (Txt.item x 0)).getD 0).fdiv 4096 == 4)
def goneL (new : List (Str × Int)) (ps : List Str) : List (Str × Int) := (ps.filter (toldP new)).map fun x => (x, 8192)
def toldF (old new : List (Str × Int)) : List (Str × Int) := chgF old new ++ goneL new (old.map (·.1))
theorem okg (new : List (Str × Int)) {ps : List Str} (h : OkP ps) : OkE (goneL new ps) := fun e he => by
  obtain ⟨x, hx, rfl⟩ := List.mem_map.mp he; exact h x (List.mem_filter.mp hx).1
theorem len6 : (paths6.all fun x => decide (1 ≤ x.length) && decide (x.length ≤ 10)) = true := by decide +kernel

section
variable {w : World} {mean : ExcName → Option Value} {mg mb : Str → Option Value} {bs : Heap}
variable {prog : Program} {A : Around} {E : Value → Shared → Prop} {s : Shared}

theorem At.sysd {h : Heap} (a : At w mean mg mb bs A h) {d : Addr} (hd : h.objs.size ≤ d) : (d == sysModules) = false := by
  obtain ⟨o, _, _, e, _⟩ := a.top.g
  have h3 : mainGlobals < h.objs.size := Heap.lt_size e
  have : d ≠ sysModules := fun q => by
    rw [q] at hd
    exact absurd (Nat.lt_of_lt_of_le h3 hd) (by decide)
  simpa using this

theorem At.like {h h' : Heap} (_a : At w mean mg mb bs A h) (up : ∀ b o, h.get? b = some o → h'.get? b = some o) : Ext A h h' := Ext.of up

theorem Call_append {o arg : Expr} {apos pos : Pos} {D n : Nat} {its : Array Value} {env : Env} {Q : Value → Shared → Prop} (hD : s.heap.get? D = some (W.listOf its n))
    (ho : ∀ (Q' : Value → Shared → Prop), Q' (.ref D) s → wpAny (model prog w) A (eval o env) Q' E s)
    (h : wpAny (model prog w) A (spliced (backTo pos (starEach [arg] env))) (fun vs s₁ => ∃ x, vs = [x] ∧ its.size ≤ sizeLine ∧ s₁.heap.get? D = some (W.listOf its n) ∧
      ∀ h', Heap.SameBut D s₁.heap h' → h'.get? D = some (W.listOf (its.push x) (n + 1)) → Q .none { s₁ with heap := h' }) E s)
    (hargs : ∃ a r, backTo pos (starEach [arg] env) = (false, a) :: r ∧ r.any (·.1) = false)
    (hbase : attributeBase o (Str.ofString "append") env (eval o env) = eval o env := by rfl)
    (hfew : ((backTo pos (starEach [arg] env)).all (fun x => !x.1) && (backToKw pos (keywordEach [] env)).all (fun x => x.1.isSome)
      && decide ([arg].length + ([] : List Keyword).length + (if ([] : List Keyword).isEmpty then 0 else 1) < 30)) = true := by rfl)
    (hline : (apos.endLine == pos.line) = true := by rfl) :
    wpAny (model prog w) A (eval (.Call (.Attribute o (Str.ofString "append") apos) [arg] [] pos) env) Q E s := by
  refine wpAny_Call_method (T := "list") (id := "list.append") hbase hfew hline PySem.F.plainAttrs_list PySem.F.slot_list_append PySem.F.type_list_append (ho _ ⟨⟨_, hD, rfl⟩, fun a e => by cases e; exact ⟨_, hD, rfl⟩, ?_⟩)
  obtain ⟨a, r, ha, hr⟩ := hargs
  rw [ha] at h ⊢
  refine callWith_builtin (by simpa using hr) (evalArgs_plain (wpAny_mono h (fun vs s₁ h₁ => ?_) fun _ _ e => e))
  obtain ⟨x, rfl, hsz, hD₁, hq⟩ := h₁
  exact append_at (hsz := hsz) hD₁ fun h' hs hd => hq h' hs hd

theorem told_spec {d1 d2 : Addr} {old new : List (Str × Int)} (a : At w mean mg mb bs A s.heap) (hroom : A.depth + 4 < recursionLimit) (hu : A.units + 80 < cLine)
    (h1 : DIs prog w s.heap d1 old) (h2 : DIs prog w s.heap d2 new) (f1 : d1 ∉ frs A) (f2 : d2 ∉ frs A) (s1 : (d1 == sysModules) = false) (s2 : (d2 == sysModules) = false)
    (okv : OkE old) (okl : OkE new) (szv : old.length ≤ 100) (szl : new.length ≤ 100) :
    GW prog w A (call (.ref 117) [.ref d1, .ref d2]) s (fun v h' => EL h' v (toldF old new)) := by
  intro Q E hQ
  have big : (400 : Nat) < sizeLine := by decide
  refine enter (binds := [(Str.ofString "old", .ref d1), (Str.ofString "new", .ref d2)]) a (by omega) (by k_is) (by k_is) (BindsTo.of_eq rfl) (kindsX rfl) rfl rfl rfl ?_
  intro L h₁ tk hL F B
  have hh := a.hand
  have hd1L : d1 ≠ L := fun q => by
    obtain ⟨kvs, ⟨o, es, ep, e, _⟩, _⟩ := h1
    have := Heap.lt_size e; rw [q, hL] at this; exact Nat.lt_irrefl _ this
  have hd2L : d2 ≠ L := fun q => by
    obtain ⟨kvs, ⟨o, es, ep, e, _⟩, _⟩ := h2
    have := Heap.lt_size e; rw [q, hL] at this; exact Nat.lt_irrefl _ this
  have dd1 : ∀ {h}, Ext A s.heap h → DIs prog w h d1 old := fun F => h1.ext F f1
  have dd2 : ∀ {h}, Ext A s.heap h → DIs prog w h d2 new := fun F => h2.ext F f2
  have hf2 : ∀ {env : Env}, env.frame = some L → d2 ∉ frs (A.deeper env) := fun he q => (frs_deeper he q).elim hd2L f2
  -- changed
  refine asgLC (es := new) (ff := fun e => pd e) (p := fun e => dget old e.1 != some e.2) (P := fun h v d => Rd h v d) F B (srcI hh s2 (dd2 F.keep) (hf2 rfl) (fun Q E h => nmL F.ns rfl h)) ?_ ?_ ?_ (by omega) ?_
  · intro e he C h tk m'' h0 hn hB hx hs hC
    obtain ⟨t, t', hm1, hm2⟩ := hB
    have F' := F.ext rfl hx
    intro Q E hQ
    refine wpAny_tests_one (wpAny_isTrue_Compare1 (Call_get1 (d := d1) (es := old) s1 (fun Q h => nmC rfl (F'.cell (x := Str.ofString "old") rfl rfl) h) (dd1 F'.keep) (spliced_more (nmL hn hm1 (spliced_none ⟨e.1, t, rfl, dd1 F'.keep, ?_, ?_⟩))) ⟨_, _, rfl, rfl⟩))
    · intro hg
      refine nmL hn hm2 (ne_dataH .none (.int _ _) rfl (by simp [SeqAt.shaped, PyData.canLay0, PyData.depth]) (by show A.units + 3 + 64 < _; omega) (wpAny_truthy_bool ?_))
      exact hQ _ h _ (Ext.refl _ _) (by simp [hg, PyData.eqv])
    · intro i u hg
      refine nmL hn hm2 (ne_dataH (.int _ _) (.int _ _) (by simp [SeqAt.shaped, PyData.canLay0, PyData.depth]) (by simp [SeqAt.shaped, PyData.canLay0, PyData.depth]) (by show A.units + 3 + 64 < _; omega) (wpAny_truthy_bool ?_))
      exact hQ _ h _ (Ext.refl _ _) (by simp [hg, PyData.eqv, bne])
  · intro e he hp C D h tk m'' h0 hn hB hx hs hC hD hD0 hL
    obtain ⟨t, t', hm1, hm2⟩ := hB
    intro Q E hQ
    refine wpAny_Tuple (spliced_more (nmL hn hm1 (spliced_more (nmL hn hm2 (spliced_none ⟨by show 2 ≤ _; omega, ?_⟩)))))
    have up : ∀ b o, h.get? b = some o → (h.push { cls := .type "tuple", data := .seq #[.str e.1 t, .int e.2 t'] }).get? b = some o := fun b o q => Heap.get?_push_of_some _ q
    refine hQ _ _ _ (Ext.of up) ?_
    have hDh : D ≠ h.objs.size := fun q => by obtain ⟨ys, n, e⟩ := hL; rw [q] at e; exact Nat.lt_irrefl _ (Heap.lt_size e)
    exact rd_of_tup (e := e) ⟨_, (Heap.hide_ne _ (Ne.symm hDh)).trans (Heap.get?_push_size _ rfl), rfl, 0, rfl⟩
  · exact fun e he h h' v k r => rdP (small_pd (okS (okl e he)).ok) k r
  intro D₁ ys₁ h₃ tk₃ sq₃ l₁ al₁ F₃ B₃
  have chg₃ : EL h₃ (.ref D₁) (chgF old new) := ⟨D₁, ys₁, rfl, l₁, al₁⟩
  have okc : OkE (chgF old new) := okl.filter _
  clear al₁ l₁ sq₃
  -- lost
  refine asgL F₃ B₃ (R := fun v h => ∃ D, v = .ref D ∧ h₃.get? D = none ∧ h.get? D = some (W.listOf #[] 0)) ?_ ?_
  · intro Q E hQ
    refine wpAny_List (wpAny_pure ⟨by show 0 ≤ _; omega, ?_⟩)
    have up : ∀ b o, h₃.get? b = some o → (h₃.push { cls := .type "list", data := .seq #[] }).get? b = some o := fun b o q => Heap.get?_push_of_some _ q
    exact hQ _ _ _ (Ext.of up) ⟨_, rfl, Heap.get?_none_of_le (Nat.le_refl _), Heap.get?_push_size _ rfl⟩
  intro v h₄ h₅ tk₅ sq₄ sq₅ r F₅ B₅
  obtain ⟨D, rfl, hD3, hD4⟩ := r
  have hD5 : h₅.get? D = some (W.listOf #[] 0) := sq₅ _ _ ⟨_, _, rfl⟩ hD4
  have hDL : D ≠ L := fun q => by obtain ⟨o, _, _, e, _⟩ := F₃.ns; rw [← q, hD3] at e; cases e
  have hDg : s.heap.get? D = none := Ext.none F₃.keep hD3
  have hDb : bs.get? D = none := by
    cases q : bs.get? D with
    | none => rfl
    | some o => rw [B₃.stay _ _ q] at hD3; cases hD3
  have hDf := B₃.fresh hD3
  have chg₅ : EL (h₅.hide D) (.ref D₁) (chgF old new) := chg₃.sqx okc.small (sq_to_hide (sq₄.trans sq₅) hD3)
  clear chg₃ hD4 sq₄ sq₅ hD3
  have hdD : ∀ {d es}, DIs prog w s.heap d es → d ≠ D := fun x q => by
    obtain ⟨kvs, ⟨o, es, ep, e, _⟩, _⟩ := x
    rw [q, hDg] at e; cases e
  -- the loop
  obtain ⟨kvs, hm, dk⟩ := id (dd1 F₅.keep)
  obtain ⟨ep, hat⟩ := hm.dictAt
  have hlen : kvs.length = old.length := dk.length
  refine wpAny_execs_cons (wpAny_For (nmC rfl (F₅.cell (x := Str.ofString "old") rfl rfl) (wpAny_pyIter_dict s1 hat ?_)))
  have up : ∀ b o, h₅.get? b = some o → (h₅.push { cls := .type "dict_keyiterator", data := .fields #[.ref d1, .int 0 0, .int kvs.length 0, .int ep 0] }).get? b = some o := fun b o q => Heap.get?_push_of_some _ q
  have F₆ := F₅.ext rfl (B₅.like up)
  have B₆ := B₅.ext (B₅.like up)
  have hI5 : h₅.get? h₅.objs.size = none := Heap.get?_none_of_le (Nat.le_refl _)
  have hit : (h₅.push { cls := .type "dict_keyiterator", data := .fields #[.ref d1, .int 0 0, .int kvs.length 0, .int ep 0] }).IsKeyIter h₅.objs.size d1 0 kvs.length ep := ⟨_, Heap.get?_push_size _ rfl, rfl, rfl⟩
  generalize hIe : h₅.objs.size = I at *
  dsimp only
  generalize h₅.push { cls := .type "dict_keyiterator", data := .fields #[.ref d1, .int 0 0, .int kvs.length 0, .int ep 0] } = h₆ at *
  have hIg : s.heap.get? I = none := Ext.none F₅.keep hI5
  have hIL : I ≠ L := fun q => by obtain ⟨o, _, _, e, _⟩ := F₅.ns; rw [← q, hI5] at e; cases e
  have hIb : bs.get? I = none := by
    cases q : bs.get? I with
    | none => rfl
    | some o => rw [B₅.stay _ _ q] at hI5; cases hI5
  have hID : I ≠ D := fun q => by rw [q, hD5] at hI5; cases hI5
  have hd1I : d1 ≠ I := fun q => by obtain ⟨o, es, e, _⟩ := hat; rw [q, hI5] at e; cases e
  refine for_core (n := kvs.length) (fp := [I, d1]) (Walks.dictKeys (knd := strKind prog w) B₅.hand I d1 hd1I kvs ep) (fun i h st => by obtain ⟨o, e, _, hd⟩ := st.1; exact ⟨o, e, _, hd⟩) hIg hIL hIb (B₅.fresh hI5) (fun b hb => by
      rcases List.mem_cons.mp hb with rfl | hb
      · exact hIL
      · rw [List.mem_singleton.mp hb]; exact hd1L)
    (J := fun i h m => ∃ ys n, m (Str.ofString "lost") = some (.ref D) ∧ m (Str.ofString "new") = some (.ref d2) ∧ m (Str.ofString "changed") = some (.ref D₁) ∧ h.get? D = some (W.listOf ys.toArray n) ∧ ys.length ≤ i ∧
      Al (Rd (h.hide D)) ys ((goneL new ((old.map (·.1)).take i)).map pd) ∧ EL (h.hide D) (.ref D₁) (chgF old new))
    ?_ F₆ B₆ ⟨hit, hat.at fun o e => up _ o e⟩ ⟨[], 0, rfl, rfl, rfl, up _ _ hD5, Nat.zero_le _, .nil, chg₅.sqx okc.small (fun b o _ e => by
      have hb : b ≠ D := fun q => by rw [q, show (h₅.hide D).get? D = none from hideAll_none [D] (.head _)] at e; cases e
      exact (Heap.hide_ne _ hb).trans (up b o (Heap.of_hide e)))⟩ ?_ ?_
  · rintro i h h' m m' sq hm' ⟨ys, n, j1, j2, j3, j4, j5, j6, j7⟩
    have sqh : Sqx (h.hide D) (h'.hide D) := sq_hide (fun b o _ ho e => sq b o ho e)
    refine ⟨ys, n, (hm' _ (by decide)).trans j1, (hm' _ (by decide)).trans j2, (hm' _ (by decide)).trans j3, sq _ _ ⟨_, _, rfl⟩ j4, j5, al_mem j6 fun y b hb r => ?_, j7.sqx okc.small sqh⟩
    obtain ⟨e, he, rfl⟩ := List.mem_map.mp hb
    exact rdP (small_pd (okS (okg _ (fun x hx => okv.paths x (List.mem_of_mem_take hx)) e he)).ok) sqh r
  · intro i v h tk m Q E hi hP F B st j k
    obtain ⟨ys, n, j1, j2, j3, j4, j5, j6, j7⟩ := j
    obtain ⟨kk, xx, hkv, hkey⟩ := hP
    obtain ⟨e, t0, he, hk, -⟩ := dk.get hkv
    obtain ⟨t, rfl⟩ := Value.isStrOf_shape (show Value.isStrOf kk v = true from hkey)
    subst hk
    have hp6 := okv e (List.mem_of_getElem? he)
    have hl6 := List.all_eq_true.mp len6 _ hp6
    simp only [Bool.and_eq_true, decide_eq_true_eq] at hl6
    have hpi : (old.map (·.1))[i]? = some e.1 := by rw [List.getElem?_map, he]; rfl
    have nxt : goneL new ((old.map (·.1)).take (i + 1)) = goneL new ((old.map (·.1)).take i) ++ (if toldP new e.1 then [(e.1, 8192)] else []) := by
      unfold goneL
      rw [List.take_add_one, hpi, List.filter_append, List.map_append]
      cases hq : toldP new e.1 <;> simp [hq]
    have no : ∀ tk', toldP new e.1 = false → Q .next { s with heap := h, toks := tk' } := fun tk' hq => k h tk' _ F B st ⟨ys, n, j1, j2, j3, j4, Nat.le_succ_of_le j5, by rw [nxt, hq]; simpa using j6, j7⟩
    refine wpAny_execs_cons (wpAny_If (wpAny_mono (Q := fun b s' => b = toldP new e.1 ∧ ∃ tk', s' = { s with heap := h, toks := tk' }) ?_ ?_ fun _ _ e => e))
    · refine isTrue_and (wpAny_isTrue_Compare1 (nmL F.ns rfl (nmL F.ns j2 (in_dict s2 (dd2 F.keep) (wpAny_truthy_bool ?_)))))
      cases hq1 : (dget new e.1).isSome with
      | true =>
        simp only [Bool.not_true, Bool.false_eq_true, if_false]
        exact ⟨by simp [toldP, hq1], _, rfl⟩
      | false =>
        simp only [Bool.not_false, if_true]
        refine isTrue_and (isTrue_or (wpAny_isTrue_Compare1 (wpAny_Call_ofName (nmB B (by k_is) boot_len (by decide) (callWith_builtin1 (spliced_more (nmL F.ns rfl (spliced_none (len_str (by omega) (wpAny_Constant_int (eq_int (wpAny_truthy_bool ?_)))))))))))
        )
        cases hq2 : ((e.1.length : Int) == 1) with
        | true =>
          simp only [if_true]
          refine isTrue_and_nil ?_
          exact ⟨by simp [toldP, hq1, hq2], _, rfl⟩
        | false =>
          simp only [Bool.false_eq_true, if_false]
          refine isTrue_or (wpAny_isTrue_Compare1 (wpAny_BinOp (Call_get2 (d := d2) (es := new) s2 (fun Q h => nmL F.ns j2 h) (dd2 F.keep) (spliced_more (Subscript_Constant (nmL F.ns rfl (wpAny_Constant_int (SB.item (by decide) (charAt_isSome (by omega) (by omega)) (spliced_more (wpAny_Constant_int (spliced_none ⟨Txt.item e.1 0, _, 0, _, rfl, dd2 F.keep, fun u => ?_⟩)))))))) ⟨_, _, rfl, rfl⟩)))
          refine wpAny_Constant_int (floordiv_int (by decide) (wpAny_Constant_int (eq_int (wpAny_truthy_bool ?_))))
          cases hq3 : (((dget new (Txt.item e.1 0)).getD 0).fdiv 4096 == 4) with
          | true =>
            simp only [if_true]
            refine isTrue_and_nil ?_
            exact ⟨by simp [toldP, hq1, hq3], _, rfl⟩
          | false =>
            simp only [Bool.false_eq_true, if_false]
            refine isTrue_or_nil ?_
            simp only [Bool.false_eq_true, if_false]
            exact ⟨by simp [toldP, hq1, hq2, hq3], _, rfl⟩
    rintro b s' ⟨rfl, tk', rfl⟩
    cases hq : toldP new e.1 with
    | false =>
      simp only [Bool.false_eq_true, if_false]
      exact wpAny_execs_nil (wpAny_execs_nil (no _ hq))
    | true =>
      simp only [if_true]
      refine wpAny_execs_cons (wpAny_Expr ?_)
      refine Call_append (its := ys.toArray) (n := n) j4 (fun Q h => nmL F.ns j1 h) (spliced_more (wpAny_Tuple (spliced_more (nmL F.ns rfl (spliced_more (wpAny_Constant_int (spliced_none ⟨by show 2 ≤ _; omega, spliced_none ⟨_, rfl, ?_, ?_, fun h' hs' hD' => ?_⟩⟩))))))) ⟨_, _, rfl, rfl⟩
      · rw [List.size_toArray]
        have hl1 : kvs.length ≤ 100 := by omega
        exact Nat.le_trans (Nat.le_trans j5 (Nat.le_of_lt hi)) (by omega)
      · exact Heap.get?_push_of_some _ j4
      · have up : ∀ b o, h.get? b = some o → (h.push { cls := .type "tuple", data := .seq #[.str e.1 t, .int 8192 tk'] }).get? b = some o := fun b o q => Heap.get?_push_of_some _ q
        have hTD : D ≠ h.objs.size := fun q => by rw [q] at j4; exact Nat.lt_irrefl _ (Heap.lt_size j4)
        have hT : (h.push { cls := .type "tuple", data := .seq #[.str e.1 t, .int 8192 tk'] }).get? h.objs.size = some { cls := .type "tuple", data := .seq #[.str e.1 t, .int 8192 tk'] } := Heap.get?_push_size _ rfl
        have F' := F.ext rfl (B.like up)
        have B' := B.ext (B.like up)
        have eS : ([Value.str e.1 t, Value.int 8192 tk'] : List Value).toArray = #[.str e.1 t, .int 8192 tk'] := rfl
        simp only [eS] at hs' hD' ⊢
        generalize h.push { cls := .type "tuple", data := .seq #[.str e.1 t, .int 8192 tk'] } = h2 at *
        have F'' := F'.off hDg hDL ⟨_, up _ _ j4, fun ⟨v, q⟩ => by cases q⟩ (fun b o hb q => hs'.extBut b o hb q)
        have B'' := B'.but hs' hDb fun q => absurd q hDf
        have sqh : Sqx (h.hide D) (h'.hide D) := fun b o ho q => by
          have hb : b ≠ D := fun z => by rw [z, show (h.hide D).get? D = none from hideAll_none [D] (.head _)] at q; cases q
          exact (Heap.hide_ne _ hb).trans (hs'.extBut b o hb (up b o (Heap.of_hide q)))
        refine wpAny_execs_nil (wpAny_execs_nil (k h' _ _ F'' B'' ?_ ⟨ys ++ [.ref h.objs.size], n + 1, j1, j2, j3, ?_, ?_, ?_, j7.sqx okc.small sqh⟩))
        · refine ⟨st.1.at fun o q => hs'.extBut _ _ hID (up _ _ q), st.2.at fun o q => hs'.extBut _ _ (hdD h1) (up _ _ q)⟩
        · rw [hD']; simp
        · simp; omega
        · rw [nxt, hq, if_pos rfl, List.map_append]
          refine (al_mem j6 fun y b hb r => ?_).snoc (rd_of_tup (e := (e.1, 8192)) ⟨_, (Heap.hide_ne _ (Ne.symm hTD)).trans (hs'.extBut _ _ (Ne.symm hTD) hT), rfl, 0, rfl⟩)
          obtain ⟨e', he', rfl⟩ := List.mem_map.mp hb
          exact rdP (small_pd (okS (okg _ (fun x hx => okv.paths x (List.mem_of_mem_take hx)) e' he')).ok) sqh r
  · intro h tk m F B j
    obtain ⟨ys, n, j1, j2, j3, j4, j5, j6, j7⟩ := j
    have hl2 : (old.map (·.1)).take kvs.length = old.map (·.1) := by rw [List.take_of_length_le]; rw [List.length_map]; omega
    rw [hl2] at j6
    have okq := okg new okv.paths
    refine ex_return (R := fun v h' => EL h' v (toldF old new)) ?_ fun v h₂ tk₂ x₂ r => hQ v h₂ tk₂ (F.ext rfl x₂).keep r
    intro Q E hQ
    have c1 := List.length_filter_le (fun e : Str × Int => dget old e.1 != some e.2) new
    have c2 := List.length_filter_le (toldP new) (old.map (·.1))
    refine wpAny_BinOp (nmL F.ns j3 (nmL F.ns j1 (catLd (s := { s with heap := h, toks := tk }) (j7.sqx okc.small sq_of_hide) ⟨D, ys, rfl, ⟨n, j4⟩, al_mem j6 fun y b hb r => ?_⟩ okc.small okq.small ?_ fun a' h' up _ r => ?_)))
    · obtain ⟨e', he', rfl⟩ := List.mem_map.mp hb
      exact rdP (small_pd (okS (okq e' he')).ok) sq_of_hide r
    · simp only [chgF, goneL, List.length_map] at c1 c2 ⊢; omega
    · refine hQ _ h' tk (Ext.of up) ?_
      rw [← List.map_append] at r
      exact r
end
end Mine
end

-- part R1
section
open PySem PySem.W PyProof.Rows PySem.Calls PySem.Spec
set_option maxRecDepth 100000
set_option maxHeartbeats 8000000
namespace Mine
theorem fill13 : (PySem.Challenge.rw_il0044_01, hd.heap_39) = (PySem.Challenge.rw_il0044_01, hd.heap_39) := by
  k_fill
  rfl
/-- a list of lists of entries, laid -/
def VL (h : Heap) (v : Value) (vs : List (List (Str × Int))) : Prop := ∃ a items, v = .ref a ∧ LstAt h a items ∧ Al (EL h) items vs
def OkV (vs : List (List (Str × Int))) : Prop := ∀ es ∈ vs, OkE es
theorem VL.sqx {h h' : Heap} {v : Value} {vs : List (List (Str × Int))} (x : VL h v vs) (ok : OkV vs) (k : Sqx h h') : VL h' v vs := by
  obtain ⟨a, items, rfl, ⟨q, e⟩, al⟩ := x
  exact ⟨a, items, rfl, ⟨q, k _ _ ⟨_, _, rfl⟩ e⟩, al_mem al fun _ es he r => r.sqx (ok es he).small k⟩
theorem al_app {α β : Type} {R : α → β → Prop} {l l' : List α} {k k' : List β} (x : Al R l k) (y : Al R l' k') : Al R (l ++ l') (k ++ k') := by
  induction x with
  | nil => exact y
  | cons h _ ih => exact .cons h ih
def onwF (vs : List (List (Str × Int))) (l : List (Str × Int)) : List (List (Str × Int)) := vs ++ [laidF (vs.getLast?.getD []) l]
theorem OkV.onw {vs : List (List (Str × Int))} {l : List (Str × Int)} (h : OkV vs) (k : OkE l) : OkV (onwF vs l) := fun es he => by
  rcases List.mem_append.mp he with he | he
  · exact h es he
  · rw [List.mem_singleton.mp he]
    refine okLaid ?_ k
    cases q : vs.getLast? with
    | none => intro e he; cases he
    | some es => exact h es (List.mem_of_getLast? q)

section
variable {w : World} {mean : ExcName → Option Value} {mg mb : Str → Option Value} {bs : Heap}
variable {prog : Program} {A : Around} {E : Value → Shared → Prop} {s : Shared}

theorem onward_spec {vv vl : Value} {vs : List (List (Str × Int))} {layer : List (Str × Int)} (a : At w mean mg mb bs A s.heap) (hroom : A.depth + 6 < recursionLimit) (hu : A.units + 100 < cLine)
    (hv : VL s.heap vv vs) (hl : EL s.heap vl layer) (okv : OkV vs) (okl : OkE layer) (hne : vs ≠ []) (szv : ∀ es ∈ vs, es.length ≤ 100) (szl : layer.length ≤ 100) (szn : vs.length ≤ 100) :
    GW prog w A (call (.ref 129) [vv, vl]) s (fun v h' => VL h' v (onwF vs layer)) := by
  intro Q E hQ
  have big : (400 : Nat) < sizeLine := by decide
  refine enter (binds := [(Str.ofString "views", vv), (Str.ofString "layer", vl)]) a (by omega) (by k_is) (by k_is) (BindsTo.of_eq rfl) (kindsX rfl) rfl rfl rfl ?_
  intro L h₁ tk hL F B
  refine ex_return (R := fun v h' => VL h' v (onwF vs layer)) ?_ fun v h₂ tk₂ x₂ r => hQ v h₂ tk₂ (F.ext rfl x₂).keep r
  intro Q E hQ
  have hv₁ := hv.sqx okv F.keep.sqx
  obtain ⟨va, items, rfl, ⟨vn, ve⟩, val⟩ := id hv₁
  have hlen : items.length = vs.length := val.length
  have hpos : 0 < vs.length := List.length_pos_iff.mpr hne
  obtain ⟨lastv, hlv⟩ : ∃ v, items[vs.length - 1]? = some v := ⟨items[vs.length - 1]'(by omega), by simp [hlen, hpos]⟩
  obtain ⟨last, hls, rl⟩ := al_get val _ _ hlv
  have hgl : vs.getLast? = some last := by rw [List.getLast?_eq_getElem?]; exact hls
  have hlm : last ∈ vs := List.mem_of_getElem? hls
  refine wpAny_BinOp (nmL F.ns rfl (wpAny_List (spliced_more ?_)))
  refine cDef (fa := 107) B (by k_is) (by k_is) (spliced_more (Subscript_ (nmL F.ns rfl (wpAny_UnaryOp (wpAny_Constant_int (neg_int (subscriptTail_builtin (T := "list") ⟨_, ve, rfl⟩ slot_list_getitem.lookup (wpAny_getItem_list_neg (items := items.toArray) ⟨_, ve, rfl, vn, rfl⟩ (by decide) (by simp; omega) (by decide) (x := lastv) ?_ (spliced_more (nmL F.ns rfl (spliced_none ⟨B.kin, ?_⟩)))))))))))
  · rw [show ((-(1 : Int)) + (items.toArray.size : Int)).toNat = vs.length - 1 by simp; omega]
    simpa using hlv
  refine GW.run (laid_spec (view := last) (layer := layer) B (by show A.depth + 1 + 4 < _; omega) (by show A.units + 3 + 80 < _; omega) rl (hl.ext okl.small F.keep) (okv _ hlm) okl (szv _ hlm) szl) fun v h₂ tk₂ x₂ r => spliced_none ⟨by show 1 ≤ _; omega, ?_⟩
  have x₂' := x₂
  refine PySem.P.add_list (items := items.toArray) (n := vn) (items2 := #[v]) (n2 := 0) ?_ (Heap.get?_push_size _ rfl) ?_ (by simp; omega)
  · exact Heap.get?_push_of_some _ (x₂.nd ve (sq_nd ⟨_, _, rfl⟩))
  · have up : ∀ b o, h₂.get? b = some o → ((h₂.push { cls := .type "list", data := .seq #[v] }).push { cls := .type "list", data := .seq (items.toArray ++ #[v]) }).get? b = some o := fun b o e => Heap.get?_push_of_some _ (Heap.get?_push_of_some _ e)
    refine hQ _ _ _ (x₂.trans (Ext.of up)) ⟨_, items ++ [v], rfl, ⟨0, ?_⟩, ?_⟩
    · refine (Heap.get?_push_size _ rfl).trans ?_
      simp [W.listOf]
    · unfold onwF
      rw [hgl]
      have sqf : Sqx h₁ _ := x₂.sqx.trans fun b o _ e => up b o e
      exact al_app (al_mem val fun _ es he r => r.sqx (okv es he).small sqf) (.cons (r.sqx (okLaid (okv _ hlm) okl).small fun b o _ e => up b o e) .nil)
end
end Mine
end

-- part R2
section
open PySem PySem.W PyProof.Rows PySem.Calls PySem.Spec
set_option maxRecDepth 100000
set_option maxHeartbeats 8000000
namespace Mine
theorem fill14 : (PySem.Challenge.rw_il0044_01, hd.heap_39) = (PySem.Challenge.rw_il0044_01, hd.heap_39) := by
  k_fill
  rfl
def runF (vs ls : List (List (Str × Int))) : List (List (Str × Int)) := ls.foldl onwF vs
structure Room (vs : List (List (Str × Int))) (k n : Nat) : Prop where
  ok : OkV vs
  ne : vs ≠ []
  len : vs.length ≤ n
  each : ∀ es ∈ vs, es.length ≤ k
theorem Room.onw {vs : List (List (Str × Int))} {l : List (Str × Int)} {k n m : Nat} (r : Room vs k n) (ok : OkE l) (hl : l.length ≤ m) : Room (onwF vs l) (k + m) (n + 1) := by
  refine ⟨r.ok.onw ok, by simp [onwF], by simp [onwF]; exact r.len, fun es he => ?_⟩
  rcases List.mem_append.mp he with he | he
  · exact Nat.le_add_right_of_le (r.each es he)
  · rw [List.mem_singleton.mp he]
    refine Nat.le_trans (lenLaid _ _) (Nat.add_le_add ?_ hl)
    cases q : vs.getLast? with
    | none => exact Nat.zero_le _
    | some es => exact r.each es (List.mem_of_getLast? q)

section
variable {w : World} {mean : ExcName → Option Value} {mg mb : Str → Option Value} {bs : Heap}
variable {prog : Program} {A : Around} {E : Value → Shared → Prop} {s : Shared}

/-- a plain assignment to a local name -/
theorem asgLb {g : Heap} {L f : Addr} {scope : Scope} {qual : Str} {cdv : Value} {A₀ : Around} {m cm : Str → Option Value} {x : Str} {px pos : Pos} {e : Expr} {rest : List Stmt} {Q : Flow → Shared → Prop} {R : Value → Heap → Prop} (fs : FS bs (A₀) g L scope s.heap m cm) (a : At w mean mg mb bs (A₀.deeper (envOfC qual scope L f cdv)) s.heap)
    (ge : GW prog w (A₀.deeper (envOfC qual scope L f cdv)) (eval e (envOfC qual scope L f cdv)) s R)
    (k : ∀ v h h₁ tk₁, Ext (A₀.deeper (envOfC qual scope L f cdv)) s.heap h → Heap.SameBut L h h₁ → Sqx h h₁ → R v h → FS bs A₀ g L scope h₁ (fun y => if y = x then some v else m y) cm → At w mean mg mb bs (A₀.deeper (envOfC qual scope L f cdv)) h₁ →
      wpAny (model prog w) (A₀.deeper (envOfC qual scope L f cdv)) (execs rest (envOfC qual scope L f cdv)) Q E { s with heap := h₁, toks := tk₁ })
    (hs : swapsWith e (some (.Name x px)) pos.line (envOfC qual scope L f cdv) = pure false := by rfl) (hk : scope.kind = .function := by rfl) (hl : (envOfC qual scope L f cdv).kindOf x = some .local := by rfl) :
    wpAny (model prog w) (A₀.deeper (envOfC qual scope L f cdv)) (execs (.Assign [.Name x px] e pos :: rest) (envOfC qual scope L f cdv)) Q E s := by
  refine ex_assign ge (fun v h tk x₁ r => ?_) hs
  exact FS.stL (s := { s with heap := h, toks := tk }) (fs.ext rfl x₁) (a.ext x₁) (fun h' tk' hs' sq fs' a' => k v h h' tk' x₁ hs' sq r fs' a') hk hl

theorem obj87 (w : World) : ∃ o, (hd.heap_39 w.params).lookup 87 = some o ∧ o.cls ≠ .type "list" := ⟨_, by k_is, by decide⟩

theorem reduce_spec {vi vl : Value} {vs ls : List (List (Str × Int))} {n : Nat} (a : At w mean mg mb bs A s.heap) (hroom : A.depth + 8 < recursionLimit) (hu : A.units + 120 < cLine)
    (hv : VL s.heap vi vs) (hl : VL s.heap vl ls) (r0 : Room vs 6 1) (okl : OkV ls) (szl : ∀ l ∈ ls, l.length ≤ 12) (hn : ls.length ≤ 4) :
    GW prog w A (call (.ref 95) [.ref 129, vl, vi]) s (fun v h' => VL h' v (runF vs ls)) := by
  intro Q E hQ
  have big : (400 : Nat) < sizeLine := by decide
  refine enter (binds := [(Str.ofString "function", .ref 129), (Str.ofString "sequence", vl), (Str.ofString "initial", vi)]) a (by omega) (by k_is) (by k_is) (binds_K a.kin rfl (by k_is) rfl rfl rfl) (kindsX rfl) rfl rfl rfl ?_
  intro L h₁ tk hL F B
  obtain ⟨l, items, rfl, ll, al⟩ := id hl
  obtain ⟨va, its, rfl, ⟨vn, ve⟩, val⟩ := id hv
  have hlen : items.length = ls.length := al.length
  have ll₁ := ll.ext F.keep
  -- it
  refine asgLb F B (R := fun v h => ∃ I, v = .ref I ∧ h₁.get? I = none ∧ h.IsListIter I l 0) ?_ ?_
  · intro Q E hQ
    refine wpAny_Call_ofName (nmB B (by k_is) boot_iter (by decide) (callWith_builtin1 (spliced_more (nmL F.ns rfl (spliced_none (iter_list ll₁.isList ?_))))))
    have up : ∀ b o, h₁.get? b = some o → (h₁.push { cls := .type "list_iterator", data := .fields #[.ref l, .int 0 0] }).get? b = some o := fun b o q => Heap.get?_push_of_some _ q
    exact hQ _ _ _ (Ext.of up) ⟨_, rfl, Heap.get?_none_of_le (Nat.le_refl _), _, Heap.get?_push_size _ rfl, rfl, rfl⟩
  intro v h₂ h₃ tk₃ e₂ hs₃ sq₃ r F₃ B₃
  obtain ⟨I, rfl, hI1, hit₂⟩ := r
  have hIL : I ≠ L := fun q => by obtain ⟨o, _, _, e, _⟩ := F.ns; rw [← q, hI1] at e; cases e
  have hit₃ : h₃.IsListIter I l 0 := hit₂.extBut hs₃.extBut hIL
  clear hit₂ sq₃ hs₃ e₂
  have hIg : s.heap.get? I = none := Ext.none F.keep hI1
  have hIb : bs.get? I = none := by
    cases q : bs.get? I with
    | none => rfl
    | some o => rw [B.stay _ _ q] at hI1; cases hI1
  have hIf := B.fresh hI1
  have hlI : l ≠ I := fun q => by obtain ⟨n, e⟩ := ll; rw [q, hIg] at e; cases e
  have hlL : l ≠ L := fun q => by obtain ⟨n, e⟩ := ll; have := Heap.lt_size e; rw [q, hL] at this; exact Nat.lt_irrefl _ this
  -- initial
  obtain ⟨o87, e87, n87⟩ := obj87 w
  have va87 : va ≠ 87 := fun q => by
    have e1 := a.kin _ _ e87
    rw [← q, ve] at e1; cases e1
    exact n87 rfl
  have ve₃ := F₃.keep.nd ve (sq_nd ⟨_, _, rfl⟩)
  refine wpAny_execs_cons (wpAny_If (wpAny_isTrue_Compare1 (nmL F₃.ns rfl (nmG B₃ (by k_is) (wpAny_is_ref_other va87 ve₃ (B₃.kin _ _ e87) (by simp [W.listOf]) (wpAny_truthy_bool ?_))))))
  simp only [Bool.false_eq_true, if_false]
  refine asgLb F₃ B₃ (R := fun v _ => v = .ref va) (gw_of (fun Q E h => nmL F₃.ns rfl h) rfl) ?_
  intro v h₄ h₅ tk₅ e₄ hs₅ sq₅ r F₅ B₅
  subst r
  refine wpAny_execs_nil ?_
  dsimp only
  have hit₅ : h₅.IsListIter I l 0 := (hit₃.at fun o e => e₄.nd e (fun es n q => by obtain ⟨vs, hv⟩ := iter_fields hit₃ e; rw [hv] at q; cases q)).extBut hs₅.extBut hIL
  have ll₅ := ll.ext F₅.keep
  have W := Walks.list (prog := prog) (w := w) B₅.hand I l hlI items.toArray
  refine wpAny_execs_cons (wpAny_For (nmL F₅.ns rfl (W.self 0 { s with heap := h₅, toks := tk₅ } _ _ ⟨hit₅, ll₅.isList⟩ ?_)))
  have hsz : items.toArray.size = ls.length := by simpa using hlen
  refine for_core (s := { s with heap := h₅, toks := tk₅ }) W (fun i h st => by obtain ⟨o, e, _, hd⟩ := st.1; exact ⟨o, e, _, hd⟩) hIg hIL hIb hIf (fun b hb => by
      rcases List.mem_cons.mp hb with rfl | hb
      · exact hIL
      · rw [List.mem_singleton.mp hb]; exact hlL)
    (J := fun i h m => ∃ v, m (Str.ofString "value") = some v ∧ m (Str.ofString "function") = some (.ref 129) ∧ VL h v (runF vs (ls.take i)) ∧ Room (runF vs (ls.take i)) (6 + 12 * i) (1 + i))
    ?_ F₅ B₅ ⟨hit₅, ll₅.isList⟩ ⟨_, rfl, rfl, hv.sqx r0.ok F₅.keep.sqx, r0⟩ ?_ ?_
  · rintro i h h' m m' sq hm' ⟨v, j1, j2, j3, j4⟩
    exact ⟨v, (hm' _ (by decide)).trans j1, (hm' _ (by decide)).trans j2, j3.sqx j4.ok sq, j4⟩
  · intro i v h tk m Q E hi hP F B st j k
    obtain ⟨vv, j1, j2, j3, j4⟩ := j
    obtain ⟨layer, hls, rl⟩ := al_get al i v (by simpa using hP)
    have hlm : layer ∈ ls := List.mem_of_getElem? hls
    have hii : i < ls.length := (List.getElem?_eq_some_iff.mp hls).1
    have nxt : runF vs (ls.take (i + 1)) = onwF (runF vs (ls.take i)) layer := by
      unfold runF
      rw [List.take_add_one, hls, Option.toList_some, List.foldl_append]
      rfl
    refine asgLb (s := { s with heap := h, toks := tk }) F B (R := fun v h => VL h v (runF vs (ls.take (i + 1)))) ?_ ?_
    · intro Q E hQ
      refine wpAny_Call_NameR (nmL F.ns j2 (callWith_K (h₀ := h) B.kin (by k_is) (spliced_more (nmL F.ns j1 (spliced_more (nmL F.ns rfl (spliced_none ⟨B.kin, ?_⟩)))))))
      refine GW.run (onward_spec (s := { s with heap := h, toks := tk }) B (by show A.depth + 1 + 6 < _; omega) (by show A.units + 3 + 100 < _; omega) j3 (rl.ext (okl _ hlm).small F.keep) j4.ok (okl _ hlm) j4.ne (fun es he => Nat.le_trans (j4.each es he) (by omega)) (Nat.le_trans (szl _ hlm) (by omega)) (Nat.le_trans j4.len (by omega))) fun v h₂ tk₂ x₂ r => ?_
      refine hQ _ _ _ x₂ ?_
      rw [nxt]; exact r
    intro v₂ h₆ h₇ tk₇ e₆ hs₇ sq₇ r F₇ B₇
    refine wpAny_execs_nil (k h₇ tk₇ _ F₇ B₇ ⟨?_, ?_⟩ ⟨v₂, rfl, j2, ?_, ?_⟩)
    · exact (st.1.at fun o e => e₆.nd e (fun es n q => by obtain ⟨vs, hv⟩ := iter_fields st.1 e; rw [hv] at q; cases q)).extBut hs₇.extBut hIL
    · exact (ll.ext F₇.keep).isList
    · refine r.sqx ?_ sq₇
      rw [nxt]; exact j4.ok.onw (okl _ hlm)
    · rw [nxt, show 6 + 12 * (i + 1) = 6 + 12 * i + 12 by omega, show 1 + (i + 1) = 1 + i + 1 by omega]
      exact j4.onw (okl _ hlm) (szl _ hlm)
  · intro h tk m F B j
    obtain ⟨v, j1, j2, j3, j4⟩ := j
    rw [hsz, List.take_length] at j3
    exact ex_return (s := { s with heap := h, toks := tk }) (R := fun v' h' => VL h' v' (runF vs ls)) (gw_of (fun Q E h => nmL F.ns j1 h) j3) fun v h₂ tk₂ x₂ r => hQ v h₂ tk₂ (F.ext rfl x₂).keep r
end
end Mine
end

-- part R3
section
open PySem PySem.W PyProof.Rows PySem.Calls PySem.Spec
set_option maxRecDepth 100000
set_option maxHeartbeats 8000000
namespace Mine
theorem fill15 : (PySem.Challenge.rw_il0044_01, hd.heap_39) = (PySem.Challenge.rw_il0044_01, hd.heap_39) := by
  k_fill
  rfl
def rightsL : List Int := [0, 420, 493, 1023, 384, 511, 432, 400]
def kindsL : List Int := [0, 8, 4, 4, 12, 10, 6, 2]
def modeF (extra figure : Int) : Int := 4096 * kindsL.getD figure.toNat 0 + (if 1 > Builtin.bitXor (rightsL.getD figure.toNat 0) extra then 1 else Builtin.bitXor (rightsL.getD figure.toNat 0) extra)
def stepF (extra : Int) (st : Int × List (Str × Int) × List Str) (p : Str) : Int × List (Str × Int) × List Str :=
  if decide (0 < st.1.fmod 8) && hasP st.2.2 (cut2 p) then
    (st.1.fdiv 8, st.2.1 ++ [(p, modeF extra (st.1.fmod 8))], if st.1.fmod 8 == 2 || st.1.fmod 8 == 3 then st.2.2 ++ [p] else st.2.2)
  else (st.1.fdiv 8, st.2.1, st.2.2)
def treeF (number extra : Int) : List (Str × Int) := (paths6.foldl (stepF extra) (number.fmod 262144, [], [Str.ofString ""])).2.1

abbrev hide2 (h : Heap) (T Fo : Addr) : Heap := (h.hide T).hide Fo
theorem hide2_ne {h : Heap} {T Fo b : Addr} (h1 : b ≠ T) (h2 : b ≠ Fo) : (hide2 h T Fo).get? b = h.get? b := (Heap.hide_ne _ h2).trans (Heap.hide_ne _ h1)
theorem of_hide2 {h : Heap} {T Fo b : Addr} {o : Obj} (e : (hide2 h T Fo).get? b = some o) : h.get? b = some o ∧ b ≠ T ∧ b ≠ Fo := by
  refine ⟨Heap.of_hide (Heap.of_hide e), fun q => ?_, fun q => ?_⟩
  · have := Heap.of_hide e; rw [q, show (h.hide T).get? T = none from hideAll_none [T] (.head _)] at this; cases this
  · rw [q, show ((h.hide T).hide Fo).get? Fo = none from hideAll_none [Fo] (.head _)] at e; cases e
theorem sq_hide2 {h h' : Heap} {T Fo : Addr} (x : ∀ b o, b ≠ T → b ≠ Fo → IsSq o → h.get? b = some o → h'.get? b = some o) : Sqx (hide2 h T Fo) (hide2 h' T Fo) := fun b o ho e => by
  obtain ⟨e1, h1, h2⟩ := of_hide2 e
  exact (hide2_ne h1 h2).trans (x b o h1 h2 ho e1)

structure TS (h : Heap) (T Fo : Addr) (tree : List (Str × Int)) (fold : List Str) (n : Nat) : Prop where
  tl : ∃ ts k, h.get? T = some (W.listOf ts.toArray k) ∧ ts.length ≤ n ∧ Al (Rd (hide2 h T Fo)) ts (tree.map pd)
  fl : ∃ fs k, h.get? Fo = some (W.listOf fs.toArray k) ∧ fs.length ≤ n + 1 ∧ Al (fun v x => ∃ t, v = Value.str x t) fs fold
  okt : OkE tree
  okf : ∀ x ∈ fold, x = Str.ofString "" ∨ x ∈ paths6
theorem TS.sqx {h h' : Heap} {T Fo : Addr} {tree : List (Str × Int)} {fold : List Str} {n : Nat} (x : TS h T Fo tree fold n) (k : Sqx h h') : TS h' T Fo tree fold n := by
  obtain ⟨⟨ts, i, e1, l1, a1⟩, ⟨fs, j, e2, l2, a2⟩, o1, o2⟩ := x
  refine ⟨⟨ts, i, k _ _ ⟨_, _, rfl⟩ e1, l1, al_mem a1 fun y b hb r => ?_⟩, ⟨fs, j, k _ _ ⟨_, _, rfl⟩ e2, l2, a2⟩, o1, o2⟩
  obtain ⟨e', he', rfl⟩ := List.mem_map.mp hb
  exact rdP (small_pd (okS (o1 e' he')).ok) (sq_hide2 fun b o _ _ ho q => k b o ho q) r
theorem TS.le {h : Heap} {T Fo : Addr} {tree : List (Str × Int)} {fold : List Str} {n m : Nat} (x : TS h T Fo tree fold n) (k : n ≤ m) : TS h T Fo tree fold m := by
  obtain ⟨⟨ts, i, e1, l1, a1⟩, ⟨fs, j, e2, l2, a2⟩, o1, o2⟩ := x
  exact ⟨⟨ts, i, e1, Nat.le_trans l1 k, a1⟩, ⟨fs, j, e2, Nat.le_trans l2 (Nat.succ_le_succ k), a2⟩, o1, o2⟩

section
variable {w : World} {mean : ExcName → Option Value} {mg mb : Str → Option Value} {bs : Heap}
variable {prog : Program} {A : Around} {E : Value → Shared → Prop} {s : Shared} {env : Env}

theorem tmpTup {value slice : Expr} {pos : Pos} {Q : Value → Shared → Prop}
    (h : wpAny (model prog w) A (eval value env) (fun o s₁ => wpAny (model prog w) A (eval slice env) (fun i s₂ => ∃ t items k u x, o = .ref t ∧ i = .int k u ∧ IsTup s₂.heap t items ∧ 0 ≤ k ∧ k < items.size ∧ items.size < 100 ∧ items[k.toNat]? = some x ∧ Q x s₂) E s₁) E s)
    (hs : ∀ t k u, subscripted slice false (.ref t) (.int k u) = operate [.ref t, .int k u] (getItem (.ref t) (.int k u)) := by intro _ _ _; with_unfolding_all rfl) :
    wpAny (model prog w) A (eval (.Subscript value slice pos) env) Q E s := by
  refine Subscript_ (wpAny_mono h (fun o s₁ h₁ => wpAny_mono h₁ (fun i s₂ h₂ => ?_) fun _ _ e => e) fun _ _ e => e)
  obtain ⟨t, items, k, u, x, rfl, rfl, htup, h0, h1, hsz, hx, hQ⟩ := h₂
  unfold subscriptTail
  refine wpAny_bind ?_
  rw [getitemInPython_of_ne htup.typeIs.not_modules]
  refine wpAny_bind (wpAny_specialOf htup.typeIs slot_tuple_getitem.lookup ?_)
  have fin : wpAny (model prog w) A (subscripted slice false (.ref t) (.int k u)) (fun r s₃ => wpAny (model prog w) A (letTemporaryGo value (.ref t) r >>= fun _ => pure r) Q E s₃) E s₂ := by
    rw [hs]
    have hk2 : k < 2 ^ 63 := by omega
    refine wpAny_operating (getItem_tuple htup (by omega) hk2 (j := k.toNat) ?_ hx (wpAny_bind (wpAny_letTemporaryGo (wpAny_pure hQ))))
    unfold seqIndex?
    simp only [if_neg (Int.not_lt.mpr h0), h0, h1, decide_true, Bool.and_self, if_true]
  first
    | exact wpAny_pure (wpAny_bind fin)
    | exact wpAny_bind (wpAny_pure (wpAny_bind fin))
    | exact wpAny_bind fin

end
section
variable {w : World} {mean : ExcName → Option Value} {mg mb : Str → Option Value} {bs : Heap}
variable {prog : Program} {A : Around} {E : Value → Shared → Prop} {s : Shared}
theorem get8 (a0 a1 a2 a3 a4 a5 a6 a7 : Int) (t0 t1 t2 t3 t4 t5 t6 t7 : Tok) (n : Nat) (h : n < 8) : ∃ t, ([Value.int a0 t0, Value.int a1 t1, Value.int a2 t2, Value.int a3 t3, Value.int a4 t4, Value.int a5 t5, Value.int a6 t6, Value.int a7 t7] : List Value).toArray[n]? = some (Value.int ([a0, a1, a2, a3, a4, a5, a6, a7].getD n 0) t) := by
  rcases n with _ | _ | _ | _ | _ | _ | _ | _ | n
  all_goals first | exact ⟨_, rfl⟩ | omega
theorem tab8 {env : Env} {m : Str → Option Value} {x : Str} {px pos tp p0 p1 p2 p3 p4 p5 p6 p7 : Pos} {k k0 k1 k2 k3 k4 k5 k6 k7 : Nat} {a0 a1 a2 a3 a4 a5 a6 a7 fig : Int} {tf : Tok} (hn : s.heap.Ns env.locals m) (hv : m x = some (.int fig tf)) (h0 : 0 ≤ fig) (h8 : fig < 8)
    (hk : env.scope.kind = .function := by rfl) (hx : env.kindOf x = some .local := by rfl) (hd : (x == ("__debug__" : Str)) = false := by decide) :
    GW prog w A (eval (.Subscript (.Tuple [.Constant (.int a0) k0 p0, .Constant (.int a1) k1 p1, .Constant (.int a2) k2 p2, .Constant (.int a3) k3 p3, .Constant (.int a4) k4 p4, .Constant (.int a5) k5 p5, .Constant (.int a6) k6 p6, .Constant (.int a7) k7 p7] k tp) (.Name x px) pos) env) s
      (fun v _ => ∃ t, v = .int ([a0, a1, a2, a3, a4, a5, a6, a7].getD fig.toNat 0) t) := by
  intro Q E hQ
  have big : (400 : Nat) < sizeLine := by decide
  refine tmpTup (wpAny_Tuple (spliced_more (wpAny_Constant_int (spliced_more (wpAny_Constant_int (spliced_more (wpAny_Constant_int (spliced_more (wpAny_Constant_int (spliced_more (wpAny_Constant_int (spliced_more (wpAny_Constant_int (spliced_more (wpAny_Constant_int (spliced_more (wpAny_Constant_int (spliced_none ⟨by show 8 ≤ _; omega, ?_⟩))))))))))))))))))
  refine nmL (hn.push _) hv ?_ hk hx hd
  obtain ⟨n, rfl⟩ := Int.eq_ofNat_of_zero_le h0
  have hn8 : n < 8 := by omega
  obtain ⟨tt, htt⟩ := get8 a0 a1 a2 a3 a4 a5 a6 a7 s.toks (s.toks + 1) (s.toks + 1 + 1) (s.toks + 1 + 1 + 1) (s.toks + 1 + 1 + 1 + 1) (s.toks + 1 + 1 + 1 + 1 + 1) (s.toks + 1 + 1 + 1 + 1 + 1 + 1) (s.toks + 1 + 1 + 1 + 1 + 1 + 1 + 1) n hn8
  refine ⟨_, _, _, _, _, rfl, rfl, ⟨_, Heap.get?_push_size _ rfl, rfl, 0, rfl⟩, h0, h8, ?_, htt, ?_⟩
  · show 8 < 100; omega
  · exact hQ _ _ _ (Ext.of fun b o q => Heap.get?_push_of_some _ q) ⟨tt, rfl⟩

end
end Mine
end

-- part R4
section
open PySem PySem.W PyProof.Rows PySem.Calls PySem.Spec
set_option maxRecDepth 100000
set_option maxHeartbeats 8000000
namespace Mine
theorem fill16 : (PySem.Challenge.rw_il0044_01, hd.heap_39) = (PySem.Challenge.rw_il0044_01, hd.heap_39) := by
  k_fill
  rfl
theorem okEmpty : PyData.strOk (Str.ofString "") = true := by decide +kernel
theorem cutE : cut2 (Str.ofString "") = Str.ofString "" := by decide +kernel
section
variable {w : World} {mean : ExcName → Option Value} {mg mb : Str → Option Value} {bs : Heap}
variable {prog : Program} {A : Around} {E : Value → Shared → Prop} {s : Shared}

theorem tree_spec {number extra : Int} {tn te : Tok} (a : At w mean mg mb bs A s.heap) (hroom : A.depth + 4 < recursionLimit) (hu : A.units + 80 < cLine) :
    GW prog w A (call (.ref 102) [.int number tn, .int extra te]) s (fun v h' => EL h' v (treeF number extra) ∧ ∀ a, v = .ref a → s.heap.get? a = none) := by
  intro Q E hQ
  have big : (400 : Nat) < sizeLine := by decide
  refine enter (binds := [(Str.ofString "number", .int number tn), (Str.ofString "extra", .int extra te)]) a (by omega) (by k_is) (by k_is) (BindsTo.of_eq rfl) (kindsX rfl) rfl rfl rfl ?_
  intro L h₁ tk hL F B
  have hh := a.hand
  -- rest
  refine asgLb F B (R := fun v _ => ∃ t, v = .int (number.fmod 262144) t) ?_ ?_
  · intro Q E hQ
    refine wpAny_BinOp (nmL F.ns rfl (wpAny_BinOp (wpAny_Constant_int (wpAny_Constant_int (pow_int (by decide) (by decide) ?_)))))
    rw [show (8 : Int) ^ (6 : Int).toNat = 262144 from by decide]
    refine mod_int (by decide) ?_
    exact hQ _ h₁ _ (Ext.refl _ _) ⟨_, rfl⟩
  intro v h₂ h₃ tk₃ e₂ hs₃ sq₃ r F₃ B₃
  obtain ⟨tr, rfl⟩ := r
  -- tree
  refine asgLb F₃ B₃ (R := fun v h => ∃ D, v = .ref D ∧ h₃.get? D = none ∧ h.get? D = some (W.listOf #[] 0)) ?_ ?_
  · intro Q E hQ
    refine wpAny_List (wpAny_pure ⟨by show 0 ≤ _; omega, ?_⟩)
    have up : ∀ b o, h₃.get? b = some o → (h₃.push { cls := .type "list", data := .seq #[] }).get? b = some o := fun b o q => Heap.get?_push_of_some _ q
    exact hQ _ _ _ (Ext.of up) ⟨_, rfl, Heap.get?_none_of_le (Nat.le_refl _), Heap.get?_push_size _ rfl⟩
  intro v h₄ h₅ tk₅ e₄ hs₅ sq₅ r F₅ B₅
  obtain ⟨T, rfl, hT3, hT4⟩ := r
  have hT5 : h₅.get? T = some (W.listOf #[] 0) := sq₅ _ _ ⟨_, _, rfl⟩ hT4
  have hTL : T ≠ L := fun q => by obtain ⟨o, _, _, e, _⟩ := F₃.ns; rw [← q, hT3] at e; cases e
  have hTg : s.heap.get? T = none := Ext.none F₃.keep hT3
  have hTb : bs.get? T = none := by
    cases q : bs.get? T with
    | none => rfl
    | some o => rw [B₃.stay _ _ q] at hT3; cases hT3
  have hTf := B₃.fresh hT3
  clear hT4 hT3 e₄ hs₅ sq₅ e₂ hs₃ sq₃
  -- folders
  refine asgLb F₅ B₅ (R := fun v h => ∃ D t, v = .ref D ∧ h₅.get? D = none ∧ h.get? D = some (W.listOf #[.str (Str.ofString "") t] 0)) ?_ ?_
  · intro Q E hQ
    refine wpAny_List (spliced_more (wpAny_Constant_str (spliced_none ⟨by show 1 ≤ _; omega, ?_⟩)))
    have up : ∀ v b o, h₅.get? b = some o → (h₅.push { cls := .type "list", data := .seq #[v] }).get? b = some o := fun v b o q => Heap.get?_push_of_some _ q
    exact hQ _ _ _ (Ext.of (up _)) ⟨_, _, rfl, Heap.get?_none_of_le (Nat.le_refl _), Heap.get?_push_size _ rfl⟩
  intro v h₆ h₇ tk₇ e₆ hs₇ sq₇ r F₇ B₇
  obtain ⟨Fo, tf, rfl, hF5, hF6⟩ := r
  have hF7 : h₇.get? Fo = some (W.listOf #[.str (Str.ofString "") tf] 0) := sq₇ _ _ ⟨_, _, rfl⟩ hF6
  have hT7 : h₇.get? T = some (W.listOf #[] 0) := (e₆.sqx.trans sq₇) _ _ ⟨_, _, rfl⟩ hT5
  have hFL : Fo ≠ L := fun q => by obtain ⟨o, _, _, e, _⟩ := F₅.ns; rw [← q, hF5] at e; cases e
  have hFT : Fo ≠ T := fun q => by rw [q, hT5] at hF5; cases hF5
  have hFg : s.heap.get? Fo = none := Ext.none F₅.keep hF5
  have hFb : bs.get? Fo = none := by
    cases q : bs.get? Fo with
    | none => rfl
    | some o => rw [B₅.stay _ _ q] at hF5; cases hF5
  have hFf := B₅.fresh hF5
  clear hF5 hF6 hT5 e₆ hs₇ sq₇
  -- the loop
  refine wpAny_execs_cons (wpAny_For ?_)
  refine wpAny_Tuple (spliced_more (wpAny_Constant_str (spliced_more (wpAny_Constant_str (spliced_more (wpAny_Constant_str (spliced_more (wpAny_Constant_str (spliced_more (wpAny_Constant_str (spliced_more (wpAny_Constant_str (spliced_none ⟨by show 6 ≤ _; omega, ?_⟩)))))))))))))
  have htems : ∀ (t0 t1 t2 t3 t4 t5 : Tok) (i : Nat) (v : Value), (([.str (Str.ofString "b") t0, .str (Str.ofString "b/b") t1, .str (Str.ofString "b/a") t2, .str (Str.ofString "a") t3, .str (Str.ofString "a/b") t4, .str (Str.ofString "a/a") t5] : List Value).toArray)[i]? = some v → ∃ x t, paths6[i]? = some x ∧ v = Value.str x t := by
    intro t0 t1 t2 t3 t4 t5 i v h
    rcases i with _ | _ | _ | _ | _ | _ | i <;> simp at h <;> subst h <;> exact ⟨_, _, rfl, rfl⟩
  have htems' := htems tk₇ (tk₇ + 1) (tk₇ + 1 + 1) (tk₇ + 1 + 1 + 1) (tk₇ + 1 + 1 + 1 + 1) (tk₇ + 1 + 1 + 1 + 1 + 1)
  clear htems
  dsimp only at htems' ⊢
  generalize hitm : ([.str (Str.ofString "b") tk₇, .str (Str.ofString "b/b") (tk₇ + 1), .str (Str.ofString "b/a") (tk₇ + 1 + 1), .str (Str.ofString "a") (tk₇ + 1 + 1 + 1), .str (Str.ofString "a/b") (tk₇ + 1 + 1 + 1 + 1), .str (Str.ofString "a/a") (tk₇ + 1 + 1 + 1 + 1 + 1)] : List Value).toArray = items at htems' ⊢
  have hsz : items.size = 6 := by rw [← hitm]; rfl
  clear hitm
  have up8 : ∀ b o, h₇.get? b = some o → (h₇.push { cls := .type "tuple", data := .seq items }).get? b = some o := fun b o q => Heap.get?_push_of_some _ q
  have hX8 : (h₇.push { cls := .type "tuple", data := .seq items }).get? h₇.objs.size = some { cls := .type "tuple", data := .seq items } := Heap.get?_push_size _ rfl
  have hX7 : h₇.get? h₇.objs.size = none := Heap.get?_none_of_le (Nat.le_refl _)
  have B₈ := B₇.ext (B₇.like up8)
  have F₈ := F₇.ext rfl (B₇.like up8)
  generalize h₇.objs.size = X at hX8 hX7 ⊢
  generalize h₇.push { cls := .type "tuple", data := .seq items } = h₈ at *
  refine wpAny_pyIter_tuple (items := items) ⟨_, hX8, rfl, 0, rfl⟩ ?_
  have up9 : ∀ b o, h₈.get? b = some o → (h₈.push { cls := .type "tuple_iterator", data := .fields #[.ref X, .int 0 0] }).get? b = some o := fun b o q => Heap.get?_push_of_some _ q
  have hI9 : (h₈.push { cls := .type "tuple_iterator", data := .fields #[.ref X, .int 0 0] }).IsTupleIter h₈.objs.size X 0 := ⟨_, Heap.get?_push_size _ rfl, rfl, rfl⟩
  have hI8 : h₈.get? h₈.objs.size = none := Heap.get?_none_of_le (Nat.le_refl _)
  have B₉ := B₈.ext (B₈.like up9)
  have F₉ := F₈.ext rfl (B₈.like up9)
  dsimp only
  generalize h₈.objs.size = I at hI9 hI8 ⊢
  generalize h₈.push { cls := .type "tuple_iterator", data := .fields #[.ref X, .int 0 0] } = h₉ at *
  have hIg : s.heap.get? I = none := Ext.none F₈.keep hI8
  have hIL : I ≠ L := fun q => by obtain ⟨o, _, _, e, _⟩ := F₈.ns; rw [← q, hI8] at e; cases e
  have hIb : bs.get? I = none := by
    cases q : bs.get? I with
    | none => rfl
    | some o => rw [B₈.stay _ _ q] at hI8; cases hI8
  have hIf := B₈.fresh hI8
  have hIT : I ≠ T := fun q => by rw [q, up8 _ _ hT7] at hI8; cases hI8
  have hIF : I ≠ Fo := fun q => by rw [q, up8 _ _ hF7] at hI8; cases hI8
  have hXI : X ≠ I := fun q => by rw [← q, hX8] at hI8; cases hI8
  have hXL : X ≠ L := fun q => by obtain ⟨o, _, _, e, _⟩ := F₇.ns; rw [← q, hX7] at e; cases e
  have hXT : X ≠ T := fun q => by rw [q, hT7] at hX7; cases hX7
  have hXF : X ≠ Fo := fun q => by rw [q, hF7] at hX7; cases hX7
  have hX9 := up9 _ _ hX8
  refine for_core (s := { s with heap := h₉, toks := tk₇ + 1 + 1 + 1 + 1 + 1 + 1 }) (Walks.tuple (prog := prog) (w := w) B₉.hand I X hXI items) (fun i h st => by obtain ⟨o, e, _, hd⟩ := st.1; exact ⟨o, e, _, hd⟩) hIg hIL hIb hIf (fun b hb => by
      rcases List.mem_cons.mp hb with rfl | hb
      · exact hIL
      · rw [List.mem_singleton.mp hb]; exact hXL)
    (J := fun i h m => ∃ r tr fo t, m (Str.ofString "rest") = some (.int r t) ∧ m (Str.ofString "extra") = some (.int extra te) ∧ m (Str.ofString "tree") = some (.ref T) ∧ m (Str.ofString "folders") = some (.ref Fo) ∧ TS h T Fo tr fo i ∧
      (paths6.take i).foldl (stepF extra) (number.fmod 262144, [], [Str.ofString ""]) = (r, tr, fo))
    ?_ F₉ B₉ ⟨hI9, ⟨_, hX9, rfl, 0, rfl⟩⟩ ⟨_, [], [Str.ofString ""], _, rfl, rfl, rfl, rfl, ?_, rfl⟩ ?_ ?_
  · rintro i h h' m m' sq hm' ⟨r, tr, fo, t, j1, j2, j3, j4, j5, j6⟩
    exact ⟨r, tr, fo, t, (hm' _ (by decide)).trans j1, (hm' _ (by decide)).trans j2, (hm' _ (by decide)).trans j3, (hm' _ (by decide)).trans j4, j5.sqx sq, j6⟩
  · refine ⟨⟨[], 0, up9 _ _ (up8 _ _ hT7), Nat.zero_le _, .nil⟩, ⟨[.str (Str.ofString "") tf], 0, up9 _ _ (up8 _ _ hF7), Nat.le_refl _, .cons ⟨_, rfl⟩ .nil⟩, fun e he => (by cases he), fun x hx => .inl (List.mem_singleton.mp hx)⟩
  · intro i v h tk m Q E hi hP F B st j k
    obtain ⟨r, tr, fo, t, j1, j2, j3, j4, j5, j6⟩ := j
    obtain ⟨p, tp, hp, rfl⟩ := htems' i v hP
    have hp6 : p ∈ paths6 := List.mem_of_getElem? hp
    have os := okS hp6
    have stE : ∀ {h h' : Heap}, Sqx h h' → (∀ o, (∃ vs, o.data = .fields vs) → h.get? I = some o → h'.get? I = some o) → (h.IsTupleIter I X (i + 1) ∧ h.IsTuple X items) → (h'.IsTupleIter I X (i + 1) ∧ h'.IsTuple X items) := by
      rintro h h' sq hi ⟨⟨o, e, hc, hd⟩, ⟨o', e', hc', n', hd'⟩⟩
      exact ⟨⟨o, hi o ⟨_, hd⟩ e, hc, hd⟩, ⟨o', sq _ _ ⟨_, _, hd'⟩ e', hc', n', hd'⟩⟩
    generalize hfig : r.fmod 8 = fig at *
    have hf0 : 0 ≤ fig := by rw [← hfig]; exact Int.fmod_nonneg_of_pos _ (by decide)
    have hf8 : fig < 8 := by rw [← hfig]; exact Int.fmod_lt_of_pos _ (by decide)
    have nxt : (paths6.take (i + 1)).foldl (stepF extra) (number.fmod 262144, [], [Str.ofString ""]) = stepF extra (r, tr, fo) p := by
      rw [List.take_add_one, hp, Option.toList_some, List.foldl_append, j6]; rfl
    -- figure
    refine asgLb (s := { s with heap := h, toks := tk }) F B (R := fun v _ => ∃ t, v = .int fig t) ?_ ?_
    · intro Q E hQ
      refine wpAny_BinOp (nmL F.ns j1 (wpAny_Constant_int (mod_int (by decide) ?_)))
      exact hQ _ h _ (Ext.refl _ _) ⟨_, by rw [← hfig]⟩
    intro v ha hb tkb ea hsb sqb r' Fb Bb
    obtain ⟨tfig, rfl⟩ := r'
    have jb := j5.sqx (ea.sqx.trans sqb)
    have stb := stE (ea.sqx.trans sqb) (fun o hv e => hsb.extBut _ _ hIL (ea.nd e (fields_nd hv))) st
    clear ea hsb sqb
    -- rest
    refine asgLb (s := { s with heap := hb, toks := tkb }) Fb Bb (R := fun v _ => ∃ t, v = .int (r.fdiv 8) t) ?_ ?_
    · intro Q E hQ
      refine wpAny_BinOp (nmL Fb.ns j1 (wpAny_Constant_int (floordiv_int (by decide) ?_)))
      exact hQ _ hb _ (Ext.refl _ _) ⟨_, rfl⟩
    intro v hc hd' tkd ec hsd sqd r' Fd Bd
    obtain ⟨trest, rfl⟩ := r'
    have jd := jb.sqx (ec.sqx.trans sqd)
    have std := stE (ec.sqx.trans sqd) (fun o hv e => hsd.extBut _ _ hIL (ec.nd e (fields_nd hv))) stb
    clear ec hsd sqd jb stb
    refine wpAny_execs_cons (wpAny_If (wpAny_mono (Q := fun b s' => b = (decide (0 < fig) && hasP fo (cut2 p)) ∧ ∃ h' tk', (∀ b o, hd'.get? b = some o → h'.get? b = some o) ∧ s' = { s with heap := h', toks := tk' }) ?_ ?_ fun _ _ e => e))
    · refine isTrue_and (wpAny_isTrue_Compare1 (nmL Fd.ns rfl (wpAny_Constant_int (gt_int (wpAny_truthy_bool ?_)))))
      cases hq1 : decide (0 < fig) with
      | false =>
        simp only [Bool.false_eq_true, if_false]
        exact ⟨by simp, hd', _, fun _ _ e => e, rfl⟩
      | true =>
        simp only [if_true]
        refine isTrue_and (wpAny_isTrue_Compare1 (slTo (nmL Fd.ns rfl (wpAny_UnaryOp (wpAny_Constant_int (neg_int ⟨_, _, _, _, rfl, rfl, os.len, fun h' tk₃ t' up => ?_⟩))))))
        have Fe := Fd.ext rfl (Bd.like up)
        obtain ⟨fs, kf, ef, lf, af⟩ := jd.fl
        have pf : PL h' (.ref Fo) fo := ⟨Fo, fs, rfl, ⟨kf, up _ _ ef⟩, al_to_map (al_mem af fun v x _ ⟨t, q⟩ => by subst q; exact ⟨_, .str _ _⟩)⟩
        refine nmL Fe.ns j4 (inPL pf (fun x hx => ?_) os.cut (by show A.units + 3 + 40 < _; omega) (wpAny_truthy_bool ?_))
        · rcases jd.okf x hx with rfl | hx
          · exact okEmpty
          · exact (okS hx).ok
        · rw [show Txt.slice p none (some (-2)) = cut2 p from rfl]
          cases hq2 : hasP fo (cut2 p) with
          | false =>
            simp only [Bool.false_eq_true, if_false]
            exact ⟨by simp, h', _, up, rfl⟩
          | true =>
            simp only [if_true]
            exact isTrue_and_nil ⟨by simp, h', _, up, rfl⟩
    rintro b s' ⟨rfl, he, tke, up, rfl⟩
    have Fe := Fd.ext rfl (Bd.like up)
    have Be := Bd.ext (Bd.like up)
    have je := jd.sqx fun b o _ q => up b o q
    have ste := stE (fun b o _ q => up b o q) (fun o _ e => up _ _ e) std
    clear up jd std
    cases hq : (decide (0 < fig) && hasP fo (cut2 p)) with
    | false =>
      simp only [Bool.false_eq_true, if_false]
      refine wpAny_execs_nil (wpAny_execs_nil (k he tke _ Fe Be ste ⟨r.fdiv 8, tr, fo, trest, rfl, j2, j3, j4, je.le (Nat.le_succ _), ?_⟩))
      rw [nxt]; unfold stepF; simp only [hfig, hq, Bool.false_eq_true, if_false]
    | true =>
      simp only [if_true]
      -- rights
      refine asgLb (s := { s with heap := he, toks := tke }) (R := fun v _ => ∃ t, v = .int (rightsL.getD fig.toNat 0) t) Fe Be ?_ ?_
      · exact tab8 Fe.ns rfl hf0 hf8
      intro v hf hg tkg ef hsg sqg r' Fg Bg
      obtain ⟨trights, rfl⟩ := r'
      have jg := je.sqx (ef.sqx.trans sqg)
      have stg := stE (ef.sqx.trans sqg) (fun o hv e => hsg.extBut _ _ hIL (ef.nd e (fields_nd hv))) ste
      clear ef hsg sqg je ste
      obtain ⟨ts, nt, et, lt, at'⟩ := jg.tl
      have hi6 : i < 6 := by rw [← hsz]; exact hi
      have hfo : fo.length ≤ i + 1 := by obtain ⟨fs, kf, ef, lf, af⟩ := jg.fl; rw [← af.length]; exact lf
      -- append
      refine wpAny_execs_cons (wpAny_Expr ?_)
      refine Call_append (s := { s with heap := hg, toks := tkg }) (its := ts.toArray) (n := nt) et (fun Q h => nmL Fg.ns j3 h) (spliced_more ?_) ⟨_, _, rfl, rfl⟩
      refine GW.run (R := fun v h' => ∃ X t, v = .ref X ∧ hg.get? X = none ∧ IsTup h' X #[.str p tp, .int (modeF extra fig) t]) ?_ ?_
      · intro Q E hQ
        refine wpAny_Tuple (spliced_more (nmL Fg.ns rfl (spliced_more ?_)))
        refine GW.run (R := fun v _ => ∃ t, v = .int (modeF extra fig) t) ?_ ?_
        · intro Q E hQ
          refine wpAny_BinOp ?_
          refine GW.run (R := fun v _ => ∃ t, v = .int (4096 * kindsL.getD fig.toNat 0) t) ?_ ?_
          · intro Q E hQ
            refine wpAny_BinOp (wpAny_Constant_int ?_)
            refine GW.run (tab8 Fg.ns rfl hf0 hf8) ?_
            rintro v h' tk' x ⟨t, rfl⟩
            exact mul_int (hQ _ _ _ x ⟨_, rfl⟩) (.of_left (by decide))
          rintro v hh' tkh xh ⟨tkk, rfl⟩
          have Fh := Fg.ext rfl xh
          have Bh := Bg.ext xh
          refine wpAny_Call_ofName (nmB Bh (by k_is) boot_max (by decide) (callWith_builtin1 (spliced_more (wpAny_BinOp (nmL Fh.ns rfl (nmL Fh.ns j2 (xor_int (spliced_more (wpAny_Constant_int (spliced_none (max_two_ints Bh.hand fun hm tkm upm => ?_)))))))))))
          have hmx : ∀ (x : Int) (u t : Tok), ∃ t', (if 1 > x then Value.int 1 u else Value.int x t) = .int (if 1 > x then 1 else x) t' := fun x u t => by split <;> exact ⟨_, rfl⟩
          obtain ⟨tmx, emx⟩ := hmx (Builtin.bitXor (rightsL.getD fig.toNat 0) extra) _ _
          rw [emx]
          exact add_int (hQ _ _ _ (xh.trans (xh.like upm)) ⟨_, rfl⟩)
        rintro v hh' tkh xh ⟨tkk, rfl⟩
        refine spliced_none ⟨by show 2 ≤ _; omega, hQ _ _ _ (xh.trans (xh.like fun b o e => Heap.get?_push_of_some _ e)) ⟨_, tkk, rfl, ?_, _, Heap.get?_push_size _ rfl, rfl, 0, rfl⟩⟩
        exact Ext.none xh (Heap.get?_none_of_le (Nat.le_refl _))
      rintro v hm tkm xm ⟨X', tX, rfl, hX', htX⟩
      have Fm := Fg.ext rfl xm
      have Bm := Bg.ext xm
      have jm := jg.sqx xm.sqx
      have stm := stE xm.sqx (fun o hv e => xm.nd e (fields_nd hv)) stg
      have hXT' : X' ≠ T := fun q => by rw [q, et] at hX'; cases hX'
      have hXF' : X' ≠ Fo := fun q => by obtain ⟨fs, kf, ef, _⟩ := jg.fl; rw [q, ef] at hX'; cases hX'
      have etm := xm.nd et (sq_nd ⟨_, _, rfl⟩)
      refine spliced_none ⟨_, rfl, by rw [List.size_toArray]; omega, etm, fun hn hsn hTn => ?_⟩
      dsimp only at hsn hTn ⊢
      have Fn := Fm.off hTg hTL ⟨_, etm, fun ⟨v, q⟩ => by cases q⟩ (fun b o hb q => hsn.extBut b o hb q)
      have Bn := Bm.but hsn hTb fun q => absurd q hTf
      have stn : hn.IsTupleIter I X (i + 1) ∧ hn.IsTuple X items := ⟨stm.1.extBut hsn.extBut hIT, by obtain ⟨o, e, r⟩ := stm.2; exact ⟨o, hsn.extBut _ _ hXT e, r⟩⟩
      have jn : TS hn T Fo (tr ++ [(p, modeF extra fig)]) fo (i + 1) := by
        obtain ⟨⟨ts', i', e1, l1, a1⟩, ⟨fs, j', e2, l2, a2⟩, o1, o2⟩ := jm
        have a1' : Al (Rd (hide2 hm T Fo)) ts (tr.map pd) := by
          refine al_mem at' fun y b hb r => ?_
          obtain ⟨e', he', rfl⟩ := List.mem_map.mp hb
          exact rdP (small_pd (okS (o1 e' he')).ok) (sq_hide2 fun b o _ _ ho q => xm.sqx b o ho q) r
        have sqn : Sqx (hide2 hm T Fo) (hide2 hn T Fo) := sq_hide2 fun b o h1 _ _ q => hsn.extBut b o h1 q
        refine ⟨⟨ts ++ [.ref X'], nt + 1, by rw [hTn]; simp, by simp; omega, ?_⟩, ⟨fs, j', hsn.extBut _ _ hFT e2, Nat.le_succ_of_le l2, a2⟩, o1.append fun e he => ?_, o2⟩
        · rw [List.map_append]
          refine (al_mem a1' fun y b hb r => ?_).snoc (rd_of_tup (e := (p, modeF extra fig)) (tk := tp) (tk' := tX) ?_)
          · obtain ⟨e', he', rfl⟩ := List.mem_map.mp hb
            exact rdP (small_pd (okS (o1 e' he')).ok) sqn r
          · obtain ⟨o, q, r⟩ := htX
            exact ⟨o, (hide2_ne hXT' hXF').trans (hsn.extBut _ _ hXT' q), r⟩
        · rw [List.mem_singleton.mp he]; exact hp6
      clear jm jg stm stg Fm Bm xm htX hX' etm hTn hsn at' et
      refine wpAny_execs_cons (wpAny_If (wpAny_mono (Q := fun b s' => b = (fig == 2 || fig == 3) ∧ ∃ tk', s' = { s with heap := hn, toks := tk' }) ?_ ?_ fun _ _ e => e))
      · refine isTrue_or (wpAny_isTrue_Compare1 (nmL Fn.ns rfl (wpAny_Constant_int (eq_int (wpAny_truthy_bool ?_)))))
        cases h2 : (fig == 2) with
        | true =>
          simp only [if_true]
          exact ⟨by simp, _, rfl⟩
        | false =>
          simp only [Bool.false_eq_true, if_false]
          refine isTrue_or (wpAny_isTrue_Compare1 (nmL Fn.ns rfl (wpAny_Constant_int (eq_int (wpAny_truthy_bool ?_)))))
          cases h3 : (fig == 3) with
          | true =>
            simp only [if_true]
            exact ⟨by simp, _, rfl⟩
          | false =>
            simp only [Bool.false_eq_true, if_false]
            exact isTrue_or_nil ⟨by simp, _, rfl⟩
      rintro b s' ⟨rfl, tkz, rfl⟩
      cases hb : (fig == 2 || fig == 3) with
      | false =>
        simp only [Bool.false_eq_true, if_false]
        refine wpAny_execs_nil (wpAny_execs_nil (wpAny_execs_nil (k hn tkz _ Fn Bn stn ⟨r.fdiv 8, _, fo, trest, rfl, j2, j3, j4, jn, ?_⟩)))
        rw [nxt]; unfold stepF; simp only [hfig, hq, hb, Bool.false_eq_true, if_false, if_true]
      | true =>
        simp only [if_true]
        obtain ⟨fs, kf, ef, lf, af⟩ := jn.fl
        refine wpAny_execs_cons (wpAny_Expr ?_)
        refine Call_append (s := { s with heap := hn, toks := tkz }) (its := fs.toArray) (n := kf) ef (fun Q h => nmL Fn.ns j4 h) (spliced_more (nmL Fn.ns rfl (spliced_none ⟨_, rfl, by rw [List.size_toArray]; omega, ef, fun hp' hsp hFp => ?_⟩))) ⟨_, _, rfl, rfl⟩
        dsimp only at hsp hFp ⊢
        have Fp := Fn.off hFg hFL ⟨_, ef, fun ⟨v, q⟩ => by cases q⟩ (fun b o hb q => hsp.extBut b o hb q)
        have Bp := Bn.but hsp hFb fun q => absurd q hFf
        have stp : hp'.IsTupleIter I X (i + 1) ∧ hp'.IsTuple X items := ⟨stn.1.extBut hsp.extBut hIF, by obtain ⟨o, e, r⟩ := stn.2; exact ⟨o, hsp.extBut _ _ hXF e, r⟩⟩
        have jp : TS hp' T Fo (tr ++ [(p, modeF extra fig)]) (fo ++ [p]) (i + 1) := by
          obtain ⟨⟨ts', i', e1, l1, a1⟩, -, o1, o2⟩ := jn
          have sqn : Sqx (hide2 hn T Fo) (hide2 hp' T Fo) := sq_hide2 fun b o _ h2 _ q => hsp.extBut b o h2 q
          refine ⟨⟨ts', i', hsp.extBut _ _ (Ne.symm hFT) e1, l1, al_mem a1 fun y b hb r => ?_⟩, ⟨fs ++ [.str p tp], kf + 1, by rw [hFp]; simp, ?_, af.snoc ⟨_, rfl⟩⟩, o1, fun x hx => ?_⟩
          · obtain ⟨e', he', rfl⟩ := List.mem_map.mp hb
            exact rdP (small_pd (okS (o1 e' he')).ok) sqn r
          · have := af.length; simp only [List.length_append, List.length_singleton]; omega
          · rcases List.mem_append.mp hx with hx | hx
            · exact o2 x hx
            · rw [List.mem_singleton.mp hx]; exact .inr hp6
        refine wpAny_execs_nil (wpAny_execs_nil (wpAny_execs_nil (k hp' _ _ Fp Bp stp ⟨r.fdiv 8, _, _, trest, rfl, j2, j3, j4, jp, ?_⟩)))
        rw [nxt]; unfold stepF; simp only [hfig, hq, hb, if_true]
  · intro h tk m F B j
    obtain ⟨r, tr, fo, t, j1, j2, j3, j4, j5, j6⟩ := j
    rw [hsz] at j6
    have ht : treeF number extra = tr := by
      unfold treeF
      rw [show paths6.take 6 = paths6 from rfl] at j6
      rw [j6]
    obtain ⟨⟨ts, n, e1, l1, a1⟩, _, o1, _⟩ := j5
    refine ex_return (s := { s with heap := h, toks := tk }) (R := fun v' h' => EL h' v' (treeF number extra) ∧ ∀ a, v' = .ref a → s.heap.get? a = none) (gw_of (fun Q E h => nmL F.ns j3 h) ?_) fun v h₂ tk₂ x₂ r => hQ v h₂ tk₂ (F.ext rfl x₂).keep r
    refine ⟨⟨T, ts, rfl, ⟨n, e1⟩, ?_⟩, fun a e => by cases e; exact hTg⟩
    rw [ht]
    refine al_mem a1 fun y b hb r => ?_
    obtain ⟨e', he', rfl⟩ := List.mem_map.mp hb
    exact rdP (small_pd (okS (o1 e' he')).ok) (fun b o _ q => (of_hide2 q).1) r
end
end Mine
end

-- part S1
section
open PySem PySem.W PyProof.Rows
set_option maxRecDepth 100000
namespace Mine
section
variable (lt : Nat → Nat → Bool) (n : Nat)
/-- the tree's end under answers by lt, all asked within n -/
def Ev {α : Type} : KasT α → (α → Prop) → Prop
  | .ret a, Q => Q a
  | .ask i j k, Q => i < n ∧ j < n ∧ Ev (k (lt i j)) Q
end
section
variable {lt : Nat → Nat → Bool} {n : Nat}
theorem Ev.mono {α : Type} {Q Q' : α → Prop} (k : ∀ a, Q a → Q' a) : ∀ {t : KasT α}, Ev lt n t Q → Ev lt n t Q'
  | .ret a, h => k a h
  | .ask i j f, ⟨h1, h2, h3⟩ => ⟨h1, h2, Ev.mono k (t := f (lt i j)) h3⟩
theorem Ev.bind {α β : Type} {f : α → KasT β} {Q : β → Prop} : ∀ {t : KasT α}, Ev lt n t (fun a => Ev lt n (f a) Q) → Ev lt n (t.bind f) Q
  | .ret a, h => h
  | .ask i j k, ⟨h1, h2, h3⟩ => ⟨h1, h2, Ev.bind (t := k (lt i j)) h3⟩

abbrev le (lt : Nat → Nat → Bool) (a b : Nat) : Prop := lt b a = false
def g (p : Array Nat) (i : Nat) : Nat := p.getD i 0
theorem g_eq {p q : Array Nat} {i j : Nat} (h : p[i]? = q[j]?) : g p i = g q j := by
  unfold g
  rw [Array.getD_eq_getD_getElem?, Array.getD_eq_getD_getElem?, h]
structure Order (lt : Nat → Nat → Bool) : Prop where
  tot : ∀ a b, le lt a b ∨ le lt b a
  trans : ∀ a b c, le lt a b → le lt b c → le lt a c
def IsP (n : Nat) (p : Array Nat) : Prop := p.size = n ∧ (∀ i, i < n → g p i < n) ∧ p.toList.Perm (List.range n)
def Up (lt : Nat → Nat → Bool) (p : Array Nat) (k : Nat) : Prop := ∀ i j, i ≤ j → j < k → le lt (g p i) (g p j)
def Dn (lt : Nat → Nat → Bool) (p : Array Nat) (k : Nat) : Prop := ∀ i j, i ≤ j → j < k → le lt (g p j) (g p i)
theorem Order.rf (o : Order lt) (a : Nat) : le lt a a := (o.tot a a).elim id id
theorem Up.snoc (o : Order lt) {p : Array Nat} {k : Nat} (h : Up lt p k) (hk : 1 ≤ k) (x : le lt (g p (k - 1)) (g p k)) : Up lt p (k + 1) := by
  intro i j hij hj
  by_cases q : j = k
  · subst q
    by_cases q2 : i = j
    · subst q2; exact o.rf _
    · exact o.trans _ _ _ (h i (j - 1) (by omega) (by omega)) x
  · exact h i j hij (by omega)
theorem Dn.snoc (o : Order lt) {p : Array Nat} {k : Nat} (h : Dn lt p k) (hk : 1 ≤ k) (x : le lt (g p k) (g p (k - 1))) : Dn lt p (k + 1) := by
  intro i j hij hj
  by_cases q : j = k
  · subst q
    by_cases q2 : i = j
    · subst q2; exact o.rf _
    · exact o.trans _ _ _ x (h i (j - 1) (by omega) (by omega))
  · exact h i j hij (by omega)
theorem g_rev {p : Array Nat} {i j : Nat} (hj : j ≤ p.size) (k : Nat) : g (kas_rev p i j) k = if i ≤ k ∧ k < j then g p (i + j - 1 - k) else g p k := by
  have := getElem?_mirror_all (xs := p) (i := i) hj k
  unfold kas_rev
  split
  · rename_i h; rw [if_pos h] at this; exact g_eq this
  · rename_i h; rw [if_neg h] at this; exact g_eq this
theorem IsP.rev {p : Array Nat} (h : IsP n p) {i j : Nat} (hj : j ≤ n) : IsP n (kas_rev p i j) := by
  refine ⟨(kas_rev_size _ _).trans h.1, fun k hk => ?_, (Array.perm_iff_toList_perm.mp (mirror_perm _ _ _ _)).trans h.2.2⟩
  rw [g_rev (by rw [h.1]; exact hj)]
  split
  · exact h.2.1 _ (by omega)
  · exact h.2.1 _ hk

theorem ev_asc (o : Order lt) {p : Array Nat} (hp : IsP n p) : ∀ (f k : Nat), 1 ≤ k → k + f ≤ n → Up lt p k → Ev lt n (kas_asc p f k) (fun m => k ≤ m ∧ m ≤ k + f ∧ Up lt p m)
  | 0, k, _, _, h => ⟨Nat.le_refl _, Nat.le_refl _, h⟩
  | f + 1, k, h1, h2, h => by
    refine ⟨hp.2.1 _ (by omega), hp.2.1 _ (by omega), ?_⟩
    cases q : lt (p.getD k 0) (p.getD (k - 1) 0) with
    | true => simp only [if_true]; exact ⟨Nat.le_refl _, by omega, h⟩
    | false =>
      simp only [Bool.false_eq_true, if_false]
      exact (ev_asc o hp f (k + 1) (by omega) (by omega) (h.snoc o h1 q)).mono fun m ⟨a, b, c⟩ => ⟨by omega, by omega, c⟩

theorem ev_asc' (o : Order lt) {p : Array Nat} (hp : IsP n p) : ∀ (f k : Nat), 1 ≤ k → k + f ≤ n → Up lt p k → Ev lt n (kas_asc p f k) (fun m => k ≤ m ∧ m ≤ k + f ∧ Up lt p m ∧ (m < k + f → le lt (g p m) (g p (m - 1))))
  | 0, k, _, _, h => ⟨Nat.le_refl _, Nat.le_refl _, h, fun q => absurd q (Nat.lt_irrefl _)⟩
  | f + 1, k, h1, h2, h => by
    refine ⟨hp.2.1 _ (by omega), hp.2.1 _ (by omega), ?_⟩
    cases q : lt (p.getD k 0) (p.getD (k - 1) 0) with
    | true =>
      simp only [if_true]
      exact ⟨Nat.le_refl _, Nat.le_add_right _ _, h, fun _ => (o.tot _ _).elim (fun z => z) fun z => by
        have z' : lt (p.getD k 0) (p.getD (k - 1) 0) = false := z
        rw [q] at z'; cases z'⟩
    | false =>
      simp only [Bool.false_eq_true, if_false]
      exact (ev_asc' o hp f (k + 1) (by omega) (by omega) (h.snoc o h1 q)).mono fun m ⟨a, b, c, d⟩ => ⟨by omega, by omega, c, fun z => d (by omega)⟩

/-- equal all through -/
def Eqs (lt : Nat → Nat → Bool) (p : Array Nat) (i j : Nat) : Prop := ∀ a b, i ≤ a → a < j → i ≤ b → b < j → le lt (g p a) (g p b)
theorem Dn.rev (o : Order lt) {p : Array Nat} {i j k : Nat} (hj : j ≤ p.size) (hjk : j = k) (h : Dn lt p k) (e : Eqs lt p i j) : Dn lt (kas_rev p i j) k := by
  intro a b hab hb
  rw [g_rev hj, g_rev hj]
  split <;> split
  · exact e _ _ (by omega) (by omega) (by omega) (by omega)
  · exact h _ _ (by omega) (by omega)
  · omega
  · exact h _ _ hab hb
theorem ev_desc (o : Order lt) : ∀ (f : Nat) (p : Array Nat) (k q : Nat), IsP n p → 1 ≤ k → q + 1 ≤ k → k + f ≤ n → Dn lt p k → Eqs lt p (k - (q + 1)) k →
    Ev lt n (kas_desc f p k q) (fun r => IsP n r.1 ∧ k ≤ r.2.1 ∧ r.2.1 ≤ k + f ∧ r.2.2 + 1 ≤ r.2.1 ∧ Dn lt r.1 r.2.1 ∧ Eqs lt r.1 (r.2.1 - (r.2.2 + 1)) r.2.1)
  | 0, p, k, q, hp, h1, hq, h2, h, e => ⟨hp, Nat.le_refl _, Nat.le_refl _, hq, h, e⟩
  | f + 1, p, k, q, hp, h1, hq, h2, h, e => by
    refine ⟨hp.2.1 _ (by omega), hp.2.1 _ (by omega), ?_⟩
    cases c : lt (p.getD k 0) (p.getD (k - 1) 0) with
    | true =>
      simp only [if_true]
      have hle : le lt (g p k) (g p (k - 1)) := (o.tot _ _).elim (fun z => z) fun z => by
        have z' : lt (p.getD k 0) (p.getD (k - 1) 0) = false := z
        rw [c] at z'; cases z'
      have one : ∀ p' : Array Nat, Eqs lt p' (k + 1 - (0 + 1)) (k + 1) := fun p' a b h1 h2 h3 h4 => by
        obtain rfl : a = k := by omega
        obtain rfl : b = a := by omega
        exact o.rf _
      split
      · rename_i hq0
        have d := h.rev o (i := k - (q + 1)) (by rw [hp.1]; omega) rfl e
        have d' : Dn lt (kas_rev p (k - (q + 1)) k) (k + 1) := by
          refine d.snoc o h1 ?_
          rw [g_rev (by rw [hp.1]; omega), g_rev (by rw [hp.1]; omega), if_neg (by omega), if_pos (by omega)]
          exact o.trans _ _ _ hle (h _ _ (by omega) (by omega))
        exact (ev_desc o f _ (k + 1) 0 (hp.rev (by omega)) (by omega) (by omega) (by omega) d' (one _)).mono fun r ⟨a1, a2, a3, a4⟩ => ⟨a1, by omega, by omega, a4⟩
      · exact (ev_desc o f _ (k + 1) 0 hp (by omega) (by omega) (by omega) (h.snoc o h1 hle) (one _)).mono fun r ⟨a1, a2, a3, a4⟩ => ⟨a1, by omega, by omega, a4⟩
    | false =>
      simp only [Bool.false_eq_true, if_false]
      refine ⟨hp.2.1 _ (by omega), hp.2.1 _ (by omega), ?_⟩
      cases d : lt (p.getD (k - 1) 0) (p.getD k 0) with
      | true => simp only [if_true]; exact ⟨hp, Nat.le_refl _, Nat.le_add_right _ _, hq, h, e⟩
      | false =>
        simp only [Bool.false_eq_true, if_false]
        have e' : Eqs lt p (k + 1 - (q + 1 + 1)) (k + 1) := by
          have key : ∀ a, k - (q + 1) ≤ a → a < k → le lt (g p a) (g p k) ∧ le lt (g p k) (g p a) := fun a h3 h4 =>
            ⟨o.trans _ _ _ (e a (k - 1) h3 h4 (by omega) (by omega)) c, o.trans _ _ _ d (e (k - 1) a (by omega) (by omega) h3 h4)⟩
          intro a b h3 h4 h5 h6
          by_cases qa : a = k
          · by_cases qb : b = k
            · rw [qa, qb]; exact o.rf _
            · rw [qa]; exact (key b (by omega) (by omega)).2
          · by_cases qb : b = k
            · rw [qb]; exact (key a (by omega) (by omega)).1
            · exact e a b (by omega) (by omega) (by omega) (by omega)
        exact (ev_desc o f p (k + 1) (q + 1) hp (by omega) (by omega) (by omega) (h.snoc o h1 d) e').mono fun r ⟨a1, a2, a3, a4⟩ => ⟨a1, by omega, by omega, a4⟩

theorem ev_tail3 (o : Order lt) {p : Array Nat} {k nrem : Nat} (hp : IsP n p) (h1 : 1 ≤ k) (h2 : k ≤ nrem) (h3 : nrem ≤ n) (h : Dn lt p k) :
    Ev lt n (kas_tail3 k nrem p) (fun r => IsP n r.2 ∧ 1 ≤ r.1 ∧ r.1 ≤ nrem ∧ Up lt r.2 r.1) := by
  have u : Up lt (kas_rev p 0 k) k := by
    intro i j hij hj
    rw [g_rev (by rw [hp.1]; omega), g_rev (by rw [hp.1]; omega), if_pos (by omega), if_pos (by omega)]
    exact h _ _ (by omega) (by omega)
  have hp' := hp.rev (i := 0) (j := k) (by omega)
  unfold kas_tail3
  refine Ev.bind ((ev_asc o hp' (nrem - k) k h1 (by omega) u).mono fun m ⟨a, b, c⟩ => ?_)
  exact ⟨hp', by show 1 ≤ m; omega, by show m ≤ nrem; omega, c⟩
theorem ev_descPart (o : Order lt) {p : Array Nat} {k nrem : Nat} (hp : IsP n p) (h1 : 1 ≤ k) (h2 : k + 1 ≤ nrem) (h3 : nrem ≤ n) (h : Dn lt p (k + 1)) :
    Ev lt n (kas_descPart k nrem p) (fun r => IsP n r.2 ∧ 1 ≤ r.1 ∧ r.1 ≤ nrem ∧ Up lt r.2 r.1) := by
  unfold kas_descPart
  refine Ev.bind ((ev_desc o (nrem - (k + 1)) p (k + 1) 0 hp (by omega) (by omega) (by omega) h (fun a b h1 h2 h3 h4 => ?_)).mono fun r ⟨a1, a2, a3, a4, a5, a6⟩ => ?_)
  · obtain rfl : a = k := by omega
    obtain rfl : b = a := by omega
    exact o.rf _
  · split
    · exact ev_tail3 o (a1.rev (by omega)) (by omega) (by omega) h3 (a5.rev o (by rw [a1.1]; omega) rfl a6)
    · exact ev_tail3 o a1 (by omega) (by omega) h3 a5

theorem ev_count (o : Order lt) {p : Array Nat} {nrem : Nat} (hp : IsP n p) (h1 : 1 ≤ nrem) (h3 : nrem ≤ n) :
    Ev lt n (kas_count nrem p) (fun r => IsP n r.2 ∧ 1 ≤ r.1 ∧ r.1 ≤ nrem ∧ Up lt r.2 r.1) := by
  unfold kas_count
  have one : ∀ p' : Array Nat, Up lt p' 1 := fun p' i j h1 h2 => by
    obtain rfl : j = 0 := by omega
    obtain rfl : i = 0 := by omega
    exact o.rf _
  have oned : ∀ p' : Array Nat, Dn lt p' 1 := fun p' i j h1 h2 => by
    obtain rfl : j = 0 := by omega
    obtain rfl : i = 0 := by omega
    exact o.rf _
  have up_dn : ∀ {m : Nat}, 1 ≤ m → m ≤ n → Up lt p m → le lt (g p (m - 1)) (g p 0) → Dn lt (kas_rev p 0 m) m := fun {m} hm hn u hl => by
    intro i j hij hj
    rw [g_rev (by rw [hp.1]; omega), g_rev (by rw [hp.1]; omega), if_pos (by omega), if_pos (by omega)]
    exact o.trans _ _ _ (u _ (m - 1) (by omega) (by omega)) (o.trans _ _ _ hl (u 0 _ (by omega) (by omega)))
  refine Ev.bind ((ev_asc' o hp (nrem - 1) 1 (Nat.le_refl _) (by omega) (one p)).mono fun m ⟨a, b, c, d⟩ => ?_)
  split
  · exact ⟨hp, a, by show m ≤ nrem; omega, c⟩
  · rename_i hne
    have hmn : m ≠ nrem := by simpa using hne
    have hmlt : m < nrem := by omega
    have dn := d (by omega)
    split
    · rename_i hm1
      refine ⟨hp.2.1 _ (by omega), hp.2.1 _ (by omega), ?_⟩
      cases q : lt (p.getD 0 0) (p.getD (m - 1) 0) with
      | true => simp only [if_true]; exact ⟨hp, a, Nat.le_of_lt hmlt, c⟩
      | false =>
        simp only [Bool.false_eq_true, if_false]
        refine ev_descPart o (hp.rev (by omega)) a hmlt h3 ((up_dn a (by omega) c q).snoc o a ?_)
        rw [g_rev (by rw [hp.1]; omega), g_rev (by rw [hp.1]; omega), if_neg (by omega), if_pos (by omega)]
        exact o.trans _ _ _ dn (o.trans _ _ _ q (c 0 _ (by omega) (by omega)))
    · rename_i hm1
      obtain rfl : m = 1 := by omega
      exact ev_descPart o hp (Nat.le_refl _) hmlt h3 ((oned p).snoc o (Nat.le_refl _) dn)
theorem ev_place (o : Order lt) {p : Array Nat} {k : Nat} (hp : IsP n p) (hk : k < n) (u : Up lt p k) : ∀ (f l r : Nat), l ≤ r → r ≤ k → r - l ≤ f → (∀ i, i < l → le lt (g p i) (g p k)) → (∀ i, r ≤ i → i < k → le lt (g p k) (g p i)) →
    Ev lt n (kas_place p k f l r) (fun m => m ≤ k ∧ (∀ i, i < m → le lt (g p i) (g p k)) ∧ ∀ i, m ≤ i → i < k → le lt (g p k) (g p i))
  | 0, l, r, h1, h2, h3, h4, h5 => ⟨by omega, h4, fun i a b => h5 i (by omega) b⟩
  | f + 1, l, r, h1, h2, h3, h4, h5 => by
    unfold kas_place
    split
    · exact ⟨by omega, h4, fun i a b => h5 i (by omega) b⟩
    · refine ⟨hp.2.1 _ hk, hp.2.1 _ (by omega), ?_⟩
      cases c : lt (p.getD k 0) (p.getD ((l + r) / 2) 0) with
      | true =>
        simp only [if_true]
        have hle : le lt (g p k) (g p ((l + r) / 2)) := (o.tot _ _).elim (fun z => z) fun z => by
          have z' : lt (p.getD k 0) (p.getD ((l + r) / 2) 0) = false := z
          rw [c] at z'; cases z'
        exact ev_place o hp hk u f l _ (by omega) (by omega) (by omega) h4 fun i a b => o.trans _ _ _ hle (u _ _ (by omega) (by omega))
      | false =>
        simp only [Bool.false_eq_true, if_false]
        exact ev_place o hp hk u f _ r (by omega) (by omega) (by omega) (fun i a => o.trans _ _ _ (u i ((l + r) / 2) (by omega) (by omega)) c) h5
theorem g_bub {p : Array Nat} {k d : Nat} (hk : k < p.size) (hd : d ≤ k) (i : Nat) : g (bubble p k d) i = if i = k - d then g p k else if k - d < i ∧ i ≤ k then g p (i - 1) else g p i := by
  have := getElem?_bubble hk d hd i
  split
  · rename_i h; rw [if_pos h] at this; exact g_eq this
  · rename_i h
    rw [if_neg h] at this
    split
    · rename_i h'; rw [if_pos h'] at this; exact g_eq this
    · rename_i h'; rw [if_neg h'] at this; exact g_eq this
theorem ev_bin (o : Order lt) : ∀ (f : Nat) (p : Array Nat) (k : Nat), IsP n p → k + f ≤ n → Up lt p k → Ev lt n (kas_bin f p k) (fun q => IsP n q ∧ Up lt q (k + f))
  | 0, p, k, hp, h1, h => ⟨hp, h⟩
  | f + 1, p, k, hp, h1, h => by
    unfold kas_bin
    refine Ev.bind ((ev_place o hp (by omega) h k 0 k (by omega) (Nat.le_refl _) (by omega) (fun i a => absurd a (Nat.not_lt_zero _)) (fun i a b => by omega)).mono fun l ⟨a1, a2, a3⟩ => ?_)
    have gb := fun i => g_bub (p := p) (k := k) (d := k - l) (by rw [hp.1]; omega) (by omega) i
    have hp' : IsP n (bubble p k (k - l)) := ⟨(bubble_size _ _ _).trans hp.1, fun i hi => by
      rw [gb]; split
      · exact hp.2.1 _ (by omega)
      · split
        · exact hp.2.1 _ (by omega)
        · exact hp.2.1 _ hi, (Array.perm_iff_toList_perm.mp (bubble_perm _ _ _)).trans hp.2.2⟩
    have u' : Up lt (bubble p k (k - l)) (k + 1) := by
      intro i j hij hj
      rw [gb, gb]
      by_cases q1 : i = k - (k - l)
      · rw [if_pos q1]
        by_cases q2 : j = k - (k - l)
        · rw [if_pos q2]; exact o.rf _
        · rw [if_neg q2, if_pos (by omega)]; exact a3 _ (by omega) (by omega)
      · rw [if_neg q1]
        by_cases q2 : j = k - (k - l)
        · rw [if_pos q2, if_neg (by omega)]; exact a2 _ (by omega)
        · rw [if_neg q2]
          split <;> split
          · exact h _ _ (by omega) (by omega)
          · omega
          · exact h _ _ (by omega) (by omega)
          · exact h _ _ (by omega) (by omega)
    have := ev_bin o f _ (k + 1) hp' (by omega) u'
    rw [show k + 1 + f = k + (f + 1) by omega] at this
    exact this
theorem isP_range : IsP n (List.toArray (List.range n)) := ⟨by simp, fun i hi => by simp [g, hi], by simp⟩
theorem ev_sort (o : Order lt) (h1 : 1 ≤ n) : Ev lt n (kas_sort n) (fun p => IsP n p ∧ Up lt p n) := by
  unfold kas_sort
  refine Ev.bind ((ev_count o isP_range h1 (Nat.le_refl _)).mono fun r ⟨a1, a2, a3, a4⟩ => ?_)
  split
  · have hm : max r.1 1 = r.1 := by omega
    rw [hm]
    have := ev_bin o (n - r.1) r.2 r.1 a1 (by omega) a4
    rwa [show r.1 + (n - r.1) = n by omega] at this
  · obtain e : r.1 = n := by omega
    exact ⟨a1, e ▸ a4⟩

/-- from the tree to what runs -/
theorem kasWp_ev {α : Type} {I : Shared → Prop} {cmp : Nat → Nat → (Bool → Shared → Prop) → Shared → Prop} (hc : ∀ i j C s, i < n → j < n → I s → (∀ s', I s' → C (lt i j) s') → cmp i j C s) {P : α → Prop} {Q : α → Shared → Prop} (hQ : ∀ a s, I s → P a → Q a s) :
    ∀ {t : KasT α} {s : Shared}, I s → Ev lt n t P → t.kasWp cmp Q s
  | .ret a, s, hi, h => hQ a s hi h
  | .ask i j k, s, hi, ⟨h1, h2, h3⟩ => hc i j _ s h1 h2 hi fun s' hi' => kasWp_ev hc hQ (t := k (lt i j)) hi' h3
end
end Mine
end

-- part S2
section
open PySem PySem.W PyProof.Rows PySem.Calls PySem.Spec
set_option maxRecDepth 100000
set_option maxHeartbeats 8000000
namespace Mine
def ltE (a b : Str × Int) : Bool := decide (a.1.cps.toList < b.1.cps.toList) || (decide (a.1 = b.1) && decide (a.2 < b.2))
section
variable {prog : Program} {w : World} {A : Around} {E : Value → Shared → Prop} {s : Shared}

theorem lirr (l : List Nat) : decide (l < l) = false := decide_eq_false (List.lt_irrefl l)
theorem cmpE {x y : Value} {a b : Str × Int} {Q : Bool → Shared → Prop} (hx : Rd s.heap x (pd a)) (hy : Rd s.heap y (pd b)) (h : ∀ tk, Q (ltE a b) { s with toks := tk }) :
    wpAny (model prog w) A (keyLt' (tuples' true) x y) Q E s := by
  obtain ⟨t1, k1, k2, rfl, o1, e1, c1, n1, d1⟩ := rd_pd hx
  obtain ⟨t2, k3, k4, rfl, o2, e2, c2, n2, d2⟩ := rd_pd hy
  refine kat_lt e1 d1 e2 d2 ?_
  show KatLex prog w A true (decide (2 < 2)) Q [(.str a.1 k1, .str b.1 k3), (.int a.2 k2, .int b.2 k4)] 0 s
  refine kat_cons (wpAny_eqBool_str ?_)
  by_cases q : a.1 = b.1
  · rw [decide_eq_true q]
    refine kat_yes (kat_cons (wpAny_eqBool_int ?_))
    cases q2 : (a.2 == b.2) with
    | true =>
      refine kat_yes (kat_nil ?_)
      have e2 : a.2 = b.2 := by simpa using q2
      have := h s.toks
      rw [show ltE a b = decide (2 < 2) from by unfold ltE; rw [q, e2, lirr]; simp] at this
      exact this
    | false =>
      refine kat_no ?_
      show wpAny _ _ (oneLt' false (.int a.2 k2) (.int b.2 k4)) _ _ _
      refine kat_one _ _ (lt_int ?_)
      show Q (decide (a.2 < b.2)) s
      have := h s.toks
      rw [show ltE a b = decide (a.2 < b.2) from by unfold ltE; rw [q, lirr]; simp] at this
      exact this
  · rw [decide_eq_false q]
    refine kat_no ?_
    show wpAny _ _ (oneLt' true (.str a.1 k1) (.str b.1 k3)) _ _ _
    refine oneLt_str ?_
    have := h s.toks
    rw [show ltE a b = decide (a.1.cps.toList < b.1.cps.toList) from by unfold ltE; rw [decide_eq_false q]; simp] at this
    exact this

theorem sort_own {a : Addr} {n : Nat} {vs : List Value} {P : PySem.Fin → Shared → Prop} {good : List Nat → Prop} (ho : s.heap.get? a = some (seqObj "list" vs.toArray n)) (h2 : 2 ≤ vs.length) (h64 : vs.length < 64)
    (hask : ∀ h1, (∀ b o, b ≠ a → s.heap.get? b = some o → h1.get? b = some o) →
      wpAny (model prog w) A (keyKind' vs.toArray) (fun κ s' => (∃ tk, s' = { s with heap := h1, toks := tk }) ∧ ∀ tk, (kas_sort vs.length).kasWp (kas_ask prog w A κ vs) (fun p s'' => (∃ tk, s'' = { s with heap := h1, toks := tk }) ∧ good p.toList) { s with heap := h1, toks := tk }) (fun _ _ => False) { s with heap := h1 })
    (hP : ∀ (p : List Nat) h' e tk, good p → (∀ b o, b ≠ a → s.heap.get? b = some o → h'.get? b = some o) → h'.get? a = some (seqObj "list" (List.toArray (p.map fun i => vs.getD i Value.none)) e) → P (.done (.ret .none)) { s with heap := h', toks := tk }) :
    wpAny (model prog w) A (Builtin.«list.sort» ⟨[.ref a], []⟩) P E s := by
  have s1 := Heap.SameBut.update s.heap a (Obj.mapSeq fun _ => (#[] : Array Value))
  obtain ⟨e1, ho1⟩ : ∃ e1, (s.heap.update a (Obj.mapSeq fun _ => (#[] : Array Value))).get? a = some (seqObj "list" #[] e1) := ⟨_, get?_update_seq ho fun _ => #[]⟩
  rw [list_sort_plain]
  refine wpAny_bind (listItems_at ho rfl ?_)
  refine wpAny_bind (listUpdate_at ho rfl ?_ (by rw [List.size_toArray, sizeLine_eq]; omega) (Nat.zero_le _))
  refine wpAny_bind (seqEpoch_at ho1 rfl ?_)
  refine wpAny_bind (wpAny_newTuple ?_ (by show vs.length ≤ _; rw [sizeLine_eq]; omega))
  refine wpAny_bind (wpAny_newList ?_ (Nat.zero_le _))
  refine wpAny_holding ?_
  have up : ∀ b o, (s.heap.update a (Obj.mapSeq fun _ => (#[] : Array Value))).get? b = some o → (((s.heap.update a (Obj.mapSeq fun _ => (#[] : Array Value))).push (seqObj "tuple" vs.toArray 0)).push (seqObj "list" #[] 0)).get? b = some o := fun b o e => Heap.get?_push_of_some _ (Heap.get?_push_of_some _ e)
  show wpAny (model prog w) A _ P E { s with heap := ((s.heap.update a (Obj.mapSeq fun _ => (#[] : Array Value))).push (seqObj "tuple" vs.toArray 0)).push (seqObj "list" #[] 0) }
  dsimp only
  generalize ((s.heap.update a (Obj.mapSeq fun _ => (#[] : Array Value))).push (seqObj "tuple" vs.toArray 0)).push (seqObj "list" #[] 0) = h1 at up ⊢
  have kp : ∀ b o, b ≠ a → s.heap.get? b = some o → h1.get? b = some o := fun b o hb e => up b o (s1.extBut b o hb e)
  have ha1 := up _ _ ho1
  have hn2 : ¬ vs.toArray.size < 2 := by rw [List.size_toArray]; omega
  rw [if_neg hn2, if_neg hn2]
  refine wpAny_bind (wpAny_mono (hask h1 kp) (fun κ s0 hk => ?_) fun _ _ x => x.elim)
  obtain ⟨⟨tk0, rfl⟩, hk⟩ := hk
  refine wpAny_bind (wpAny_mono (kat_run (Q := fun st' s' => ∃ p : Array Nat, p.size = vs.length ∧ arrOf st' = p.map (kas_item (vs.toArray.zip vs.toArray)) ∧ failedOf st' = none ∧ (∃ tk, s' = { s with heap := h1, toks := tk }) ∧ good p.toList)
    rfl h2 h64 (fun p' st' s' a1 a2 a3 a4 => ⟨p', a1, a2, a3, a4⟩) (hk tk0)) ?_ fun _ _ e => e)
  rintro ⟨⟨⟩, st'⟩ s' ⟨p, hp, har, hf, ⟨tk1, rfl⟩, hg⟩
  dsimp only
  have hout := kat_snds rfl har
  have hsz : (List.toArray (p.toList.map fun i => vs.getD i Value.none)).size = vs.length := by rw [List.size_toArray, List.length_map, Array.length_toList, hp]
  rw [hout]
  have s2 := Heap.SameBut.update h1 a (Obj.mapSeq fun _ => List.toArray (p.toList.map fun i => vs.getD i Value.none))
  obtain ⟨c2, hc2⟩ : ∃ c2, (h1.update a (Obj.mapSeq fun _ => List.toArray (p.toList.map fun i => vs.getD i Value.none))).get? a = some (seqObj "list" (List.toArray (p.toList.map fun i => vs.getD i Value.none)) c2) := ⟨_, get?_update_seq ha1 fun _ => List.toArray (p.toList.map fun i => vs.getD i Value.none)⟩
  refine wpAny_bind (seqEpoch_at ha1 rfl ?_)
  refine wpAny_bind (listUpdate_at ha1 rfl ?_ (Nat.zero_le _) (Nat.le_trans (Nat.le_of_eq hsz) (by rw [sizeLine_eq]; omega)))
  rw [hf]
  simp only [bne_self_eq_false, Bool.false_eq_true, if_false]
  exact wpAny_pure (hP p.toList _ c2 tk1 hg (fun b o hb e => s2.extBut b o hb (kp b o hb e)) hc2)
end
end Mine
end

-- part S3
section
open PySem PySem.W PyProof.Rows PySem.Calls PySem.Spec
set_option maxRecDepth 100000
set_option maxHeartbeats 8000000
namespace Mine

/-! the order of entries -/
def leE (a b : Str × Int) : Bool := !ltE b a
theorem leE_iff {a b : Str × Int} : leE a b = true ↔ ¬ (b.1.cps.toList < a.1.cps.toList ∨ (b.1 = a.1 ∧ b.2 < a.2)) := by
  unfold leE ltE
  simp only [Bool.not_eq_true', Bool.or_eq_false_iff, Bool.and_eq_false_iff, decide_eq_false_iff_not]
  constructor
  · rintro ⟨h1, h2⟩ (h | ⟨h3, h4⟩)
    · exact h1 h
    · rcases h2 with h2 | h2
      · exact h2 h3
      · exact h2 h4
  · intro h
    refine ⟨fun q => h (.inl q), ?_⟩
    by_cases q : b.1 = a.1
    · exact .inr fun q2 => h (.inr ⟨q, q2⟩)
    · exact .inl q
theorem str_ext {a b : Str} (h : a.cps.toList = b.cps.toList) : a = b := by
  obtain ⟨x⟩ := a; obtain ⟨y⟩ := b
  have : x = y := Array.toList_inj.mp h
  rw [this]
theorem str_tri (a b : Str) : a.cps.toList < b.cps.toList ∨ a = b ∨ b.cps.toList < a.cps.toList := by
  by_cases h : a.cps.toList < b.cps.toList
  · exact .inl h
  · by_cases h2 : b.cps.toList < a.cps.toList
    · exact .inr (.inr h2)
    · exact .inr (.inl (str_ext (List.le_antisymm h2 h)))
theorem str_asym {a b : List Nat} (h : a < b) : ¬ b < a := fun q => List.lt_irrefl _ (List.lt_trans h q)
theorem leE_total (a b : Str × Int) : (leE a b || leE b a) = true := by
  rw [Bool.or_eq_true, leE_iff, leE_iff]
  rcases str_tri a.1 b.1 with h | h | h
  · left; rintro (q | ⟨q, _⟩)
    · exact str_asym h q
    · rw [q] at h; exact List.lt_irrefl _ h
  · by_cases q : b.2 < a.2
    · right; rintro (z | ⟨_, z⟩)
      · rw [h] at z; exact List.lt_irrefl _ z
      · omega
    · left; rintro (z | ⟨_, z⟩)
      · rw [h] at z; exact List.lt_irrefl _ z
      · exact q z
  · right; rintro (q | ⟨q, _⟩)
    · exact str_asym h q
    · rw [q] at h; exact List.lt_irrefl _ h
theorem leE_trans (a b c : Str × Int) (h : leE a b = true) (k : leE b c = true) : leE a c = true := by
  rw [leE_iff] at *
  rcases str_tri a.1 b.1 with h1 | h1 | h1
  · rcases str_tri b.1 c.1 with h2 | h2 | h2
    · rintro (q | ⟨q, _⟩)
      · exact str_asym (List.lt_trans h1 h2) q
      · rw [q] at h2; exact str_asym h1 h2
    · rw [h2] at h1
      rintro (q | ⟨q, _⟩)
      · exact str_asym h1 q
      · rw [q] at h1; exact List.lt_irrefl _ h1
    · exact absurd (.inl h2) k
  · rintro (q | ⟨q, q2⟩)
    · rw [h1] at q; exact k (.inl q)
    · have a1 : ¬ b.2 < a.2 := fun z => h (.inr ⟨h1.symm, z⟩)
      have a2 : ¬ c.2 < b.2 := fun z => k (.inr ⟨q.trans h1, z⟩)
      omega
  · exact absurd (.inl h1) h
theorem leE_anti (a b : Str × Int) (h : leE a b = true) (k : leE b a = true) : a = b := by
  rw [leE_iff] at *
  rcases str_tri a.1 b.1 with h1 | h1 | h1
  · exact absurd (.inl h1) k
  · have a1 : ¬ b.2 < a.2 := fun z => h (.inr ⟨h1.symm, z⟩)
    have a2 : ¬ a.2 < b.2 := fun z => k (.inr ⟨h1, z⟩)
    exact Prod.ext h1 (by omega)
  · exact absurd (.inl h1) h
def sortF (es : List (Str × Int)) : List (Str × Int) := es.mergeSort leE
theorem sortF_perm (es : List (Str × Int)) : (sortF es).Perm es := List.mergeSort_perm es leE
theorem sortF_pair (es : List (Str × Int)) : (sortF es).Pairwise fun a b => leE a b = true := List.pairwise_mergeSort leE_trans leE_total es
theorem sortF_of {es fs : List (Str × Int)} (h : fs.Perm es) (k : fs.Pairwise fun a b => leE a b = true) : fs = sortF es :=
  List.Perm.eq_of_pairwise (fun a b _ _ => leE_anti a b) k (sortF_pair es) (h.trans (sortF_perm es).symm)
theorem sortF_iff {es fs : List (Str × Int)} : sortF es = sortF fs ↔ es.Perm fs :=
  ⟨fun h => (sortF_perm es).symm.trans (h ▸ sortF_perm fs), fun h => sortF_of ((sortF_perm es).trans h) (sortF_pair es)⟩
theorem okSort {es : List (Str × Int)} (h : OkE es) : OkE (sortF es) := fun e he => h e ((sortF_perm es).mem_iff.mp he)
theorem lenSort (es : List (Str × Int)) : (sortF es).length = es.length := (sortF_perm es).length_eq

/-- the items under a permutation that is ordered -/
theorem sorted_perm {es : List (Str × Int)} {d : Str × Int} {p : Array Nat} (hp : IsP es.length p) (hu : Up (fun i j => ltE (es.getD i d) (es.getD j d)) p es.length) : p.toList.map (fun i => es.getD i d) = sortF es := by
  refine sortF_of ?_ ?_
  · have h1 := hp.2.2.map fun i => es.getD i d
    have h2 : (List.range es.length).map (fun i => es.getD i d) = es := by
      apply List.ext_getElem
      · simp
      · intro i h1 h2; simp [h2]
    rw [h2] at h1; exact h1
  · rw [List.pairwise_iff_getElem]
    intro i j hi hj hij
    simp only [List.length_map, Array.length_toList] at hi hj
    have := hu i j (Nat.le_of_lt hij) (by have := hp.1; omega)
    simp only [List.getElem_map]
    have e1 : g p i = p.toList[i] := by unfold g; simp [hi]
    have e2 : g p j = p.toList[j] := by unfold g; simp [hj]
    rw [← e1, ← e2]
    unfold leE
    have this' : ltE (es.getD (g p j) d) (es.getD (g p i) d) = false := this
    rw [this']; rfl
theorem orderE (es : List (Str × Int)) (d : Str × Int) : Order (fun i j => ltE (es.getD i d) (es.getD j d)) := by
  refine ⟨fun a b => ?_, fun a b c h k => ?_⟩
  · have := leE_total (es.getD a d) (es.getD b d)
    unfold leE at this
    rw [Bool.or_eq_true, Bool.not_eq_true', Bool.not_eq_true'] at this
    exact this
  · have := leE_trans (es.getD a d) (es.getD b d) (es.getD c d)
    unfold leE at this
    simp only [Bool.not_eq_true'] at this
    exact this h k
theorem al_perm {α β : Type} {R : α → β → Prop} {l : List α} {k : List β} (x : Al R l k) (a0 : α) (b0 : β) : ∀ (p : List Nat), (∀ i ∈ p, i < l.length) → Al R (p.map fun i => l.getD i a0) (p.map fun i => k.getD i b0)
  | [], _ => .nil
  | i :: p, h => by
    refine .cons ?_ (al_perm x a0 b0 p fun j hj => h j (.tail _ hj))
    have hi := h i (.head _)
    obtain ⟨b, hb, r⟩ := al_get x i l[i] (by simp [hi])
    show R (l.getD i a0) (k.getD i b0)
    rw [List.getD_eq_getElem?_getD, List.getD_eq_getElem?_getD, hb]
    simpa [hi] using r

section
variable {prog : Program} {w : World} {A : Around} {E : Value → Shared → Prop} {s : Shared}
theorem katTups {h : Heap} : ∀ {vs : List Value} {es : List (Str × Int)}, Al (fun v e => Rd h v (pd e)) vs es → ∃ fs, KatTups h vs fs ∧ fs.length = vs.length ∧ ∀ f ∈ fs, ∃ x t, f = Value.str x t
  | [], [], _ => ⟨[], .nil, rfl, fun _ hf => by cases hf⟩
  | v :: vs, e :: es, .cons r al => by
    obtain ⟨fs, h1, h2, h3⟩ := katTups al
    obtain ⟨t, k1, k2, rfl, o, e1, c1, n1, d1⟩ := rd_pd r
    exact ⟨.str e.1 k1 :: fs, .cons e1 c1 d1 rfl h1, by simp [h2], fun f hf => by
      rcases List.mem_cons.mp hf with rfl | hf
      · exact ⟨_, _, rfl⟩
      · exact h3 f hf⟩

theorem sort_own1 {a : Addr} {n : Nat} {vs : List Value} {P : PySem.Fin → Shared → Prop} (ho : s.heap.get? a = some (seqObj "list" vs.toArray n)) (h2 : vs.length < 2)
    (hP : ∀ h' e tk, (∀ b o, b ≠ a → s.heap.get? b = some o → h'.get? b = some o) → h'.get? a = some (seqObj "list" vs.toArray e) → P (.done (.ret .none)) { s with heap := h', toks := tk }) :
    wpAny (model prog w) A (Builtin.«list.sort» ⟨[.ref a], []⟩) P E s := by
  have s1 := Heap.SameBut.update s.heap a (Obj.mapSeq fun _ => (#[] : Array Value))
  obtain ⟨e1, ho1⟩ : ∃ e1, (s.heap.update a (Obj.mapSeq fun _ => (#[] : Array Value))).get? a = some (seqObj "list" #[] e1) := ⟨_, get?_update_seq ho fun _ => #[]⟩
  rw [list_sort_plain]
  refine wpAny_bind (listItems_at ho rfl ?_)
  refine wpAny_bind (listUpdate_at ho rfl ?_ (by rw [List.size_toArray, sizeLine_eq]; omega) (Nat.zero_le _))
  refine wpAny_bind (seqEpoch_at ho1 rfl ?_)
  refine wpAny_bind (wpAny_newTuple ?_ (by show vs.length ≤ _; rw [sizeLine_eq]; omega))
  refine wpAny_bind (wpAny_newList ?_ (Nat.zero_le _))
  refine wpAny_holding ?_
  have up : ∀ b o, (s.heap.update a (Obj.mapSeq fun _ => (#[] : Array Value))).get? b = some o → (((s.heap.update a (Obj.mapSeq fun _ => (#[] : Array Value))).push (seqObj "tuple" vs.toArray 0)).push (seqObj "list" #[] 0)).get? b = some o := fun b o e => Heap.get?_push_of_some _ (Heap.get?_push_of_some _ e)
  show wpAny (model prog w) A _ P E { s with heap := ((s.heap.update a (Obj.mapSeq fun _ => (#[] : Array Value))).push (seqObj "tuple" vs.toArray 0)).push (seqObj "list" #[] 0) }
  dsimp only
  generalize ((s.heap.update a (Obj.mapSeq fun _ => (#[] : Array Value))).push (seqObj "tuple" vs.toArray 0)).push (seqObj "list" #[] 0) = h1 at up ⊢
  have kp : ∀ b o, b ≠ a → s.heap.get? b = some o → h1.get? b = some o := fun b o hb e => up b o (s1.extBut b o hb e)
  have ha1 := up _ _ ho1
  have hn2 : vs.toArray.size < 2 := by rw [List.size_toArray]; omega
  rw [if_pos hn2, if_pos hn2]
  refine wpAny_bind (wpAny_pure ?_)
  rw [StateT.run_pure]
  refine wpAny_bind (wpAny_pure ?_)
  dsimp only
  have hout : (arrOf (SortSt.mk' general' (vs.toArray.zip vs.toArray) #[] 7 none)).map (·.2) = vs.toArray := by
    show (vs.toArray.zip vs.toArray).map (·.2) = vs.toArray
    apply Array.ext
    · simp
    · intro i h1 h2; simp
  rw [hout]
  have s2 := Heap.SameBut.update h1 a (Obj.mapSeq fun _ => vs.toArray)
  obtain ⟨c2, hc2⟩ : ∃ c2, (h1.update a (Obj.mapSeq fun _ => vs.toArray)).get? a = some (seqObj "list" vs.toArray c2) := ⟨_, get?_update_seq ha1 fun _ => vs.toArray⟩
  refine wpAny_bind (seqEpoch_at ha1 rfl ?_)
  refine wpAny_bind (listUpdate_at ha1 rfl ?_ (Nat.zero_le _) (by rw [List.size_toArray, sizeLine_eq]; omega))
  simp only [bne_self_eq_false, Bool.false_eq_true, if_false]
  exact wpAny_pure (hP _ c2 _ (fun b o hb e => s2.extBut b o hb (kp b o hb e)) hc2)

/-- list.sort of entries -/
theorem sort_es {a : Addr} {n : Nat} {vs : List Value} {es : List (Str × Int)} {P : PySem.Fin → Shared → Prop} (ho : s.heap.get? a = some (seqObj "list" vs.toArray n)) (al : Al (fun v e => Rd (s.heap.hide a) v (pd e)) vs es) (ok : OkE es) (h64 : es.length < 64)
    (hP : ∀ vs' h' e tk, Al (fun v e => Rd (s.heap.hide a) v (pd e)) vs' (sortF es) → (∀ b o, b ≠ a → s.heap.get? b = some o → h'.get? b = some o) → h'.get? a = some (seqObj "list" (List.toArray vs') e) → P (.done (.ret .none)) { s with heap := h', toks := tk }) :
    wpAny (model prog w) A (Builtin.«list.sort» ⟨[.ref a], []⟩) P E s := by
  have hlen : vs.length = es.length := al.length
  by_cases h2 : vs.length < 2
  · refine sort_own1 ho h2 fun h' e tk k1 k2 => hP vs h' e tk ?_ k1 k2
    have : es = sortF es := sortF_of (.refl _) (by
      rcases es with _ | ⟨x, _ | ⟨y, r⟩⟩
      · exact .nil
      · exact List.pairwise_singleton _ _
      · simp at hlen; omega)
    rw [← this]; exact al
  · refine sort_own (good := fun p => IsP es.length p.toArray ∧ Up (fun i j => ltE (es.getD i (Str.ofString "", 0)) (es.getD j (Str.ofString "", 0))) p.toArray es.length) ho (by omega) (by omega) ?_ ?_
    · intro h1 kp
      have sq : Sqx (s.heap.hide a) h1 := fun b o ho' e => by
        have hb : b ≠ a := fun q => by rw [q, show (s.heap.hide a).get? a = none from hideAll_none [a] (.head _)] at e; cases e
        exact kp b o hb (Heap.of_hide e)
      have al1 : Al (fun v e => Rd h1 v (pd e)) vs es := al_mem al fun v e he r => rdP (small_pd (okS (ok e he)).ok) sq r
      obtain ⟨fs, t1, t2, t3⟩ := katTups al1
      refine kat_kind (T := .type "str") t1 (by omega) (fun v hv => ?_) (by decide) ?_
      · obtain ⟨x, t, rfl⟩ := t3 v hv
        exact Looks.now
      · rw [show (Value.type "str" != Value.type "tuple") = true from by decide]
        refine ⟨⟨_, rfl⟩, fun tk => ?_⟩
        have ev := ev_sort (lt := fun i j => ltE (es.getD i (Str.ofString "", 0)) (es.getD j (Str.ofString "", 0))) (n := es.length) (orderE es _) (by omega)
        rw [hlen]
        refine kasWp_ev (I := fun s'' => ∃ tk, s'' = { s with heap := h1, toks := tk }) (P := fun p => IsP es.length p ∧ Up (fun i j => ltE (es.getD i (Str.ofString "", 0)) (es.getD j (Str.ofString "", 0))) p es.length) ?_ ?_ ⟨tk, rfl⟩ ev
        · rintro i j C s'' hi hj ⟨tk', rfl⟩ hC
          obtain ⟨b1, hb1, r1⟩ := al_get al1 i vs[i] (by simp [hlen, hi])
          obtain ⟨b2, hb2, r2⟩ := al_get al1 j vs[j] (by simp [hlen, hj])
          unfold kas_ask
          have e1 : vs.getD i Value.none = vs[i] := by simp [hlen, hi]
          have e2 : vs.getD j Value.none = vs[j] := by simp [hlen, hj]
          have f1 : es.getD i (Str.ofString "", 0) = b1 := by rw [List.getD_eq_getElem?_getD, hb1]; rfl
          have f2 : es.getD j (Str.ofString "", 0) = b2 := by rw [List.getD_eq_getElem?_getD, hb2]; rfl
          rw [e1, e2]
          rw [f1, f2] at hC
          exact cmpE (s := { s with heap := h1, toks := tk' }) r1 r2 fun tk'' => hC _ ⟨tk'', rfl⟩
        · rintro p s'' ⟨tk', rfl⟩ hp
          exact ⟨⟨tk', rfl⟩, by simpa using hp⟩
    · rintro p h' e tk ⟨g1, g2⟩ k1 k2
      refine hP _ h' e tk ?_ k1 k2
      have := sorted_perm (d := (Str.ofString "", 0)) g1 g2
      rw [← this]
      exact al_perm al _ _ p fun i hi => by
        rw [hlen]
        have h3 := (g1.2.2.mem_iff (a := i)).mp (by simpa using hi)
        simpa using h3

theorem sorted_es {vl : Value} {es : List (Str × Int)} {Q : Value → Shared → Prop} (hl : EL s.heap vl es) (ok : OkE es) (h64 : es.length < 64)
    (hQ : ∀ a h' tk, (∀ b o, s.heap.get? b = some o → h'.get? b = some o) → s.heap.get? a = none → EL h' (.ref a) (sortF es) → Q (.ref a) { s with heap := h', toks := tk }) :
    wpAny (model prog w) A (call (.builtin "sorted") [vl]) Q E s := by
  obtain ⟨l, vs, rfl, ll, al⟩ := hl
  have hl' := ll.isList
  have hlen : vs.length = es.length := by simpa using al.length
  refine Calls.call_function_entry kind_sorted plain_sorted entry_sorted (args_sorted1 _) ?_
  unfold Builtin.«sorted»
  refine wpAny_bind (m := checkCount "sorted" 1 1 _) (wpAny_pure ?_)
  refine wpAny_bind (collect_list hl' ?_ (by rw [sizeLine_eq]; omega))
  refine wpAny_bind (wpAny_newList ?_ (by rw [sizeLine_eq]; omega))
  have hsz : ((s.heap.push (seqObj "list" #[] 0)).update s.heap.objs.size (Obj.mapSeq (· ++ vs.toArray))).objs.size = s.heap.objs.size + 1 := by
    rw [Heap.size_update, size_push']
  have hoL : (((s.heap.push (seqObj "list" #[] 0)).update s.heap.objs.size (Obj.mapSeq (· ++ vs.toArray))).push (seqObj "list" vs.toArray 0)).get? (s.heap.objs.size + 1) = some (seqObj "list" vs.toArray 0) := by
    rw [← hsz]; exact Heap.get?_push_size _ rfl
  have keep : ∀ b o, s.heap.get? b = some o → (((s.heap.push (seqObj "list" #[] 0)).update s.heap.objs.size (Obj.mapSeq (· ++ vs.toArray))).push (seqObj "list" vs.toArray 0)).get? b = some o := fun b o q => by
    have hlt : b < s.heap.objs.size := Heap.lt_size q
    rw [Heap.get?_push_ne _ _ _ (by rw [hsz]; exact Nat.ne_of_lt (Nat.lt_succ_of_lt hlt)), Heap.get?_update_ne _ _ _ _ (Nat.ne_of_lt hlt), Heap.get?_push_ne _ _ _ (Nat.ne_of_lt hlt)]
    exact q
  have hDn : s.heap.get? (s.heap.objs.size + 1) = none := Heap.get?_none_of_le (Nat.le_succ _)
  show wpAny _ _ _ _ _ { s with heap := ((s.heap.push (seqObj "list" #[] 0)).update s.heap.objs.size (Obj.mapSeq (· ++ vs.toArray))).push (seqObj "list" vs.toArray 0) }
  rw [hsz]
  generalize ((s.heap.push (seqObj "list" #[] 0)).update s.heap.objs.size (Obj.mapSeq (· ++ vs.toArray))).push (seqObj "list" vs.toArray 0) = h1 at keep hoL ⊢
  generalize s.heap.objs.size + 1 = D at hoL hDn ⊢
  have sq1 : Sqx s.heap (h1.hide D) := sq_to_hide (fun b o _ e => keep b o e) hDn
  refine wpAny_bind (wpAny_holding (wpAny_call_entry slot_list_sort ⟨_, hoL, rfl⟩ entry_list_sort ?body (args_list_sort _)))
  case body =>
    refine sort_es (s := { s with heap := h1 }) (es := es) hoL (al_mem (al_of_map al) fun v e he r => rdP (small_pd (okS (ok e he)).ok) sq1 r) ok h64 ?_
    intro vs' h' e tk al' k1 k2
    refine ⟨_, rfl, wpAny_pure ⟨_, rfl, hQ D h' tk (fun b o q => k1 b o (fun z => by rw [z, hDn] at q; cases q) (keep b o q)) hDn ⟨D, vs', rfl, ⟨e, k2⟩, al_to_map (al_mem al' fun v e he r => rdP (small_pd (okS (okSort ok e he)).ok) (fun b o _ q => ?_) r)⟩⟩⟩
    have hb : b ≠ D := fun z => by rw [z, show (h1.hide D).get? D = none from hideAll_none [D] (.head _)] at q; cases q
    exact k1 b o hb (Heap.of_hide q)
end
end Mine
end

-- part S4
section
open PySem PySem.W PyProof.Rows PySem.Calls PySem.Spec
set_option maxRecDepth 100000
set_option maxHeartbeats 8000000
namespace Mine
theorem fill17 : (PySem.Challenge.rw_il0044_01, hd.heap_39) = (PySem.Challenge.rw_il0044_01, hd.heap_39) := by
  k_fill
  rfl
theorem eqvAll_pd : ∀ (es fs : List (Str × Int)), PyData.eqvAll (es.map pd) (fs.map pd) = decide (es = fs)
  | [], [] => rfl
  | [], _ :: _ => rfl
  | _ :: _, [] => rfl
  | e :: es, f :: fs => by
    rw [List.map_cons, List.map_cons, PyData.eqvAll, eqv_pd, eqvAll_pd es fs]
    by_cases h : e = f
    · subst h; simp
    · have h' : ¬ (e.1 = f.1 ∧ e.2 = f.2) := fun q => h (Prod.ext q.1 q.2)
      have : (e.1 == f.1 && e.2 == f.2) = false := by
        rw [Bool.eq_false_iff]; intro q; simp only [Bool.and_eq_true, beq_iff_eq] at q; exact h' q
      rw [this, Bool.false_and]
      symm; rw [decide_eq_false_iff_not]
      intro q; exact h (List.cons.inj q).1
theorem depth_pds (es : List (Str × Int)) : PyData.depthAll (es.map pd) ≤ 8 := by
  induction es with
  | nil => simp [PyData.depthAll]
  | cons e es ih => 
    rw [List.map_cons, PyData.depthAll]
    have : (pd e).depth ≤ 8 := by simp [pd, PyData.depth, PyData.depthAll]
    omega
theorem shapedEL {es : List (Str × Int)} (ok : OkE es) : SeqAt.shaped (.list (es.map pd)) = true := by
  have h1 : PyData.canLay0 (.list (es.map pd)) = true := by rw [PyData.canLay0]; exact canLayAll_of ok.small
  have h2 : PyData.depth (.list (es.map pd)) ≤ 64 := by
    have := depth_pds es
    rw [PyData.depth]; omega
  simp only [SeqAt.shaped, h1, h2, decide_true, Bool.and_self]
def lessT (old new layer : List (Str × Int)) (item : Str × Int) : Bool := decide (sortF (laidF old (layer.filter fun e => !hasE [item] e)) = sortF new)
def leastF (old new layer : List (Str × Int)) : Bool :=
  decide (layer = toldF old new) && (decide (sortF (laidF old layer) = sortF new) && decide (layer.filter (lessT old new layer) = []))

section
variable {w : World} {mean : ExcName → Option Value} {mg mb : Str → Option Value} {bs : Heap}
variable {prog : Program} {A : Around} {E : Value → Shared → Prop} {s : Shared}
theorem eqEL {u v : Value} {es fs : List (Str × Int)} {Q : Value → Shared → Prop} (hu : EL s.heap u es) (hv : EL s.heap v fs) (ok : OkE es) (okf : OkE fs) (hun : A.units + 64 < cLine) (h : Q (.bool (decide (es = fs))) s) :
    wpAny (model prog w) A (compareOp .Eq u v) Q E s := by
  obtain ⟨as, r⟩ := hu.reads
  obtain ⟨bs, q⟩ := hv.reads
  refine eq_dataH r q (shapedEL ok) (shapedEL okf) hun ?_
  rw [PyData.eqv, eqvAll_pd]; exact h

theorem okTold {old new : List (Str × Int)} (h : OkE old) (k : OkE new) : OkE (toldF old new) := by
  refine (show OkE (chgF old new) from k.filter _).append (okg new h.paths)

theorem least_spec {vo vn vl : Value} {old new layer : List (Str × Int)} (a : At w mean mg mb bs A s.heap) (hroom : A.depth + 6 < recursionLimit) (hu : A.units + 120 < cLine)
    (ho : EL s.heap vo old) (hn : EL s.heap vn new) (hl : EL s.heap vl layer) (oko : OkE old) (okn : OkE new) (okl : OkE layer) (szo : old.length ≤ 20) (szn : new.length ≤ 20) (szl : layer.length ≤ 20)
    (ndo : (old.map (·.1)).Nodup) (ndn : (new.map (·.1)).Nodup) :
    GW prog w A (call (.ref 122) [vo, vn, vl]) s (fun v _ => v = .bool (leastF old new layer)) := by
  intro Q E hQ
  have big : (400 : Nat) < sizeLine := by decide
  refine enter (binds := [(Str.ofString "old", vo), (Str.ofString "new", vn), (Str.ofString "layer", vl)]) a (by omega) (by k_is) (by k_is) (BindsTo.of_eq rfl) (kindsX rfl) rfl rfl rfl ?_
  intro L h₁ tk hL F B
  have hh := a.hand
  -- goal
  refine asgC F B (R := fun v h => EL h v (sortF new)) ?_ ?_ rfl
  · intro Q E hQ
    refine wpAny_Call_ofName (nmB B (by k_is) boot_sorted (by decide) (callWith_builtin1 (spliced_more (nmL F.ns rfl (spliced_none ?_)))))
    exact sorted_es (hn.ext okn.small F.keep) okn (by omega) fun a h' tk' up _ r => hQ _ h' tk' (Ext.of up) r
  intro vg h₂ h₃ tk₃ sq₂ sq₃ r F₃ B₃
  have goal₃ := r.sqx (okSort okn).small sq₃
  clear r sq₂ sq₃
  dsimp only
  -- less
  refine asgLC (es := layer) (ff := fun e => pd e) (p := lessT old new layer) (P := fun h v d => Rd h v d) F₃ B₃ (srcN (P0 := fun h v e => Rd h v (pd e)) hh (gw_of (v := vl) (fun Q E h => nmC rfl (F₃.cell (x := Str.ofString "layer") rfl rfl) h) ?_) ?_) ?_ ?_ ?_ (by omega) ?_
  · obtain ⟨l, items, rfl, ll, al⟩ := hl.ext okl.small F₃.keep
    exact ⟨l, items, rfl, ll, al_of_map al⟩
  · exact fun e he h h' v k r => rdP (small_pd (okS (okl e he)).ok) k r
  · intro e he C h tk m'' h0 hn₀ hB hx hs hC
    obtain ⟨v, hm, r⟩ := hB
    have oe := okS (okl e he)
    have r' := rdP (small_pd oe.ok) hs r
    have F' := F₃.ext rfl hx
    have B' := B₃.ext hx
    have goal' := goal₃.sqx (okSort okn).small hx.sqx
    intro Q E hQ
    refine wpAny_tests_one (wpAny_isTrue_Compare1 ?_)
    refine wpAny_Call_ofName (nmB B' (by k_is) boot_sorted (by decide) (callWith_builtin1 (spliced_more ?_)))
    refine cDef (fa := 107) B' (by k_is) (by k_is) (spliced_more (nmC rfl (F'.cell (x := Str.ofString "old") rfl rfl) (spliced_more ?_)))
    refine cDef (fa := 86) B' (by k_is) (by k_is) (spliced_more (nmC rfl (F'.cell (x := Str.ofString "layer") rfl rfl) (spliced_more (wpAny_List (spliced_more (nmL hn₀ hm (spliced_none ⟨by show 1 ≤ _; omega, spliced_none ⟨?_, ?_⟩⟩)))))))
    · exact (B'.ext (B'.like fun b o q => Heap.get?_push_of_some _ q)).kin
    have up : ∀ b o, h.get? b = some o → (h.push { cls := .type "list", data := .seq #[v] }).get? b = some o := fun b o q => Heap.get?_push_of_some _ q
    have hX : (h.push { cls := .type "list", data := .seq #[v] }).get? h.objs.size = some { cls := .type "list", data := .seq #[v] } := Heap.get?_push_size _ rfl
    have B'' := B'.ext (B'.like up)
    have F'' := F'.ext rfl (B'.like up)
    have goal'' := goal'.sqx (okSort okn).small fun b o _ q => up b o q
    have r'' := rdP (small_pd oe.ok) (fun b o _ q => up b o q) r'
    have upx := B'.like up
    generalize h.push { cls := .type "list", data := .seq #[v] } = hb at *
    generalize h.objs.size = X at hX ⊢
    have item : EL hb (.ref X) [e] := ⟨X, [v], rfl, ⟨0, hX⟩, .cons r'' .nil⟩
    have oki : OkE [e] := fun x hx => by rw [List.mem_singleton.mp hx]; exact okl e he
    have l1 := List.length_filter_le (fun x => !hasE [e] x) layer
    refine filter_spec (s := { s with heap := hb, toks := tk }) B'' (by show A.depth + 1 + 2 < _; omega) (by show A.units + 3 + 60 < _; omega) (hl.ext okl.small F''.keep) item okl.small oki.small (by simp; omega) _ _ fun v₁ hc tkc xc r₁ => ?_
    rw [filter_pd] at r₁
    have Bc := B''.ext xc
    have Fc := F''.ext rfl xc
    refine spliced_none ⟨Bc.kin, ?_⟩
    have l2 := lenLaid old (layer.filter fun x => !hasE [e] x)
    refine GW.run (laid_spec (s := { s with heap := hc, toks := tkc }) (view := old) (layer := layer.filter fun x => !hasE [e] x) Bc (by show A.depth + 1 + 4 < _; omega) (by show A.units + 3 + 80 < _; omega) (ho.ext oko.small Fc.keep) r₁ oko (okl.filter _) (by omega) (by omega)) fun v₂ hd' tkd xd r₂ => ?_
    have okd := okLaid oko (okl.filter fun x => !hasE [e] x)
    refine spliced_none (sorted_es (s := { s with heap := hd', toks := tkd }) r₂ okd (by omega) fun a he' tke upe _ r₃ => ?_)
    have xe := (xc.trans xd).trans (xd.like upe)
    have Fe := F''.ext rfl xe
    refine nmC rfl (Fe.cell (x := Str.ofString "goal") rfl rfl) (eqEL (s := { s with heap := he', toks := tke }) r₃ (goal''.sqx (okSort okn).small xe.sqx) (okSort okd) (okSort okn) (by show A.units + 3 + 64 < _; omega) (wpAny_truthy_bool ?_))
    exact hQ _ he' tke (upx.trans xe) rfl
  · intro e he hp C D h tk m'' h0 hn hB hx hs hC hD hD0 hL
    obtain ⟨v, hm, r⟩ := hB
    exact gw_of (fun Q E h => nmL hn hm h) (rdP (small_pd (okS (okl e he)).ok) (sq_to_hide hs hD0) r)
  · exact fun e he h h' v k r => rdP (small_pd (okS (okl e he)).ok) k r
  intro D₁ ys₁ h₅ tk₅ sq₅ l₁ al₁ F₅ B₅
  have less₅ : EL h₅ (.ref D₁) (layer.filter (lessT old new layer)) := ⟨D₁, ys₁, rfl, l₁, al₁⟩
  have goal₅ := goal₃.sqx (okSort okn).small sq₅
  clear al₁ l₁ sq₅ goal₃
  refine ex_return (R := fun v _ => v = .bool (leastF old new layer)) ?_ fun v h₂ tk₂ x₂ r => hQ v h₂ tk₂ (F₅.ext rfl x₂).keep r
  intro Q E hQ
  refine BoolOp_and (wpAny_Compare1 (nmC rfl (F₅.cell (x := Str.ofString "layer") rfl rfl) ?_))
  refine cDef (fa := 117) B₅ (by k_is) (by k_is) (spliced_more ?_)
  refine wpAny_Call_ofName (nmB B₅ (by k_is) boot_dict (by decide) (callWith_type1 (spliced_more (nmC rfl (F₅.cell (x := Str.ofString "old") rfl rfl) (spliced_none ?_)))))
  refine mkDict hh (ho.ext oko.small F₅.keep) oko ndo (by omega) fun d1 h₆ tk₆ up₆ hd1 D1 => ?_
  have F₆ := F₅.ext rfl (B₅.like up₆)
  have B₆ := B₅.ext (B₅.like up₆)
  refine spliced_more ?_
  refine wpAny_Call_ofName (nmB B₆ (by k_is) boot_dict (by decide) (callWith_type1 (spliced_more (nmL F₆.ns rfl (spliced_none ?_)))))
  refine mkDict (s := { s with heap := h₆, toks := tk₆ }) hh (hn.ext okn.small F₆.keep) okn ndn (by omega) fun d2 h₇ tk₇ up₇ hd2 D2 => ?_
  have F₇ := F₆.ext rfl (B₆.like up₇)
  have B₇ := B₆.ext (B₆.like up₇)
  refine spliced_none ⟨B₇.kin, ?_⟩
  refine GW.run (told_spec (s := { s with heap := h₇, toks := tk₇ }) (old := old) (new := new) B₇ (by show A.depth + 1 + 4 < _; omega) (by show A.units + 3 + 80 < _; omega) (D1.at fun o q => up₇ _ o q) D2 (B₅.fresh (Heap.get?_none_of_le hd1)) (B₆.fresh (Heap.get?_none_of_le hd2)) (B₅.sysd hd1) (B₆.sysd hd2) oko okn (by omega) (by omega)) fun v₈ h₈ tk₈ x₈ r₈ => ?_
  have F₈ := F₇.ext rfl x₈
  have B₈ := B₇.ext x₈
  have x5 := (B₅.like fun b o q => up₇ b o (up₆ b o q)).trans x₈
  refine eqEL (s := { s with heap := h₈, toks := tk₈ }) (hl.ext okl.small F₈.keep) r₈ okl (okTold oko okn) (by show A.units + 3 + 64 < _; omega) (wpAny_truthy_bool ?_)
  cases c1 : decide (layer = toldF old new) with
  | false =>
    simp only [Bool.false_eq_true, if_false]
    exact hQ _ h₈ tk₈ x5 (by simp only [leastF, c1, Bool.false_and])
  | true =>
    simp only [if_true]
    have okd := okLaid oko okl
    have l2 := lenLaid old layer
    refine BoolOp_and (wpAny_Compare1 ?_)
    refine wpAny_Call_ofName (nmB B₈ (by k_is) boot_sorted (by decide) (callWith_builtin1 (spliced_more ?_)))
    refine cDef (fa := 107) B₈ (by k_is) (by k_is) (spliced_more (nmC rfl (F₈.cell (x := Str.ofString "old") rfl rfl) (spliced_more (nmC rfl (F₈.cell (x := Str.ofString "layer") rfl rfl) (spliced_none ⟨B₈.kin, ?_⟩)))))
    refine GW.run (laid_spec (s := { s with heap := h₈, toks := tk₈ }) (view := old) (layer := layer) B₈ (by show A.depth + 1 + 4 < _; omega) (by show A.units + 3 + 80 < _; omega) (ho.ext oko.small F₈.keep) (hl.ext okl.small F₈.keep) oko okl (by omega) (by omega)) fun v₂ h₉ tk₉ x₉ r₂ => ?_
    refine spliced_none (sorted_es (s := { s with heap := h₉, toks := tk₉ }) r₂ okd (by omega) fun a h₁₀ tk₁₀ up₁₀ _ r₃ => ?_)
    have x10 := (x5.trans x₉).trans (x₉.like up₁₀)
    have F₁₀ := F₅.ext rfl x10
    refine nmC rfl (F₁₀.cell (x := Str.ofString "goal") rfl rfl) (eqEL (s := { s with heap := h₁₀, toks := tk₁₀ }) r₃ (goal₅.sqx (okSort okn).small x10.sqx) (okSort okd) (okSort okn) (by show A.units + 3 + 64 < _; omega) (wpAny_truthy_bool ?_))
    cases c2 : decide (sortF (laidF old layer) = sortF new) with
    | false =>
      simp only [Bool.false_eq_true, if_false]
      exact hQ _ h₁₀ tk₁₀ x10 (by simp only [leastF, c1, c2, Bool.false_and, Bool.true_and])
    | true =>
      simp only [if_true]
      refine BoolOp_one (wpAny_Compare1 (nmL F₁₀.ns rfl (wpAny_List (wpAny_pure ⟨by show 0 ≤ _; omega, ?_⟩))))
      have up : ∀ b o, h₁₀.get? b = some o → (h₁₀.push { cls := .type "list", data := .seq #[] }).get? b = some o := fun b o q => Heap.get?_push_of_some _ q
      have hX : (h₁₀.push { cls := .type "list", data := .seq #[] }).get? h₁₀.objs.size = some (W.listOf #[] 0) := Heap.get?_push_size _ rfl
      have okq := okl.filter (lessT old new layer)
      refine eqEL (s := { s with heap := h₁₀.push { cls := .type "list", data := .seq #[] }, toks := tk₁₀ }) (less₅.sqx okq.small (x10.sqx.trans fun b o _ q => up b o q)) (fs := []) ⟨_, [], rfl, ⟨0, hX⟩, .nil⟩ okq (fun x hx => (by cases hx)) (by show A.units + 3 + 64 < _; omega) ?_
      exact hQ _ _ _ (x10.trans (Ext.of up)) (by simp only [leastF, c1, c2, Bool.true_and])
end
end Mine
end

-- part T1
section
open PySem PySem.W PyProof.Rows PySem.Calls PySem.Spec
set_option maxRecDepth 100000
set_option maxHeartbeats 8000000
namespace Mine
section
variable {w : World} {mean : ExcName → Option Value} {mg mb : Str → Option Value} {bs : Heap}
variable {prog : Program} {A : Around} {E : Value → Shared → Prop} {s : Shared} {env : Env} {scope : Scope} {cl : List (Str × Addr)}

/-- xs[k] -/
theorem itemAt {value slice : Expr} {pos : Pos} {Q : Value → Shared → Prop}
    (h : wpAny (model prog w) A (eval value env) (fun o s₁ => wpAny (model prog w) A (eval slice env) (fun i s₂ => ∃ l items k u x, o = .ref l ∧ i = .int k u ∧ LstAt s₂.heap l items ∧ 0 ≤ k ∧ k < 100 ∧ items[k.toNat]? = some x ∧ Q x s₂) E s₁) E s)
    (hs : ∀ l k u, subscripted slice false (.ref l) (.int k u) = operate [.ref l, .int k u] (getItem (.ref l) (.int k u)) := by intro _ _ _; with_unfolding_all rfl)
    (hg : ∀ l r, letTemporaryGo value (.ref l) r = pure () := by intro _ _; with_unfolding_all rfl) :
    wpAny (model prog w) A (eval (.Subscript value slice pos) env) Q E s := by
  refine Subscript_ (wpAny_mono h (fun o s₁ h₁ => wpAny_mono h₁ (fun i s₂ h₂ => ?_) fun _ _ e => e) fun _ _ e => e)
  obtain ⟨l, items, k, u, x, rfl, rfl, hl, h0, h1, hx, hQ⟩ := h₂
  exact item_listL hl.isList h0 (by omega) hx hQ (hs _ _ _) (hg _)

/-- what a slice of a list gives -/
theorem sliceTail {value slice : Expr} {ops : Addr → List Value} {l : Addr} {items : List Value} {vl vu vk : Value} {lo hi st : Option Int} {Q : Value → Shared → Prop} (hl : s.heap.IsList l items.toArray) (pl : IsPart vl lo) (pu : IsPart vu hi) (pk : IsPart vk st) (h0 : st ≠ some 0) (hsz : items.length ≤ sizeLine)
    (h : ∀ a h', (∀ b o, s.heap.get? b = some o → h'.get? b = some o) → s.heap.get? a = none → h'.get? a = some (W.listOf (slicePick items.toArray lo hi st) 0) → Q (.ref a) { s with heap := h' })
    (hs : ∀ i, subscripted slice false (.ref l) (.ref i) = operate (ops i) (getItem (.ref l) (.ref i)) := by intro _; with_unfolding_all rfl)
    (ht : ∀ r, letTemporaryGo value (.ref l) r = pure () := by intro _; with_unfolding_all rfl) :
    wpAny (model prog w) A (subscriptTail value slice (.ref l) (.ref s.heap.objs.size)) Q E { s with heap := s.heap.push { cls := .type "slice", data := .fields #[vl, vu, vk] } } := by
  have hl' := hl
  refine subscriptTail_ops (Heap.IsList.typeIs (s := { s with heap := s.heap.push { cls := .type "slice", data := .fields #[vl, vu, vk] } }) (hl'.push _)) list_getitem_lookup
    (wpAny_getItem_list_slice (hl'.push _) (Heap.IsSliceOf.new ..) pl pu pk h0 ?_ (by simpa using hsz)) (hs _) ht
  refine h _ _ (fun b o e => Heap.get?_push_of_some _ (Heap.get?_push_of_some _ e)) ?_ (Heap.get?_push_size _ rfl)
  show s.heap.get? (s.heap.push _).objs.size = none
  rw [Heap.size_push]
  exact Heap.get?_none_of_le (Nat.le_succ _)

/-- range(n) -/
theorem srcRange {x : Str} {px np p pos : Pos} {n kd : Nat} {k : Int} (hh : A.handled = none)
    (hev : ∀ (Q : Value → Shared → Prop) (E : Value → Shared → Prop), Q (.type "range") s → wpAny (model prog w) A (eval (.Name (Str.ofString "range") np) env) Q E s)
    (hk : k = (n : Int) := by rfl) (hn : n < 100 := by decide) (hx : scope.names.lookup x = some .local := by rfl) (hkind : scope.kind = .function := by rfl) :
    SrcG prog w A scope cl env (.Name x px) (.Call (.Name (Str.ofString "range") np) [.Constant (.int k) kd p] [] pos) s (List.range n) (fun i m _ => ∃ t, m x = some (.int (i : Int) t)) := by
  subst hk
  intro Q E hQ
  refine wpAny_Call_ofName (hev _ _ (callWith_type1 (spliced_more (wpAny_Constant_int (spliced_none (call_range_1 ?_))))))
  refine wpAny_pyIter_range (IsRange.new ..) (small_one (by omega) (by omega) (by omega) (by omega)) ?_
  have up1 : ∀ b o, s.heap.get? b = some o → (s.heap.push { cls := .type "range", data := .fields #[.int 0 (s.toks + 1), .int n s.toks, .int 1 (s.toks + 1 + 1)] }).get? b = some o := fun b o e => Heap.get?_push_of_some _ e
  dsimp only at up1 ⊢
  generalize s.heap.push { cls := .type "range", data := .fields #[.int 0 (s.toks + 1), .int n s.toks, .int 1 (s.toks + 1 + 1)] } = h1 at up1 ⊢
  have hrs : Builtin.Range.rangeSize 0 (n : Int) 1 = ((n : Nat) : Int) := by rw [rangeSize_one]; split <;> omega
  rw [hrs]
  have up2 : ∀ b o, h1.get? b = some o → (h1.push { cls := .type "range_iterator", data := .fields #[rawInt 0, rawInt (n : Int), rawInt 1] }).get? b = some o := fun b o e => Heap.get?_push_of_some _ e
  have S := src_walks (s := { s with heap := h1.push { cls := .type "range_iterator", data := .fields #[rawInt 0, rawInt (n : Int), rawInt 1] }, toks := s.toks + 1 + 1 + 1 }) (env := env) (scope := scope) (cl := cl) (x := x) (px := px) (Walks.range (prog := prog) (w := w) hh h1.objs.size 0 1 n) (fun b hm => .inl (List.mem_singleton.mp hm))
    (by show _ < (h1.push _).objs.size; rw [Heap.size_push]; exact Nat.lt_succ_self _) (by show IsRangeIter _ _ _ _ _; simpa using Heap.get?_push_size _ rfl) (fun i h o st e => by
      have st' : h.get? h1.objs.size = some _ := st
      rw [st'] at e; cases e; exact ⟨_, rfl⟩) hx hkind
  refine hQ _ _ _ _ (Ext.of fun b o e => up2 b o (up1 b o e)) ?_ (by
    rw [List.length_range]
    exact S.imp fun i m hi hB => by
      obtain ⟨v, ⟨t, rfl⟩, hm⟩ := hB
      exact ⟨i, by simp [hi], t, by rw [hm, Int.zero_add, Int.mul_one]⟩)
  cases z : s.heap.get? h1.objs.size with
  | none => rfl
  | some o => exact absurd (Heap.lt_size (up1 _ _ z)) (Nat.lt_irrefl _)

/-- a tuple of three figures -/
theorem srcTup3 {x : Str} {px p1 p2 p3 tp : Pos} {k1 k2 k3 k : Nat} {a b c : Int} (hh : A.handled = none) (hx : scope.names.lookup x = some .local := by rfl) (hkind : scope.kind = .function := by rfl) :
    SrcG prog w A scope cl env (.Name x px) (.Tuple [.Constant (.int a) k1 p1, .Constant (.int b) k2 p2, .Constant (.int c) k3 p3] k tp) s [a, b, c] (fun i m _ => ∃ t, m x = some (.int i t)) := by
  intro Q E hQ
  have big : (400 : Nat) < sizeLine := by decide
  refine wpAny_Tuple (spliced_more (wpAny_Constant_int (spliced_more (wpAny_Constant_int (spliced_more (wpAny_Constant_int (spliced_none ⟨by show 3 ≤ _; omega, ?_⟩)))))))
  have htems : ∀ (t0 t1 t2 : Tok) (i : Nat) (v : Value), (([.int a t0, .int b t1, .int c t2] : List Value).toArray)[i]? = some v → ∃ y t, ([a, b, c] : List Int)[i]? = some y ∧ v = Value.int y t := by
    intro t0 t1 t2 i v h
    rcases i with _ | _ | _ | i <;> simp at h <;> subst h <;> exact ⟨_, _, rfl, rfl⟩
  have htems' := htems s.toks (s.toks + 1) (s.toks + 1 + 1)
  clear htems
  dsimp only at htems' ⊢
  generalize hitm : ([.int a s.toks, .int b (s.toks + 1), .int c (s.toks + 1 + 1)] : List Value).toArray = items at htems' ⊢
  have hsz : items.size = 3 := by rw [← hitm]; rfl
  clear hitm
  have up8 : ∀ b o, s.heap.get? b = some o → (s.heap.push { cls := .type "tuple", data := .seq items }).get? b = some o := fun b o q => Heap.get?_push_of_some _ q
  have hX8 : (s.heap.push { cls := .type "tuple", data := .seq items }).get? s.heap.objs.size = some { cls := .type "tuple", data := .seq items } := Heap.get?_push_size _ rfl
  generalize s.heap.objs.size = X at hX8 ⊢
  generalize s.heap.push { cls := .type "tuple", data := .seq items } = h₈ at *
  refine wpAny_pyIter_tuple (items := items) ⟨_, hX8, rfl, 0, rfl⟩ ?_
  have up9 : ∀ b o, h₈.get? b = some o → (h₈.push { cls := .type "tuple_iterator", data := .fields #[.ref X, .int 0 0] }).get? b = some o := fun b o q => Heap.get?_push_of_some _ q
  have hI9 : (h₈.push { cls := .type "tuple_iterator", data := .fields #[.ref X, .int 0 0] }).IsTupleIter h₈.objs.size X 0 := ⟨_, Heap.get?_push_size _ rfl, rfl, rfl⟩
  have hXI : X ≠ h₈.objs.size := fun q => by rw [q] at hX8; exact Nat.lt_irrefl _ (Heap.lt_size hX8)
  dsimp only
  have S := src_walks (s := { s with heap := h₈.push { cls := .type "tuple_iterator", data := .fields #[.ref X, .int 0 0] }, toks := s.toks + 1 + 1 + 1 }) (env := env) (scope := scope) (cl := cl) (x := x) (px := px) (Walks.tuple (prog := prog) (w := w) hh h₈.objs.size X hXI items) (fun b hm => by
      rcases List.mem_cons.mp hm with rfl | hm
      · exact .inl rfl
      · rw [List.mem_singleton.mp hm]; exact .inr ⟨_, up9 _ _ hX8, _, _, rfl⟩) (by show _ < (h₈.push _).objs.size; rw [Heap.size_push]; exact Nat.lt_succ_self _) ⟨hI9, ⟨_, up9 _ _ hX8, rfl, 0, rfl⟩⟩ (fun i h o st e => by
        obtain ⟨o', e', _, hd⟩ := st.1
        rw [e] at e'; cases e'; exact ⟨_, hd⟩) hx hkind
  rw [hsz] at S
  refine hQ _ _ _ _ (Ext.of fun b o e => up9 b o (up8 b o e)) ?_ (S.imp fun i m hi hB => ?_)
  · cases z : s.heap.get? h₈.objs.size with
    | none => rfl
    | some o => exact absurd (Heap.lt_size (up8 _ _ z)) (Nat.lt_irrefl _)
  · obtain ⟨v, hv, hm⟩ := hB
    obtain ⟨y, t, hy, rfl⟩ := htems' i v hv
    exact ⟨y, hy, t, hm⟩

/-- what a call has laid does not lean on a list that stood -/
theorem el_hide {h h' : Heap} {D a : Addr} {es : List (Str × Int)} (r : EL h' (.ref a) es) (ha : h.get? a = none) (hD : ∃ ys, LstAt h D ys) (x : Ext A h h') : EL (h'.hide D) (.ref a) es := by
  obtain ⟨ys, n, e⟩ := hD
  have hDa : a ≠ D := fun q => by rw [q, e] at ha; cases ha
  obtain ⟨a', items, q, ⟨k, e'⟩, al⟩ := r
  cases q
  have eD := x.nd e (sq_nd ⟨_, _, rfl⟩)
  refine ⟨a, items, rfl, ⟨k, (Heap.hide_ne _ hDa).trans e'⟩, al_to_map (al_mem (al_of_map al) fun v e _ r => ?_)⟩
  obtain ⟨t, k1, k2, rfl, o, q1, q2, q3⟩ := rd_pd r
  have htD : t ≠ D := fun q => by rw [q, eD] at q1; cases q1; exact absurd (show (Value.type "list" : Value) = .type "tuple" from q2) (by decide)
  exact rd_of_tup ⟨o, (Heap.hide_ne _ htD).trans q1, q2, q3⟩

def vd (es : List (Str × Int)) : PyData := .list (es.map pd)
theorem rd_el {h : Heap} {v : Value} {es : List (Str × Int)} (r : EL h v es) : Rd h v (vd es) := r.reads
theorem VL.reads {h : Heap} {v : Value} {vs : List (List (Str × Int))} (x : VL h v vs) : ∃ as, Reads h v (.list (vs.map vd)) as := by
  obtain ⟨a, items, rfl, ⟨n, e⟩, al⟩ := x
  obtain ⟨as, r⟩ := readsAll_of (al_to_map (f := vd) (al.mono fun _ _ r => rd_el r))
  exact ⟨_, .list e rfl rfl (by simpa using r)⟩
theorem eqvAll_vd : ∀ (vs ws : List (List (Str × Int))), PyData.eqvAll (vs.map vd) (ws.map vd) = decide (vs = ws)
  | [], [] => rfl
  | [], _ :: _ => rfl
  | _ :: _, [] => rfl
  | e :: es, f :: fs => by
    rw [List.map_cons, List.map_cons, PyData.eqvAll, eqvAll_vd es fs]
    rw [show PyData.eqv (vd e) (vd f) = decide (e = f) from by rw [vd, vd, PyData.eqv, eqvAll_pd]]
    by_cases h : e = f
    · subst h; simp
    · rw [decide_eq_false h, Bool.false_and]
      symm; rw [decide_eq_false_iff_not]
      intro q; exact h (List.cons.inj q).1
theorem depth_vds (vs : List (List (Str × Int))) : PyData.depthAll (vs.map vd) ≤ 20 := by
  induction vs with
  | nil => simp [PyData.depthAll]
  | cons e es ih =>
    rw [List.map_cons, PyData.depthAll]
    have := depth_pds e
    have : (vd e).depth ≤ 20 := by rw [vd, PyData.depth]; omega
    omega
theorem shapedVL {vs : List (List (Str × Int))} (ok : OkV vs) : SeqAt.shaped (.list (vs.map vd)) = true := by
  have h1 : PyData.canLayAll0 (vs.map vd) = true := by
    induction vs with
    | nil => rfl
    | cons e es ih =>
      rw [List.map_cons, PyData.canLayAll0, ih fun x hx => ok x (.tail _ hx), Bool.and_true, vd, PyData.canLay0]
      exact canLayAll_of (ok e (.head _)).small
  have h2 : PyData.depth (.list (vs.map vd)) ≤ 64 := by
    have := depth_vds vs
    rw [PyData.depth]; omega
  simp only [SeqAt.shaped, PyData.canLay0, h1, h2, decide_true, Bool.and_self]
theorem eqVL {u v : Value} {vs ws : List (List (Str × Int))} {Q : Value → Shared → Prop} (hu : VL s.heap u vs) (hv : VL s.heap v ws) (ok : OkV vs) (okf : OkV ws) (hun : A.units + 64 < cLine) (h : Q (.bool (decide (vs = ws))) s) :
    wpAny (model prog w) A (compareOp .Eq u v) Q E s := by
  obtain ⟨as, r⟩ := hu.reads
  obtain ⟨bs, q⟩ := hv.reads
  refine eq_dataH r q (shapedVL ok) (shapedVL okf) hun ?_
  rw [PyData.eqv, eqvAll_vd]; exact h

/-- a list of truths -/
theorem eqBL {u v : Value} {vs ws : List Bool} {Q : Value → Shared → Prop} (hu : Ld s.heap u (vs.map PyData.bool)) (hv : Ld s.heap v (ws.map PyData.bool)) (hun : A.units + 64 < cLine) (h : Q (.bool (decide (vs = ws))) s) :
    wpAny (model prog w) A (compareOp .Eq u v) Q E s := by
  have sh : ∀ vs : List Bool, SeqAt.shaped (.list (vs.map PyData.bool)) = true := fun vs => by
    have h1 : PyData.canLayAll0 (vs.map PyData.bool) = true ∧ PyData.depthAll (vs.map PyData.bool) ≤ 8 := by
      induction vs with
      | nil => exact ⟨rfl, by simp [PyData.depthAll]⟩
      | cons e es ih =>
        refine ⟨by simp [PyData.canLayAll0, PyData.canLay0, ih.1], ?_⟩
        rw [List.map_cons, PyData.depthAll]
        have h1 := ih.2
        have h2 : (PyData.bool e).depth ≤ 8 := by simp [PyData.depth]
        omega
    have h2 : PyData.depth (.list (vs.map PyData.bool)) ≤ 64 := by rw [PyData.depth]; omega
    simp only [SeqAt.shaped, PyData.canLay0, h1.1, h2, decide_true, Bool.and_self]
  have ev : ∀ vs ws : List Bool, PyData.eqvAll (vs.map PyData.bool) (ws.map PyData.bool) = decide (vs = ws) := by
    intro vs
    induction vs with
    | nil => intro ws; cases ws <;> rfl
    | cons e es ih =>
      intro ws
      cases ws with
      | nil => rfl
      | cons f fs =>
        rw [List.map_cons, List.map_cons, PyData.eqvAll, ih fs, PyData.eqv]
        cases e <;> cases f <;> simp
  obtain ⟨as, r⟩ := hu.reads
  obtain ⟨bs, q⟩ := hv.reads
  refine eq_dataH r q (sh _) (sh _) hun ?_
  rw [PyData.eqv, ev]; exact h

theorem slice_ints {vs : List Value} {ns : List Int} (h : IntsAre vs ns) (lo hi st : Option Int) : IntsAre (slicePick vs.toArray lo hi st).toList (pickNums ns lo hi st) := h.pick lo hi st
theorem sum_exact {l : Addr} {vs : List Value} {ns : List Int} {Q : Value → Shared → Prop} (hh : A.handled = none) (hl : s.heap.IsList l vs.toArray) (hi : IntsAre vs ns)
    (h : ∀ h' tk t', (∀ b o, s.heap.get? b = some o → h'.get? b = some o) → Q (.int ns.sum t') { s with heap := h', toks := tk }) :
    wpAny (model prog w) A (call (.builtin "sum") [.ref l]) Q E s := by
  have hall := hi.allInts
  obtain ⟨xs, hxs⟩ := hall.items
  have hn := hi.numsOf
  rw [show vs = vs.toArray.toList from rfl, hxs, nums_intItems] at hn
  rw [hxs] at hl
  refine sum_intListG hh hl fun h' tk t' hk => ?_
  have := h h' tk t' hk
  rw [preSum_eq, List.take_of_length_le (by simp), hn]; exact this
end
end Mine
end

-- part T2
section
open PySem PySem.W PyProof.Rows PySem.Calls PySem.Spec
set_option maxRecDepth 100000
set_option maxHeartbeats 8000000
namespace Mine
theorem fill18 : (PySem.Challenge.rw_il0044_01, hd.heap_39) = (PySem.Challenge.rw_il0044_01, hd.heap_39) := by
  k_fill
  rfl
def heapF (ns : List Int) (p : Nat) : Int := (pickNums ns (some (p : Int)) none (some 4)).sum
def offsL : List Int := [132210, 30212, 194048]
def extraF (ns : List Int) : Int := (heapF ns 3).fmod 4096
def treesF (ns : List Int) (p : Nat) : List (Str × Int) := treeF (heapF ns p + offsL.getD p 0) (extraF ns)
def at4 (r : List (List (Str × Int))) (p : Nat) : List (Str × Int) := r.getD p []
def forthF (r : List (List (Str × Int))) (p : Nat) : List (Str × Int) := layerF (at4 r p) (at4 r (p + 1))
def backF (r : List (List (Str × Int))) (p : Int) : List (Str × Int) := layerF (at4 r p.toNat) (at4 r (p - 1).toNat)
def leastsF (r f : List (List (Str × Int))) (p : Nat) : Bool := leastF (at4 r p) (at4 r (p + 1)) (at4 f p)
def ringF (T : Nat → List (Str × Int)) : List (List (Str × Int)) := [T 0, T 1, T 2, T 0]
def forthsF (T : Nat → List (Str × Int)) : List (List (Str × Int)) := (List.range 3).map (forthF (ringF T))
def backsF (T : Nat → List (Str × Int)) : List (List (Str × Int)) := ([3, 2, 1] : List Int).map (backF (ringF T))
def lawT (T : Nat → List (Str × Int)) : Bool :=
  decide ((List.range 3).map (leastsF (ringF T) (forthsF T)) = [true, true, true]) && (decide ((runF [T 0] (forthsF T)).map sortF = (ringF T).map sortF) && decide ((runF [T 0] (backsF T)).map sortF = ((ringF T).map sortF).reverse))

structure GoodT (t : List (Str × Int)) : Prop where
  ok : OkE t
  nd : (t.map (·.1)).Nodup
  len : t.length ≤ 6
theorem GoodT.nil : GoodT [] := ⟨fun _ h => (by cases h), List.nodup_nil, Nat.zero_le _⟩
theorem at4_mem {r : List (List (Str × Int))} {p : Nat} (h : p < r.length) : at4 r p ∈ r := by
  unfold at4
  rw [List.getD_eq_getElem?_getD, List.getElem?_eq_getElem h]
  exact List.getElem_mem h
theorem vl_at {h : Heap} {v : Value} {vs : List (List (Str × Int))} (x : VL h v vs) {p : Nat} (hp : p < vs.length) : ∃ l items y, v = .ref l ∧ LstAt h l items ∧ items[p]? = some y ∧ EL h y (at4 vs p) := by
  obtain ⟨l, items, rfl, ll, al⟩ := x
  have hl := al.length
  obtain ⟨b, hb, r⟩ := al_get al p (items[p]'(by omega)) (by simp)
  refine ⟨l, items, items[p]'(by omega), rfl, ll, by simp, ?_⟩
  unfold at4
  rw [List.getD_eq_getElem?_getD, hb]; exact r
theorem Room.run {ls : List (List (Str × Int))} : ∀ {vs : List (List (Str × Int))} {k n m : Nat}, Room vs k n → OkV ls → (∀ l ∈ ls, l.length ≤ m) → Room (runF vs ls) (k + m * ls.length) (n + ls.length) := by
  induction ls with
  | nil => intro vs k n m r _ _; simpa [runF] using r
  | cons l ls ih =>
    intro vs k n m r ok hl
    have := ih (r.onw (ok l (.head _)) (hl l (.head _))) (fun x hx => ok x (.tail _ hx)) (fun x hx => hl x (.tail _ hx))
    rw [List.length_cons, show k + m * (ls.length + 1) = k + m + m * ls.length by rw [Nat.mul_add]; omega, show n + (ls.length + 1) = n + 1 + ls.length by omega]
    exact this

section
variable {w : World} {mean : ExcName → Option Value} {mg mb : Str → Option Value} {bs : Heap}
variable {prog : Program} {A : Around} {E : Value → Shared → Prop} {s : Shared} {env : Env}
theorem vlAt {value slice : Expr} {pos : Pos} {vs : List (List (Str × Int))} {p : Nat} {k : Int} {v : Value} {Q : Value → Shared → Prop} (x : VL s.heap v vs) (hk : k = (p : Int)) (hp : p < vs.length) (hl : vs.length < 100)
    (hv : ∀ (Q : Value → Shared → Prop) (E : Value → Shared → Prop), Q v s → wpAny (model prog w) A (eval value env) Q E s)
    (hsl : ∀ (Q : Value → Shared → Prop) (E : Value → Shared → Prop), (∀ u tk', Q (.int k u) { s with toks := tk' }) → wpAny (model prog w) A (eval slice env) Q E s)
    (h : ∀ y tk', EL s.heap y (at4 vs p) → Q y { s with toks := tk' })
    (hs : ∀ l k u, subscripted slice false (.ref l) (.int k u) = operate [.ref l, .int k u] (getItem (.ref l) (.int k u)) := by intro _ _ _; with_unfolding_all rfl)
    (hg : ∀ l r, letTemporaryGo value (.ref l) r = pure () := by intro _ _; with_unfolding_all rfl) :
    wpAny (model prog w) A (eval (.Subscript value slice pos) env) Q E s := by
  obtain ⟨l, items, y, rfl, ll, hy, r⟩ := vl_at x hp
  exact itemAt (hv _ _ (hsl _ _ fun u tk' => ⟨l, items, k, u, y, rfl, rfl, ll, by omega, by omega, by subst hk; simpa using hy, h y tk' r⟩)) hs hg

theorem get3 (a0 a1 a2 : Int) (t0 t1 t2 : Tok) (n : Nat) (h : n < 3) : ∃ t, ([Value.int a0 t0, Value.int a1 t1, Value.int a2 t2] : List Value).toArray[n]? = some (Value.int ([a0, a1, a2].getD n 0) t) := by
  rcases n with _ | _ | _ | n
  all_goals first | exact ⟨_, rfl⟩ | omega
theorem tab3 {m : Str → Option Value} {x : Str} {px pos tp p0 p1 p2 : Pos} {k k0 k1 k2 : Nat} {a0 a1 a2 : Int} {tf : Tok} {n : Nat} (hn : s.heap.Ns env.locals m) (hv : m x = some (.int (n : Int) tf)) (h8 : n < 3)
    (hk : env.scope.kind = .function := by rfl) (hx : env.kindOf x = some .local := by rfl) (hd : (x == ("__debug__" : Str)) = false := by decide) :
    GW prog w A (eval (.Subscript (.Tuple [.Constant (.int a0) k0 p0, .Constant (.int a1) k1 p1, .Constant (.int a2) k2 p2] k tp) (.Name x px) pos) env) s
      (fun v _ => ∃ t, v = .int ([a0, a1, a2].getD n 0) t) := by
  intro Q E hQ
  have big : (400 : Nat) < sizeLine := by decide
  refine tmpTup (wpAny_Tuple (spliced_more (wpAny_Constant_int (spliced_more (wpAny_Constant_int (spliced_more (wpAny_Constant_int (spliced_none ⟨by show 3 ≤ _; omega, ?_⟩))))))))
  refine nmL (hn.push _) hv ?_ hk hx hd
  obtain ⟨tt, htt⟩ := get3 a0 a1 a2 s.toks (s.toks + 1) (s.toks + 1 + 1) n h8
  refine ⟨_, _, _, _, _, rfl, rfl, ⟨_, Heap.get?_push_size _ rfl, rfl, 0, rfl⟩, Int.natCast_nonneg _, by show (n : Int) < 3; omega, ?_, htt, ?_⟩
  · show 3 < 100; omega
  · exact hQ _ _ _ (Ext.of fun b o q => Heap.get?_push_of_some _ q) ⟨tt, rfl⟩

theorem body_of {X : Option Obj} {od od' : Option Addr} {oc oc' : Value} {osl osl' : Array (Option Value)} {name name' qual qual' : Str} {params params' : Arguments} {body body' : List Stmt} {scope scope' : Scope} {dV dV' kV kV' doc doc' pm pm' cdv cdv' ct ct' : Value} {an an' : Option Addr}
    (h : X = some ⟨oc, od, .func (fnOf name qual params body scope dV kV doc pm an cdv ct), osl⟩)
    (h' : X = some ⟨oc', od', .func (fnOf name' qual' params' body' scope' dV' kV' doc' pm' an' cdv' ct'), osl'⟩) {P : List Stmt → Scope → Prop} (p : P body' scope') : P body scope := by
  rw [h] at h'
  have e : (fnOf name qual params body scope dV kV doc pm an cdv ct) = (fnOf name' qual' params' body' scope' dV' kV' doc' pm' an' cdv' ct') := by
    injection h' with h'
    injection h' with h1 h2 h3 h4
    injection h3
  have e1 : (FuncBody.stmts body) = FuncBody.stmts body' := congrArg FuncData.body e
  have e2 : scope = scope' := congrArg FuncData.scope e
  injection e1 with e1
  rw [e1, e2]; exact p
end
end Mine
end

-- part T3
section
open PySem PySem.W PyProof.Rows PySem.Calls PySem.Spec
set_option maxRecDepth 100000
set_option maxHeartbeats 8000000
namespace Mine
theorem fill19 : (PySem.Challenge.rw_il0044_01, hd.heap_39) = (PySem.Challenge.rw_il0044_01, hd.heap_39) := by
  k_fill
  rfl
theorem slice_head (x : Value) (r : List Value) : slicePick (x :: r).toArray none (some 1) none = #[x] := by
  have e : sliceBounds none (some 1) none (x :: r).toArray.size = (0, 1, 1) := by
    simp only [sliceBounds, List.size_toArray, List.length_cons, Option.getD_none]
    simp; omega
  unfold slicePick
  rw [e]
  rfl
theorem slice_rev4 (a b c d : Value) : slicePick [a, b, c, d].toArray none none (some (-1)) = #[d, c, b, a] := by
  have e : sliceBounds none none (some (-1)) [a, b, c, d].toArray.size = (3, -1, -1) := by
    show sliceBounds none none (some (-1)) 4 = (3, -1, -1)
    decide
  have e2 : sliceRange 3 (-1) (-1) = [3, 2, 1, 0] := by decide
  unfold slicePick
  rw [e]
  dsimp only
  rw [e2]
  rfl
def IL (h : Heap) (v : Value) (xs : List Int) : Prop := ∃ a items, v = .ref a ∧ LstAt h a items ∧ Al (fun v x => ∃ t, v = Value.int x t) items xs
theorem isList_ext {A : Around} {h h' : Heap} {l : Addr} {items : Array Value} (x : h.IsList l items) (e : Ext A h h') : h'.IsList l items := by
  obtain ⟨o, q, hc, n, hd⟩ := x
  exact ⟨o, e.nd q (sq_nd ⟨_, n, hd⟩), hc, n, hd⟩
theorem IL.sqx {h h' : Heap} {v : Value} {xs : List Int} (x : IL h v xs) (k : Sqx h h') : IL h' v xs := by
  obtain ⟨a, items, rfl, ⟨n, e⟩, al⟩ := x
  exact ⟨a, items, rfl, ⟨n, k _ _ ⟨_, _, rfl⟩ e⟩, al⟩

section
variable {w : World} {mean : ExcName → Option Value} {mg mb : Str → Option Value} {bs : Heap}
variable {prog : Program} {A : Around} {E : Value → Shared → Prop} {s : Shared} {env : Env}

theorem il_at {h : Heap} {v : Value} {xs : List Int} (x : IL h v xs) {p : Nat} (hp : p < xs.length) : ∃ l items t, v = .ref l ∧ LstAt h l items ∧ items[p]? = some (.int (xs.getD p 0) t) := by
  obtain ⟨l, items, rfl, ll, al⟩ := x
  have hl := al.length
  obtain ⟨b, hb, t, e⟩ := al_get al p (items[p]'(by omega)) (by simp)
  refine ⟨l, items, t, rfl, ll, ?_⟩
  rw [List.getD_eq_getElem?_getD, hb]
  have : items[p]? = some (items[p]'(by omega)) := by simp
  rw [this, e]; rfl

theorem catVL {u v : Value} {xs ys : List (List (Str × Int))} {Q : Value → Shared → Prop} (hu : VL s.heap u xs) (hv : VL s.heap v ys) (okx : OkV xs) (oky : OkV ys) (sz : xs.length + ys.length ≤ 100)
    (h : ∀ a h', (∀ b o, s.heap.get? b = some o → h'.get? b = some o) → VL h' (.ref a) (xs ++ ys) → Q (.ref a) { s with heap := h' }) : wpAny (model prog w) A (binaryOp .Add u v) Q E s := by
  have big : (400 : Nat) < sizeLine := by decide
  obtain ⟨a, items, rfl, ⟨n, e⟩, al⟩ := hu
  obtain ⟨b, its, rfl, ⟨k, e'⟩, al'⟩ := hv
  refine PySem.P.add_list (show IsL s.heap a items.toArray n from e) (show IsL s.heap b its.toArray k from e') ?_ (by have := al.length; have := al'.length; simp; omega)
  have up : ∀ b o, s.heap.get? b = some o → (s.heap.push { cls := .type "list", data := .seq (items.toArray ++ its.toArray) }).get? b = some o := fun b o e => Heap.get?_push_of_some _ e
  refine h _ _ up ⟨_, items ++ its, rfl, ⟨0, ?_⟩, ?_⟩
  · rw [Heap.get?_push_size _ rfl]; simp [W.listOf]
  · exact al_app (al_mem al fun _ d hd r => r.sqx (okx d hd).small fun b o _ q => up b o q) (al_mem al' fun _ d hd r => r.sqx (oky d hd).small fun b o _ q => up b o q)

theorem headVL {value : Expr} {p pos cp : Pos} {kd : Nat} {v : Value} {T : List (Str × Int)} {r : List (List (Str × Int))} {Q : Value → Shared → Prop} (hv : ∀ (Q : Value → Shared → Prop) (E : Value → Shared → Prop), Q v s → wpAny (model prog w) A (eval value env) Q E s)
    (x : VL s.heap v (T :: r)) (ok : OkE T) (sz : r.length < 100)
    (h : ∀ a h' tk', (∀ b o, s.heap.get? b = some o → h'.get? b = some o) → VL h' (.ref a) [T] → Q (.ref a) { s with heap := h', toks := tk' })
    (hs : ∀ l i, subscripted (.Slice none (some (.Constant (.int 1) kd cp)) none p) false (.ref l) (.ref i) = operate [.ref i, .ref l] (getItem (.ref l) (.ref i)) := by intro _ _; with_unfolding_all rfl)
    (ht : ∀ l r, letTemporaryGo value (.ref l) r = pure () := by intro _ _; with_unfolding_all rfl) :
    wpAny (model prog w) A (eval (.Subscript value (.Slice none (some (.Constant (.int 1) kd cp)) none p) pos) env) Q E s := by
  have big : (400 : Nat) < sizeLine := by decide
  obtain ⟨l, items, rfl, ll, al⟩ := x
  cases al with
  | cons r0 al =>
    rename_i i0 items
    refine Subscript_ (hv _ _ (wpAny_Slice (evalPart_none_step (evalPart_some_step (wpAny_Constant_int (evalPart_none_step ?_))))))
    refine sliceTail (s := { s with toks := s.toks + 1 }) ll.isList .none (.int _ _) .none (by decide) (by have := al.length; simp; omega) ?_ (hs _) (ht _)
    intro a h' up ha e
    rw [slice_head] at e
    exact h a h' _ up ⟨a, [i0], rfl, ⟨0, e⟩, .cons (r0.sqx ok.small fun b o _ q => up b o q) .nil⟩
end

def LawWalks (body : List Stmt) (scope : Scope) : Prop :=
  ∀ (prog : Program) (w : World) (mean : ExcName → Option Value) (mg mb : Str → Option Value) (bs : Heap) (A₀ : Around) (g : Heap) (L f : Addr) (cdv : Value) (m cm : Str → Option Value) (s : Shared) (l : Addr) (vs : List Value) (ns : List Int) (Q : Flow → Shared → Prop) (E : Value → Shared → Prop),
    FS bs A₀ g L scope s.heap m cm → At w mean mg mb bs (A₀.deeper (envOfC (Str.ofString "law") scope L f cdv)) s.heap → A₀.depth + 12 < recursionLimit → A₀.units + 200 < cLine →
    cm (Str.ofString "script") = some (.ref l) → g.IsList l vs.toArray → IntsAre vs ns → ns.length ≤ 63 → (∀ p, GoodT (treesF ns p)) →
    (∀ h' tk', Ext A₀ g h' → Q (.ret (.bool (lawT (treesF ns)))) { s with heap := h', toks := tk' }) →
    wpAny (model prog w) (A₀.deeper (envOfC (Str.ofString "law") scope L f cdv)) (execs body (envOfC (Str.ofString "law") scope L f cdv)) Q E s

theorem ring_good {T : Nat → List (Str × Int)} (h : ∀ p, GoodT (T p)) {p : Nat} : GoodT (at4 (ringF T) p) := by
  rcases p with _ | _ | _ | _ | p
  · exact h 0
  · exact h 1
  · exact h 2
  · exact h 0
  · exact GoodT.nil
theorem ring_ok {T : Nat → List (Str × Int)} (h : ∀ p, GoodT (T p)) : OkV (ringF T) := fun x hx => by
  simp only [ringF, List.mem_cons, List.not_mem_nil, or_false] at hx
  rcases hx with rfl | rfl | rfl | rfl
  · exact (h 0).ok
  · exact (h 1).ok
  · exact (h 2).ok
  · exact (h 0).ok
theorem lay_ok {a b : List (Str × Int)} (h : GoodT a) (k : GoodT b) : OkE (layerF a b) ∧ (layerF a b).length ≤ 12 := ⟨okLayer h.ok k.ok, by have := lenLayer a b; have := h.len; have := k.len; omega⟩
theorem forths_ok {T : Nat → List (Str × Int)} (h : ∀ p, GoodT (T p)) : ∀ x ∈ forthsF T, OkE x ∧ x.length ≤ 12 := fun x hx => by
  obtain ⟨p, -, rfl⟩ := List.mem_map.mp hx
  exact lay_ok (ring_good h) (ring_good h)
theorem backs_ok {T : Nat → List (Str × Int)} (h : ∀ p, GoodT (T p)) : ∀ x ∈ backsF T, OkE x ∧ x.length ≤ 12 := fun x hx => by
  obtain ⟨p, -, rfl⟩ := List.mem_map.mp hx
  exact lay_ok (ring_good h) (ring_good h)
theorem room0 {T : List (Str × Int)} (h : GoodT T) : Room [T] 6 1 := ⟨fun x hx => by rw [List.mem_singleton.mp hx]; exact h.ok, by simp, by simp, fun x hx => by rw [List.mem_singleton.mp hx]; exact h.len⟩
theorem sorts_ok {vs : List (List (Str × Int))} (h : OkV vs) : OkV (vs.map sortF) := fun x hx => by
  obtain ⟨e, he, rfl⟩ := List.mem_map.mp hx
  exact okSort (h e he)

theorem law_walks {od : Option Addr} {oc : Value} {osl : Array (Option Value)} {w : World} {name qual : Str} {params : Arguments} {body : List Stmt} {scope : Scope} {dV kV doc pm cdv ct : Value} {an : Option Addr}
    (ho : (hd.heap_39 w.params).lookup 134 = some ⟨oc, od, .func (fnOf name qual params body scope dV kV doc pm an cdv ct), osl⟩) : LawWalks body scope := by
  refine body_of ho (by k_is) (P := LawWalks) ?_
  intro prog w mean mg mb bs A₀ g L f cdv m cm s l vs ns Q E F B hroom hu hcm hl hi hns good hQ
  have big : (400 : Nat) < sizeLine := by decide
  have hh := B.hand
  have hlen : vs.length = ns.length := hi.length
  -- heaps
  refine asgC F B (lcE (es := List.range 4) (f := heapF ns) (p := fun _ => true) (P := fun _ v x => ∃ t, v = Value.int x t) (srcRange hh (fun Q E h => nmB B (by k_is) boot_range (by decide) h)) ?_ ?_ ?_ (by decide)) ?_ rfl
  · intro e he C h tk m'' h0 hn hB hx hs hC
    exact fun Q E hQ => wpAny_tests_nil (hQ true h tk (Ext.refl _ _) rfl)
  · intro p hp _ C D h tk m'' h0 hn hB hx hs hC hD hD0 hL
    obtain ⟨t, hm⟩ := hB
    have F' := F.ext rfl hx
    have B' := B.ext hx
    intro Q E hQ
    refine wpAny_Call_ofName (nmB B' (by k_is) boot_sum (by decide) (callWith_builtin1 (spliced_more ?_)))
    refine Subscript_ (nmC rfl (F'.cell (x := Str.ofString "script") rfl hcm) (wpAny_Slice (evalPart_some_step (nmL hn hm (evalPart_none_step (evalPart_some_step (wpAny_Constant_int ?_)))))))
    refine sliceTail (s := { s with heap := h, toks := tk + 1 }) (isList_ext hl F'.keep) (.int _ _) .none (.int _ _) (by decide) (by omega) ?_
    intro a h₂ up ha hsl
    refine spliced_none (sum_exact (s := { s with heap := h₂, toks := tk + 1 }) hh (vs := (slicePick vs.toArray (some (p : Int)) none (some 4)).toList) ⟨_, hsl, rfl, 0, by simp⟩ (slice_ints hi _ _ _) ?_)
    intro h₃ tk₃ t' up₃
    exact hQ _ h₃ tk₃ (Ext.of fun b o q => up₃ b o (up b o q)) ⟨t', rfl⟩
  · exact fun e he h h' v k r => r
  intro vH h₂ h₃ tk₃ sq₂ sq₃ r F₃ B₃
  obtain ⟨D₁, ys₁, rfl, -, l₁, al₁⟩ := r
  rw [tr_filter] at al₁
  have heaps₃ : IL h₃ (.ref D₁) ((List.range 4).map (heapF ns)) := IL.sqx (h := h₂) ⟨D₁, ys₁, rfl, l₁, al₁⟩ sq₃
  clear al₁ l₁ sq₂ sq₃
  -- extra
  refine asgC F₃ B₃ (R := fun v _ => ∃ t, v = .int (extraF ns) t) ?_ ?_ rfl
  · intro Q E hQ
    obtain ⟨l1, items, t, e, ll, hit⟩ := il_at heaps₃ (p := 3) (by simp)
    refine wpAny_BinOp (Subscript_Constant (nmC rfl (F₃.cell (x := Str.ofString "heaps") rfl rfl) (wpAny_Constant_int ⟨"list", _, slot_list_getitem.lookup, ?_, ?_⟩)))
    · rw [e]; exact ll.isList.typeIs (s := { s with heap := h₃, toks := tk₃ + 1 })
    · rw [e]
      refine wpAny_getItem_list (s := { s with heap := h₃, toks := tk₃ + 1 }) (x := .int (heapF ns 3) t) ll.isList (by decide) (by decide) (by simpa using hit) ?_
      exact wpAny_Constant_int (mod_int (by decide) (hQ _ h₃ _ (Ext.refl _ _) ⟨_, rfl⟩))
  intro vX h₄ h₅ tk₅ sq₄ sq₅ r F₅ B₅
  obtain ⟨tx, rfl⟩ := r
  have heaps₅ := heaps₃.sqx (sq₄.trans sq₅)
  clear heaps₃ sq₄ sq₅
  -- trees
  refine asgLC (es := List.range 3) (ff := treesF ns) (p := fun _ => true) (P := fun h v e => EL h v e) F₅ B₅ (srcRange hh (fun Q E h => nmB B₅ (by k_is) boot_range (by decide) h)) ?_ ?_ ?_ (by decide) ?_
  · intro e he C h tk m'' h0 hn hB hx hs hC
    exact fun Q E hQ => wpAny_tests_nil (hQ true h tk (Ext.refl _ _) rfl)
  · intro p hp _ C D h tk m'' h0 hn hB hx hs hC hD hD0 hL
    obtain ⟨t, hm⟩ := hB
    have hp3 : p < 3 := List.mem_range.mp hp
    have F' := F₅.ext rfl hx
    have B' := B₅.ext hx
    intro Q E hQ
    obtain ⟨l1, items, t1, e, ll, hit⟩ := il_at (heaps₅.sqx hx.sqx) (p := p) (by simp; omega)
    rw [List.getD_eq_getElem?_getD, List.getElem?_map, List.getElem?_range (by omega)] at hit
    refine cDef (fa := 102) B' (by k_is) (by k_is) (spliced_more (wpAny_BinOp ?_))
    refine itemAt (nmC rfl (F'.cell (x := Str.ofString "heaps") rfl rfl) (nmL hn hm ⟨l1, items, p, t, _, e, rfl, ll, Int.natCast_nonneg _, by omega, by simpa using hit, ?_⟩))
    refine GW.run (tab3 (s := { s with heap := h, toks := tk }) hn hm hp3) ?_
    rintro v h₂ tk₂ x₂ ⟨t2, rfl⟩
    have F'' := F'.ext rfl x₂
    have B'' := B'.ext x₂
    refine add_int (spliced_more (nmC rfl (F''.cell (x := Str.ofString "extra") rfl rfl) (spliced_none ⟨B''.kin, ?_⟩)))
    refine GW.run (tree_spec (s := { s with heap := h₂, toks := tk₂ + 1 }) B'' (by show A₀.depth + 1 + 4 < _; omega) (by show A₀.units + 3 + 80 < _; omega)) ?_
    rintro v h₆ tk₆ x₆ ⟨r, fr⟩
    obtain ⟨a, items, rfl, r2⟩ := id r
    exact hQ _ h₆ tk₆ (x₂.trans x₆) (el_hide r (fr a rfl) (by obtain ⟨ys, hy⟩ := hL; exact ⟨ys, hy.ext x₂⟩) x₆)
  · exact fun e he h h' v k r => Ld.sqx r (good e).ok.small k
  intro D₂ ys₂ h₇ tk₇ sq₇ l₂ al₂ F₇ B₇
  rw [tr_filter] at al₂
  have trees₇ : VL h₇ (.ref D₂) [treesF ns 0, treesF ns 1, treesF ns 2] := ⟨D₂, ys₂, rfl, l₂, al₂⟩
  clear al₂ l₂ sq₇ heaps₅
  generalize treesF ns = T at *
  have okr := ring_ok good
  -- ring
  refine asgC F₇ B₇ (R := fun v h => VL h v (ringF T)) ?_ ?_ rfl
  · intro Q E hQ
    refine wpAny_BinOp (nmL F₇.ns rfl (headVL (fun Q E h => nmL F₇.ns rfl h) trees₇ (good 0).ok (by simp) fun a h' tk' up r => ?_))
    refine catVL (s := { s with heap := h', toks := tk' }) (trees₇.sqx (fun x hx => okr x (by simp only [ringF, List.mem_cons, List.not_mem_nil, or_false] at hx ⊢; rcases hx with rfl | rfl | rfl <;> simp)) fun b o _ q => up b o q) r (fun x hx => okr x (by simp only [ringF, List.mem_cons, List.not_mem_nil, or_false] at hx ⊢; rcases hx with rfl | rfl | rfl <;> simp)) (fun x hx => by rw [List.mem_singleton.mp hx]; exact (good 0).ok) (by simp) fun a2 h2 up2 r2 => ?_
    exact hQ _ h2 tk' (Ext.of fun b o q => up2 b o (up b o q)) r2
  intro vR h₈ h₉ tk₉ sq₈ sq₉ r F₉ B₉
  have ring₉ := r.sqx okr sq₉
  clear r sq₈ sq₉ trees₇
  -- forth
  have okf := forths_ok good
  refine asgC F₉ B₉ (R := fun v h => VL h v (forthsF T)) ?_ ?_ rfl
  · refine (lcE (es := List.range 3) (f := forthF (ringF T)) (p := fun _ => true) (P := fun h v e => EL h v e) (srcRange hh (fun Q E h => nmB B₉ (by k_is) boot_range (by decide) h)) ?_ ?_ ?_ (by decide)).mono ?_
    · intro e he C h tk m'' h0 hn hB hx hs hC
      exact fun Q E hQ => wpAny_tests_nil (hQ true h tk (Ext.refl _ _) rfl)
    · intro p hp _ C D h tk m'' h0 hn hB hx hs hC hD hD0 hL
      obtain ⟨t, hm⟩ := hB
      have hp3 : p < 3 := List.mem_range.mp hp
      have F' := F₉.ext rfl hx
      have B' := B₉.ext hx
      have ring' := ring₉.sqx okr hx.sqx
      have g1 := ring_good good (p := p)
      have g2 := ring_good good (p := p + 1)
      intro Q E hQ
      refine cDef (fa := 112) B' (by k_is) (by k_is) (spliced_more ?_)
      refine vlAt (p := p) (k := p) ring' rfl (by show p < 4; omega) (by show 4 < 100; decide) (fun Q E h => nmC rfl (F'.cell (x := Str.ofString "ring") rfl rfl) h) (fun Q E h => nmL hn hm (h _ _)) fun y1 tk1 r1 => ?_
      refine spliced_more ?_
      refine vlAt (s := { s with heap := h, toks := tk1 }) (p := p + 1) (k := (p : Int) + 1) ring' rfl (by show p + 1 < 4; omega) (by show 4 < 100; decide) (fun Q E h => nmC rfl (F'.cell (x := Str.ofString "ring") rfl rfl) h) (fun Q E h => wpAny_BinOp (nmL hn hm (wpAny_Constant_int (add_int (h _ _))))) fun y2 tk2 r2 => ?_
      refine spliced_none ⟨B'.kin, ?_⟩
      refine GW.run (layer_spec (s := { s with heap := h, toks := tk2 }) B' (by show A₀.depth + 1 + 4 < _; omega) (by show A₀.units + 3 + 80 < _; omega) r1 r2 g1.ok g2.ok (by have := g1.len; omega) (by have := g2.len; omega)) ?_
      rintro v h₆ tk₆ x₆ ⟨r, fr⟩
      obtain ⟨a, items, rfl, -⟩ := id r
      exact hQ _ h₆ tk₆ x₆ (el_hide r (fr a rfl) hL x₆)
    · exact fun e he h h' v k r => Ld.sqx r (lay_ok (ring_good good) (ring_good good)).1.small k
    · rintro v h' x ⟨D, ys, rfl, -, l, al⟩
      rw [tr_filter] at al
      exact ⟨D, ys, rfl, l, al⟩
  intro vF h₁₀ h₁₁ tk₁₁ sq₁₀ sq₁₁ r F₁₁ B₁₁
  have okf' : OkV (forthsF T) := fun x hx => (okf x hx).1
  have forth₁₁ := r.sqx okf' sq₁₁
  have ring₁₁ := ring₉.sqx okr (sq₁₀.trans sq₁₁)
  clear r sq₁₀ sq₁₁ ring₉
  -- back
  have okb := backs_ok good
  have okb' : OkV (backsF T) := fun x hx => (okb x hx).1
  refine asgLC (es := ([3, 2, 1] : List Int)) (ff := backF (ringF T)) (p := fun _ => true) (P := fun h v e => EL h v e) F₁₁ B₁₁ (srcTup3 hh) ?_ ?_ ?_ (by decide) ?_
  · intro e he C h tk m'' h0 hn hB hx hs hC
    exact fun Q E hQ => wpAny_tests_nil (hQ true h tk (Ext.refl _ _) rfl)
  · intro p hp _ C D h tk m'' h0 hn hB hx hs hC hD hD0 hL
    obtain ⟨t, hm⟩ := hB
    have hp3 : 1 ≤ p ∧ p ≤ 3 := by
      simp only [List.mem_cons, List.not_mem_nil, or_false] at hp
      omega
    have F' := F₁₁.ext rfl hx
    have B' := B₁₁.ext hx
    have ring' := ring₁₁.sqx okr hx.sqx
    have g1 := ring_good good (p := p.toNat)
    have g2 := ring_good good (p := (p - 1).toNat)
    intro Q E hQ
    refine cDef (fa := 112) B' (by k_is) (by k_is) (spliced_more ?_)
    refine vlAt (p := p.toNat) (k := p) ring' (by omega) (by show p.toNat < 4; omega) (by show 4 < 100; decide) (fun Q E h => nmC rfl (F'.cell (x := Str.ofString "ring") rfl rfl) h) (fun Q E h => nmL hn hm (h _ _)) fun y1 tk1 r1 => ?_
    refine spliced_more ?_
    refine vlAt (s := { s with heap := h, toks := tk1 }) (p := (p - 1).toNat) (k := p - 1) ring' (by omega) (by show (p - 1).toNat < 4; omega) (by show 4 < 100; decide) (fun Q E h => nmC rfl (F'.cell (x := Str.ofString "ring") rfl rfl) h) (fun Q E h => wpAny_BinOp (nmL hn hm (wpAny_Constant_int (sub_int (h _ _))))) fun y2 tk2 r2 => ?_
    refine spliced_none ⟨B'.kin, ?_⟩
    refine GW.run (layer_spec (s := { s with heap := h, toks := tk2 }) B' (by show A₀.depth + 1 + 4 < _; omega) (by show A₀.units + 3 + 80 < _; omega) r1 r2 g1.ok g2.ok (by have := g1.len; omega) (by have := g2.len; omega)) ?_
    rintro v h₆ tk₆ x₆ ⟨r, fr⟩
    obtain ⟨a, items, rfl, -⟩ := id r
    exact hQ _ h₆ tk₆ x₆ (el_hide r (fr a rfl) hL x₆)
  · exact fun e he h h' v k r => Ld.sqx r (lay_ok (ring_good good) (ring_good good)).1.small k
  intro D₃ ys₃ h₁₃ tk₁₃ sq₁₃ l₃ al₃ F₁₃ B₁₃
  rw [tr_filter] at al₃
  have back₁₃ : VL h₁₃ (.ref D₃) (backsF T) := ⟨D₃, ys₃, rfl, l₃, al₃⟩
  have ring₁₃ := ring₁₁.sqx okr sq₁₃
  have forth₁₃ := forth₁₁.sqx okf' sq₁₃
  clear al₃ l₃ sq₁₃ ring₁₁ forth₁₁
  -- least
  refine asgLC (es := List.range 3) (ff := leastsF (ringF T) (forthsF T)) (p := fun _ => true) (P := fun _ v b => v = Value.bool b) F₁₃ B₁₃ (srcRange hh (fun Q E h => nmB B₁₃ (by k_is) boot_range (by decide) h)) ?_ ?_ ?_ (by decide) ?_
  · intro e he C h tk m'' h0 hn hB hx hs hC
    exact fun Q E hQ => wpAny_tests_nil (hQ true h tk (Ext.refl _ _) rfl)
  · intro p hp _ C D h tk m'' h0 hn hB hx hs hC hD hD0 hL
    obtain ⟨t, hm⟩ := hB
    have hp3 : p < 3 := List.mem_range.mp hp
    have F' := F₁₃.ext rfl hx
    have B' := B₁₃.ext hx
    have ring' := ring₁₃.sqx okr hx.sqx
    have forth' := forth₁₃.sqx okf' hx.sqx
    have g1 := ring_good good (p := p)
    have g2 := ring_good good (p := p + 1)
    have g3 := okf _ (at4_mem (r := forthsF T) (p := p) (by show p < 3; omega))
    intro Q E hQ
    refine cDef (fa := 122) B' (by k_is) (by k_is) (spliced_more ?_)
    refine vlAt (p := p) (k := p) ring' rfl (by show p < 4; omega) (by show 4 < 100; decide) (fun Q E h => nmC rfl (F'.cell (x := Str.ofString "ring") rfl rfl) h) (fun Q E h => nmL hn hm (h _ _)) fun y1 tk1 r1 => ?_
    refine spliced_more ?_
    refine vlAt (s := { s with heap := h, toks := tk1 }) (p := p + 1) (k := (p : Int) + 1) ring' rfl (by show p + 1 < 4; omega) (by show 4 < 100; decide) (fun Q E h => nmC rfl (F'.cell (x := Str.ofString "ring") rfl rfl) h) (fun Q E h => wpAny_BinOp (nmL hn hm (wpAny_Constant_int (add_int (h _ _))))) fun y2 tk2 r2 => ?_
    refine spliced_more ?_
    refine vlAt (s := { s with heap := h, toks := tk2 }) (p := p) (k := p) forth' rfl (by show p < 3; omega) (by show 3 < 100; decide) (fun Q E h => nmC rfl (F'.cell (x := Str.ofString "forth") rfl rfl) h) (fun Q E h => nmL hn hm (h _ _)) fun y3 tk3 r3 => ?_
    refine spliced_none ⟨B'.kin, ?_⟩
    refine GW.run (least_spec (s := { s with heap := h, toks := tk3 }) B' (by show A₀.depth + 1 + 6 < _; omega) (by show A₀.units + 3 + 120 < _; omega) r1 r2 r3 g1.ok g2.ok g3.1 (by have := g1.len; omega) (by have := g2.len; omega) (by have := g3.2; omega) g1.nd g2.nd) ?_
    rintro v h₆ tk₆ x₆ r
    exact hQ _ h₆ tk₆ x₆ r
  · exact fun e he h h' v k r => r
  intro D₄ ys₄ h₁₅ tk₁₅ sq₁₅ l₄ al₄ F₁₅ B₁₅
  rw [tr_filter] at al₄
  have least₁₅ : Ld h₁₅ (.ref D₄) (((List.range 3).map (leastsF (ringF T) (forthsF T))).map PyData.bool) := ⟨D₄, ys₄, rfl, l₄, al_to_map (al₄.mono fun v b q => by subst q; exact ⟨_, .bool _⟩)⟩
  have smb : ∀ bs : List Bool, ∀ d ∈ bs.map PyData.bool, Small d := fun bs d hd => by
    obtain ⟨b, -, rfl⟩ := List.mem_map.mp hd
    exact ⟨rfl, rfl, by simp [PyData.depth]⟩
  have ring₁₅ := ring₁₃.sqx okr sq₁₅
  have forth₁₅ := forth₁₃.sqx okf' sq₁₅
  have back₁₅ := back₁₃.sqx okb' sq₁₅
  clear al₄ l₄ sq₁₅ ring₁₃ forth₁₃ back₁₃
  have rf := (room0 (good 0)).run okf' (fun x hx => (okf x hx).2)
  have rb := (room0 (good 0)).run okb' (fun x hx => (okb x hx).2)
  rw [show (forthsF T).length = 3 from rfl] at rf
  rw [show (backsF T).length = 3 from rfl] at rb
  have el6 : ∀ {vs : List (List (Str × Int))}, OkV vs → ∀ e ∈ vs, ∀ (h h' : Heap) (v : Value), Sqx h h' → EL h v e → EL h' v e := fun ok e he h h' v k r => Ld.sqx r (ok e he).small k
  have el7 : ∀ {vs : List (List (Str × Int))}, OkV vs → ∀ e ∈ vs, ∀ (h h' : Heap) (v : Value), Sqx h h' → EL h v (sortF e) → EL h' v (sortF e) := fun ok e he h h' v k r => Ld.sqx r (okSort (ok e he)).small k
  -- stops
  refine asgLC (es := runF [T 0] (forthsF T)) (ff := sortF) (p := fun _ => true) (P := fun h v e => EL h v e) F₁₅ B₁₅ (srcN (P0 := fun h v e => EL h v e) hh ?_ (el6 rf.ok)) ?_ ?_ (el7 rf.ok) (by have := rf.len; omega) ?_
  · intro Q E hQ
    refine cDef (fa := 95) B₁₅ (by k_is) (by k_is) (spliced_more (nmG B₁₅ (by k_is) (spliced_more (nmC rfl (F₁₅.cell (x := Str.ofString "forth") rfl rfl) (spliced_more (headVL (fun Q E h => nmC rfl (F₁₅.cell (x := Str.ofString "ring") rfl rfl) h) ring₁₅ (good 0).ok (by simp) fun a h' tk' up r => spliced_none ⟨(B₁₅.ext (B₁₅.like up)).kin, ?_⟩))))))
    refine GW.run (reduce_spec (n := 0) (s := { s with heap := h', toks := tk' }) (B₁₅.ext (B₁₅.like up)) (by show A₀.depth + 1 + 8 < _; omega) (by show A₀.units + 3 + 120 < _; omega) r (forth₁₅.sqx okf' fun b o _ q => up b o q) (room0 (good 0)) okf' (fun x hx => (okf x hx).2) (by show 3 ≤ 4; decide)) fun v h2 tk2 x2 r2 => ?_
    exact hQ _ h2 tk2 ((B₁₅.like up).trans x2) r2
  · intro e he C h tk m'' h0 hn hB hx hs hC
    exact fun Q E hQ => wpAny_tests_nil (hQ true h tk (Ext.refl _ _) rfl)
  · intro e he _ C D h tk m'' h0 hn hB hx hs hC hD hD0 hL
    obtain ⟨v, hm, r⟩ := hB
    have B' := B₁₅.ext hx
    intro Q E hQ
    refine wpAny_Call_ofName (nmB B' (by k_is) boot_sorted (by decide) (callWith_builtin1 (spliced_more (nmL hn hm (spliced_none ?_)))))
    exact sorted_es (s := { s with heap := h, toks := tk }) (el6 rf.ok e he _ _ _ hs r) (rf.ok e he) (by have := rf.each e he; omega) fun a h' tk' up fr r => hQ _ h' tk' (Ext.of up) (el_hide r fr hL (B'.like up))
  intro D₅ ys₅ h₁₇ tk₁₇ sq₁₇ l₅ al₅ F₁₇ B₁₇
  rw [tr_filter] at al₅
  have stops₁₇ : VL h₁₇ (.ref D₅) ((runF [T 0] (forthsF T)).map sortF) := ⟨D₅, ys₅, rfl, l₅, al₅⟩
  have ring₁₇ := ring₁₅.sqx okr sq₁₇
  have back₁₇ := back₁₅.sqx okb' sq₁₇
  have least₁₇ := least₁₅.sqx (smb _) sq₁₇
  clear al₅ l₅ sq₁₇ ring₁₅ back₁₅ least₁₅ forth₁₅
  -- home
  refine asgLC (es := runF [T 0] (backsF T)) (ff := sortF) (p := fun _ => true) (P := fun h v e => EL h v e) F₁₇ B₁₇ (srcN (P0 := fun h v e => EL h v e) hh ?_ (el6 rb.ok)) ?_ ?_ (el7 rb.ok) (by have := rb.len; omega) ?_
  · intro Q E hQ
    refine cDef (fa := 95) B₁₇ (by k_is) (by k_is) (spliced_more (nmG B₁₇ (by k_is) (spliced_more (nmL F₁₇.ns rfl (spliced_more (headVL (fun Q E h => nmC rfl (F₁₇.cell (x := Str.ofString "ring") rfl rfl) h) ring₁₇ (good 0).ok (by simp) fun a h' tk' up r => spliced_none ⟨(B₁₇.ext (B₁₇.like up)).kin, ?_⟩))))))
    refine GW.run (reduce_spec (n := 0) (s := { s with heap := h', toks := tk' }) (B₁₇.ext (B₁₇.like up)) (by show A₀.depth + 1 + 8 < _; omega) (by show A₀.units + 3 + 120 < _; omega) r (back₁₇.sqx okb' fun b o _ q => up b o q) (room0 (good 0)) okb' (fun x hx => (okb x hx).2) (by show 3 ≤ 4; decide)) fun v h2 tk2 x2 r2 => ?_
    exact hQ _ h2 tk2 ((B₁₇.like up).trans x2) r2
  · intro e he C h tk m'' h0 hn hB hx hs hC
    exact fun Q E hQ => wpAny_tests_nil (hQ true h tk (Ext.refl _ _) rfl)
  · intro e he _ C D h tk m'' h0 hn hB hx hs hC hD hD0 hL
    obtain ⟨v, hm, r⟩ := hB
    have B' := B₁₇.ext hx
    intro Q E hQ
    refine wpAny_Call_ofName (nmB B' (by k_is) boot_sorted (by decide) (callWith_builtin1 (spliced_more (nmL hn hm (spliced_none ?_)))))
    exact sorted_es (s := { s with heap := h, toks := tk }) (el6 rb.ok e he _ _ _ hs r) (rb.ok e he) (by have := rb.each e he; omega) fun a h' tk' up fr r => hQ _ h' tk' (Ext.of up) (el_hide r fr hL (B'.like up))
  intro D₆ ys₆ h₁₉ tk₁₉ sq₁₉ l₆ al₆ F₁₉ B₁₉
  rw [tr_filter] at al₆
  have home₁₉ : VL h₁₉ (.ref D₆) ((runF [T 0] (backsF T)).map sortF) := ⟨D₆, ys₆, rfl, l₆, al₆⟩
  have ring₁₉ := ring₁₇.sqx okr sq₁₉
  have stops₁₉ := stops₁₇.sqx (sorts_ok rf.ok) sq₁₉
  have least₁₉ := least₁₇.sqx (smb _) sq₁₉
  clear al₆ l₆ sq₁₉ ring₁₇ back₁₇ least₁₇ stops₁₇
  -- goals
  refine asgLC (es := ringF T) (ff := sortF) (p := fun _ => true) (P := fun h v e => EL h v e) F₁₉ B₁₉ (srcN (P0 := fun h v e => EL h v e) hh (gw_of (v := vR) (fun Q E h => nmC rfl (F₁₉.cell (x := Str.ofString "ring") rfl rfl) h) ring₁₉) (el6 okr)) ?_ ?_ (el7 okr) (by show 4 ≤ _; omega) ?_
  · intro e he C h tk m'' h0 hn hB hx hs hC
    exact fun Q E hQ => wpAny_tests_nil (hQ true h tk (Ext.refl _ _) rfl)
  · intro e he _ C D h tk m'' h0 hn hB hx hs hC hD hD0 hL
    obtain ⟨v, hm, r⟩ := hB
    have B' := B₁₉.ext hx
    have le6 : e.length ≤ 6 := by
      simp only [ringF, List.mem_cons, List.not_mem_nil, or_false] at he
      rcases he with rfl | rfl | rfl | rfl
      · exact (good 0).len
      · exact (good 1).len
      · exact (good 2).len
      · exact (good 0).len
    intro Q E hQ
    refine wpAny_Call_ofName (nmB B' (by k_is) boot_sorted (by decide) (callWith_builtin1 (spliced_more (nmL hn hm (spliced_none ?_)))))
    exact sorted_es (s := { s with heap := h, toks := tk }) (el6 okr e he _ _ _ hs r) (okr e he) (by omega) fun a h' tk' up fr r => hQ _ h' tk' (Ext.of up) (el_hide r fr hL (B'.like up))
  intro D₇ ys₇ h₂₁ tk₂₁ sq₂₁ l₇ al₇ F₂₁ B₂₁
  rw [tr_filter] at al₇
  have goals₂₁ : VL h₂₁ (.ref D₇) ((ringF T).map sortF) := ⟨D₇, ys₇, rfl, l₇, al₇⟩
  have stops₂₁ := stops₁₉.sqx (sorts_ok rf.ok) sq₂₁
  have home₂₁ := home₁₉.sqx (sorts_ok rb.ok) sq₂₁
  have least₂₁ := least₁₉.sqx (smb _) sq₂₁
  clear sq₂₁ ring₁₉ least₁₉ stops₁₉ home₁₉
  -- the answer
  refine ex_return (R := fun v _ => v = .bool (lawT T)) ?_ fun v h₂ tk₂ x₂ r => by subst r; exact hQ h₂ tk₂ (F₂₁.ext rfl x₂).keep
  intro Q E hQ
  refine BoolOp_and (wpAny_Compare1 (nmL F₂₁.ns rfl (wpAny_List (spliced_more (wpAny_Constant_bool (spliced_more (wpAny_Constant_bool (spliced_more (wpAny_Constant_bool (spliced_none ⟨by show 3 ≤ _; omega, ?_⟩))))))))))
  have up₂₂ : ∀ b o, h₂₁.get? b = some o → (h₂₁.push { cls := .type "list", data := .seq #[.bool true, .bool true, .bool true] }).get? b = some o := fun b o q => Heap.get?_push_of_some _ q
  have hX : (h₂₁.push { cls := .type "list", data := .seq #[.bool true, .bool true, .bool true] }).get? h₂₁.objs.size = some (W.listOf #[.bool true, .bool true, .bool true] 0) := Heap.get?_push_size _ rfl
  refine eqBL (s := { s with heap := h₂₁.push { cls := .type "list", data := .seq #[.bool true, .bool true, .bool true] }, toks := tk₂₁ }) (ws := [true, true, true]) (least₂₁.sqx (smb _) fun b o _ q => up₂₂ b o q) ⟨_, [.bool true, .bool true, .bool true], rfl, ⟨0, hX⟩, .cons ⟨_, .bool _⟩ (.cons ⟨_, .bool _⟩ (.cons ⟨_, .bool _⟩ .nil))⟩ (by show A₀.units + 3 + 64 < _; omega) (wpAny_truthy_bool ?_)
  have F₂₂ := F₂₁.ext rfl (B₂₁.like up₂₂)
  have x₂₂ := B₂₁.like up₂₂
  have goals₂₂ := goals₂₁.sqx (sorts_ok okr) fun b o _ q => up₂₂ b o q
  have stops₂₂ := stops₂₁.sqx (sorts_ok rf.ok) fun b o _ q => up₂₂ b o q
  have home₂₂ := home₂₁.sqx (sorts_ok rb.ok) fun b o _ q => up₂₂ b o q
  clear hX goals₂₁ stops₂₁ home₂₁ least₂₁
  generalize h₂₁.push { cls := .type "list", data := .seq #[.bool true, .bool true, .bool true] } = h₂₂ at *
  cases c1 : decide ((List.range 3).map (leastsF (ringF T) (forthsF T)) = [true, true, true]) with
  | false =>
    simp only [Bool.false_eq_true, if_false]
    exact hQ _ h₂₂ tk₂₁ x₂₂ (by simp only [lawT, c1, Bool.false_and])
  | true =>
    simp only [if_true]
    refine BoolOp_and (wpAny_Compare1 (nmL F₂₂.ns rfl (nmL F₂₂.ns rfl (eqVL (s := { s with heap := h₂₂, toks := tk₂₁ }) stops₂₂ goals₂₂ (sorts_ok rf.ok) (sorts_ok okr) (by show A₀.units + 3 + 64 < _; omega) (wpAny_truthy_bool ?_)))))
    cases c2 : decide ((runF [T 0] (forthsF T)).map sortF = (ringF T).map sortF) with
    | false =>
      simp only [Bool.false_eq_true, if_false]
      exact hQ _ h₂₂ tk₂₁ x₂₂ (by simp only [lawT, c1, c2, Bool.false_and, Bool.true_and])
    | true =>
      simp only [if_true]
      obtain ⟨l1, items, e1, ll, al⟩ := id goals₂₂
      refine BoolOp_one (wpAny_Compare1 (nmL F₂₂.ns rfl (Subscript_ (nmL F₂₂.ns rfl (wpAny_Slice (evalPart_none_step (evalPart_none_step (evalPart_some_step (wpAny_UnaryOp (wpAny_Constant_int (neg_int ?_)))))))))))
      cases e1
      refine sliceTail (s := { s with heap := h₂₂, toks := tk₂₁ + 1 + 1 }) ll.isList .none .none (.int _ _) (by decide) (by have := al.length; simp [ringF] at this; omega) ?_
      intro a h₂₃ up₂₃ ha hsl
      simp only [ringF, List.map_cons, List.map_nil] at al
      have rev : VL h₂₃ (.ref a) ((ringF T).map sortF).reverse := by
        cases al with
        | cons r0 al => cases al with
          | cons r1 al => cases al with
            | cons r2 al => cases al with
              | cons r3 al => cases al with
                | nil =>
                  have sq : Sqx h₂₂ h₂₃ := fun b o _ q => up₂₃ b o q
                  refine ⟨a, _, rfl, ⟨0, hsl.trans (by rw [show -(1 : Int) = -1 from rfl, slice_rev4])⟩, ?_⟩
                  exact .cons (r3.sqx (okSort (good 0).ok).small sq) (.cons (r2.sqx (okSort (good 2).ok).small sq) (.cons (r1.sqx (okSort (good 1).ok).small sq) (.cons (r0.sqx (okSort (good 0).ok).small sq) .nil)))
      refine eqVL (s := { s with heap := h₂₃, toks := tk₂₁ + 1 + 1 }) (home₂₂.sqx (sorts_ok rb.ok) fun b o _ q => up₂₃ b o q) rev (sorts_ok rb.ok) (fun x hx => sorts_ok okr x (by simpa using hx)) (by show A₀.units + 3 + 64 < _; omega) ?_
      exact hQ _ h₂₃ _ (x₂₂.trans (x₂₂.like up₂₃)) (by simp only [lawT, c1, c2, Bool.true_and])
end Mine
end

-- part P1
section
open PySem PySem.W PyProof.Rows
set_option maxRecDepth 100000
namespace Mine

/-! figures of a mode -/
theorem bitXor_bounds {x y : Int} (hx : 0 ≤ x) (hy : 0 ≤ y) (hx2 : x < 4096) (hy2 : y < 4096) : 0 ≤ Builtin.bitXor x y ∧ Builtin.bitXor x y < 4096 := by
  have h1 : Builtin.bitXor x y = Builtin.bitOr x y - Builtin.bitAnd x y := rfl
  have h2 := bitOr_and x y
  have h3 := bitAnd_pp hx hy
  have h4 : x.toNat &&& y.toNat ≤ x.toNat := Nat.and_le_left
  have h5 : x.toNat &&& y.toNat ≤ y.toNat := Nat.and_le_right
  have h6 : Builtin.bitOr x y = ((x.toNat ||| y.toNat : Nat) : Int) := by
    have e : Builtin.bitOr x y = Builtin.bitNot (Builtin.bitAnd (Builtin.bitNot x) (Builtin.bitNot y)) := rfl
    have n1 : ∀ z, Builtin.bitNot z = -z - 1 := fun z => by show _ = _; first | rfl | (simp [Builtin.bitNot]; omega)
    rw [e, bitAnd_nn (by rw [n1]; omega) (by rw [n1]; omega)]
    simp only [n1]
    have a1 : - (-x - 1) - 1 = x := by omega
    have a2 : - (-y - 1) - 1 = y := by omega
    rw [a1, a2]; omega
  have h7 : x.toNat ||| y.toNat < 2 ^ 12 := Nat.or_lt_two_pow (by omega) (by omega)
  omega
theorem and_mode (k low : Nat) (hk : k < 16) (hl : low < 4096) : (4096 * k + low) &&& 61440 = 4096 * k ∧ (4096 * k + low) &&& 4095 = low := by
  constructor
  · have h1 : ((4096 * k + low) &&& 61440) / 2 ^ 12 = k := by
      rw [Nat.and_div_two_pow]
      have a1 : (4096 * k + low) / 2 ^ 12 = k := by omega
      rw [a1, show 61440 / 2 ^ 12 = 2 ^ 4 - 1 from by decide, Nat.and_two_pow_sub_one_eq_mod]; omega
    have h2 : ((4096 * k + low) &&& 61440) % 2 ^ 12 = 0 := by
      rw [Nat.and_mod_two_pow, show 61440 % 2 ^ 12 = 0 from by decide, Nat.and_zero]
    omega
  · rw [show 4095 = 2 ^ 12 - 1 from by decide, Nat.and_two_pow_sub_one_eq_mod]; omega
structure ModeOk (k : Int) (m : Int) : Prop where
  fmt : Builtin.bitAnd m 61440 = 4096 * k
  imode : Builtin.bitAnd m 4095 ≠ 0
  div : m.fdiv 4096 = k
theorem modeOk {k low : Int} (hk : 0 ≤ k) (hk2 : k < 16) (hl : 1 ≤ low) (hl2 : low < 4096) : ModeOk k (4096 * k + low) := by
  obtain ⟨a, b⟩ := and_mode k.toNat low.toNat (by omega) (by omega)
  have e : (4096 * k + low).toNat = 4096 * k.toNat + low.toNat := by omega
  refine ⟨?_, ?_, ?_⟩
  · rw [bitAnd_pp (by omega) (by decide), e, show (61440 : Int).toNat = 61440 from rfl, a]; omega
  · rw [bitAnd_pp (by omega) (by decide), e, show (4095 : Int).toNat = 4095 from rfl, b]; omega
  · rw [Int.fdiv_eq_ediv_of_nonneg _ (by decide)]; omega
/-- what the law asks of a tree's mode -/
structure Md (m : Int) : Prop where
  nm : isChrI m = true → Builtin.bitAnd m 4095 ≠ 0
  dir : isDirI m = (m.fdiv 4096 == 4)
theorem modeF_ok {extra fig : Int} (h0 : 0 ≤ extra) (h1 : extra < 4096) (hf : 0 < fig) (hf8 : fig < 8) : ∃ k, ModeOk k (modeF extra fig) ∧ k = kindsL.getD fig.toNat 0 := by
  refine ⟨_, ?_, rfl⟩
  have hr : ∀ n : Nat, n < 8 → 0 ≤ rightsL.getD n 0 ∧ rightsL.getD n 0 < 4096 ∧ 0 ≤ kindsL.getD n 0 ∧ kindsL.getD n 0 < 16 := by decide
  obtain ⟨r1, r2, r3, r4⟩ := hr fig.toNat (by omega)
  obtain ⟨x1, x2⟩ := bitXor_bounds r1 h0 r2 h1
  unfold modeF
  refine modeOk r3 r4 ?_ ?_
  · split <;> omega
  · split <;> omega
theorem ModeOk.md {k m : Int} (h : ModeOk k m) : Md m := by
  refine ⟨fun _ => h.imode, ?_⟩
  unfold isDirI
  rw [h.fmt, h.div]
  by_cases q : k = 4
  · subst q; decide
  · have a : (4096 * k == 16384) = false := by rw [beq_eq_false_iff_ne]; omega
    have b : (k == 4) = false := by rw [beq_eq_false_iff_ne]; exact q
    rw [a, b]
theorem modeF_dir {extra fig : Int} (h0 : 0 ≤ extra) (h1 : extra < 4096) (hf : 0 < fig) (hf8 : fig < 8) (h : (fig == 2 || fig == 3) = true) : isDirI (modeF extra fig) = true := by
  obtain ⟨k, ok, e⟩ := modeF_ok h0 h1 hf hf8
  rw [ok.md.dir, ok.div, e]
  rw [Bool.or_eq_true, beq_iff_eq, beq_iff_eq] at h
  rcases h with rfl | rfl <;> decide
end Mine
end

-- part P2
section
open PySem PySem.W PyProof.Rows
set_option maxRecDepth 100000
namespace Mine
/-- a path of one name, or of two -/
def one (x : Str) : Prop := x.length = 1 ∧ cut2 x = Str.ofString "" ∧ head1 x = x
structure Two (x : Str) : Prop where
  len : x.length ≠ 1
  cut : cut2 x = head1 x
  hd : head1 x ∈ paths6
  hd1 : one (head1 x)
  item : Txt.item x 0 = head1 x
def oneB (x : Str) : Bool := decide (x.length = 1) && decide (cut2 x = Str.ofString "") && decide (head1 x = x)
theorem oneB_one {x : Str} (h : oneB x = true) : one x := by
  unfold oneB at h
  simp only [Bool.and_eq_true, decide_eq_true_eq] at h
  exact ⟨h.1.1, h.1.2, h.2⟩
theorem split6 : (paths6.all fun x => oneB x || (decide (x.length ≠ 1) && decide (cut2 x = head1 x) && decide (head1 x ∈ paths6) && oneB (head1 x) && decide (Txt.item x 0 = head1 x))) = true := by decide +kernel
theorem oneTwo {x : Str} (h : x ∈ paths6) : one x ∨ Two x := by
  have := List.all_eq_true.mp split6 x h
  simp only [Bool.or_eq_true, Bool.and_eq_true, decide_eq_true_eq] at this
  rcases this with h | ⟨⟨⟨⟨a, b⟩, c⟩, d⟩, e⟩
  · exact .inl (oneB_one h)
  · exact .inr ⟨a, b, c, oneB_one d, e⟩
theorem empty6 : Str.ofString "" ∉ paths6 := by decide +kernel
theorem nodup6 : paths6.Nodup := by decide +kernel
theorem hasP_iff {ps : List Str} {x : Str} : hasP ps x = true ↔ x ∈ ps := by
  unfold hasP
  rw [List.any_eq_true]
  constructor
  · rintro ⟨y, hy, e⟩
    rw [beq_iff_eq] at e
    exact e ▸ hy
  · exact fun h => ⟨x, h, by simp⟩
theorem hasE_iff {es : List (Str × Int)} {e : Str × Int} : hasE es e = true ↔ e ∈ es := by
  unfold hasE
  rw [List.any_eq_true]
  constructor
  · rintro ⟨y, hy, q⟩
    rw [Bool.and_eq_true, beq_iff_eq, beq_iff_eq] at q
    have : y = e := Prod.ext q.1 q.2
    exact this ▸ hy
  · exact fun h => ⟨e, h, by simp⟩

/-- a tree: paths in order, each below a folder -/
structure Tree (t : List (Str × Int)) : Prop where
  keys : (t.map (·.1)).Sublist paths6
  par : ∀ e ∈ t, Two e.1 → ∃ m, (head1 e.1, m) ∈ t ∧ isDirI m = true
  md : ∀ e ∈ t, Md e.2
structure TInv (don : List Str) (st : Int × List (Str × Int) × List Str) : Prop where
  keys : (st.2.1.map (·.1)).Sublist don
  par : ∀ e ∈ st.2.1, Two e.1 → ∃ m, (head1 e.1, m) ∈ st.2.1 ∧ isDirI m = true
  md : ∀ e ∈ st.2.1, Md e.2
  fo : ∀ x ∈ st.2.2, x = Str.ofString "" ∨ ∃ m, (x, m) ∈ st.2.1 ∧ isDirI m = true
theorem step_inv {extra : Int} (h0 : 0 ≤ extra) (h1 : extra < 4096) {don : List Str} {st : Int × List (Str × Int) × List Str} {p : Str} (hp : p ∈ paths6) (I : TInv don st) : TInv (don ++ [p]) (stepF extra st p) := by
  obtain ⟨r, tr, fo⟩ := st
  obtain ⟨a, b, c, d⟩ := I
  dsimp only at a b c d
  unfold stepF
  dsimp only
  have f0 : 0 ≤ r.fmod 8 := Int.fmod_nonneg_of_pos _ (by decide)
  have f8 : r.fmod 8 < 8 := Int.fmod_lt_of_pos _ (by decide)
  generalize r.fmod 8 = fig at *
  have up : ∀ {x m}, (x, m) ∈ tr → (x, m) ∈ tr ++ [(p, modeF extra fig)] := fun h => List.mem_append_left _ h
  split
  · rename_i hc
    rw [Bool.and_eq_true, decide_eq_true_eq, hasP_iff] at hc
    obtain ⟨hf, hm⟩ := hc
    obtain ⟨k, ok, -⟩ := modeF_ok h0 h1 hf f8
    refine ⟨?_, ?_, ?_, ?_⟩
    · rw [List.map_append]; exact a.append (List.Sublist.refl _)
    · intro e he t2
      rcases List.mem_append.mp he with he | he
      · obtain ⟨m, q, z⟩ := b e he t2; exact ⟨m, up q, z⟩
      · rw [List.mem_singleton.mp he] at t2 ⊢
        dsimp only at t2 ⊢
        rw [t2.cut] at hm
        rcases d _ hm with q | ⟨m, q, z⟩
        · exact absurd (q ▸ t2.hd) empty6
        · exact ⟨m, up q, z⟩
    · intro e he
      rcases List.mem_append.mp he with he | he
      · exact c e he
      · rw [List.mem_singleton.mp he]; exact ok.md
    · dsimp only
      intro x hx
      have old : x ∈ fo → x = Str.ofString "" ∨ ∃ m, (x, m) ∈ tr ++ [(p, modeF extra fig)] ∧ isDirI m = true := fun hx => by
        rcases d x hx with q | ⟨m, q, z⟩
        · exact .inl q
        · exact .inr ⟨m, up q, z⟩
      split at hx
      · rename_i h2
        rcases List.mem_append.mp hx with hx | hx
        · exact old hx
        · rw [List.mem_singleton.mp hx]
          exact .inr ⟨_, List.mem_append_right _ (.head _), modeF_dir h0 h1 hf f8 h2⟩
      · exact old hx
  · exact ⟨a.trans (List.sublist_append_left _ _), b, c, d⟩
theorem fold_inv {extra : Int} (h0 : 0 ≤ extra) (h1 : extra < 4096) : ∀ (l : List Str) (don : List Str) (st : Int × List (Str × Int) × List Str), (∀ p ∈ l, p ∈ paths6) → TInv don st → TInv (don ++ l) (l.foldl (stepF extra) st)
  | [], don, st, _, I => by rw [List.append_nil]; exact I
  | p :: l, don, st, h, I => by
    have := fold_inv h0 h1 l (don ++ [p]) (stepF extra st p) (fun q hq => h q (.tail _ hq)) (step_inv h0 h1 (h p (.head _)) I)
    rw [List.append_assoc] at this
    exact this
theorem treeF_tree {number extra : Int} (h0 : 0 ≤ extra) (h1 : extra < 4096) : Tree (treeF number extra) := by
  have I := fold_inv h0 h1 paths6 [] (number.fmod 262144, [], [Str.ofString ""]) (fun _ h => h) ⟨List.Sublist.refl _, fun _ h => (by cases h), fun _ h => (by cases h), fun x hx => .inl (List.mem_singleton.mp hx)⟩
  exact ⟨I.keys, I.par, I.md⟩
theorem Tree.good {t : List (Str × Int)} (h : Tree t) : GoodT t := by
  refine ⟨fun e he => h.keys.subset (List.mem_map.mpr ⟨e, he, rfl⟩), nodup6.sublist h.keys, ?_⟩
  have := h.keys.length_le
  rw [List.length_map] at this
  exact this
theorem trees_tree (ns : List Int) (p : Nat) : Tree (treesF ns p) := treeF_tree (Int.fmod_nonneg_of_pos _ (by decide)) (Int.fmod_lt_of_pos _ (by decide))
theorem good_trees (ns : List Int) (p : Nat) : GoodT (treesF ns p) := (trees_tree ns p).good
end Mine
end

-- part P3
section
open PySem PySem.W PyProof.Rows
set_option maxRecDepth 100000
namespace Mine
/-- a path that a tree has -/
def Has (t : List (Str × Int)) (x : Str) : Prop := ∃ m, (x, m) ∈ t
theorem mem_keys {t : List (Str × Int)} {x : Str} : x ∈ t.map (·.1) ↔ Has t x := by
  rw [List.mem_map]
  exact ⟨fun ⟨e, he, q⟩ => ⟨e.2, by rw [← q]; exact he⟩, fun ⟨m, h⟩ => ⟨_, h, rfl⟩⟩
theorem uniq {t : List (Str × Int)} (h : (t.map (·.1)).Nodup) {x : Str} {m n : Int} (a : (x, m) ∈ t) (b : (x, n) ∈ t) : m = n := by
  induction t with
  | nil => cases a
  | cons e t ih =>
    rw [List.map_cons, List.nodup_cons] at h
    rcases List.mem_cons.mp a with a | a <;> rcases List.mem_cons.mp b with b | b
    · rw [← b] at a; exact (Prod.mk.inj a).2
    · exact absurd (List.mem_map.mpr ⟨_, b, by rw [← a]⟩) h.1
    · exact absurd (List.mem_map.mpr ⟨_, a, by rw [← b]⟩) h.1
    · exact ih h.2 a b
theorem dget_some {t : List (Str × Int)} (h : (t.map (·.1)).Nodup) {x : Str} {m : Int} : dget t x = some m ↔ (x, m) ∈ t := by
  unfold dget
  constructor
  · intro q
    obtain ⟨e, he, rfl⟩ := Option.map_eq_some_iff.mp q
    have h1 := List.mem_of_find?_eq_some he
    have h2 := List.find?_some he
    rw [decide_eq_true_eq] at h2
    rw [← h2]; exact h1
  · intro q
    cases z : t.find? (fun e => e.1 = x) with
    | none =>
      have := List.find?_eq_none.mp z _ q
      simp at this
    | some e =>
      have h1 := List.mem_of_find?_eq_some z
      have h2 := List.find?_some z
      rw [decide_eq_true_eq] at h2
      have h3 : (x, e.2) ∈ t := by rw [← h2]; exact h1
      rw [Option.map_some, uniq h h3 q]
theorem dget_isSome {t : List (Str × Int)} (h : (t.map (·.1)).Nodup) {x : Str} : (dget t x).isSome = true ↔ Has t x := by
  rw [Option.isSome_iff_exists]
  exact ⟨fun ⟨m, q⟩ => ⟨m, (dget_some h).mp q⟩, fun ⟨m, q⟩ => ⟨m, (dget_some h).mpr q⟩⟩
theorem dget_none {t : List (Str × Int)} (h : (t.map (·.1)).Nodup) {x : Str} (n : ¬ Has t x) : dget t x = none := by
  cases q : dget t x with
  | none => rfl
  | some m => exact absurd ⟨m, (dget_some h).mp q⟩ n

theorem mem_lost {old new : List (Str × Int)} {x : Str} : x ∈ lostF old new ↔ Has old x ∧ ¬ Has new x := by
  unfold lostF
  rw [List.mem_filter, mem_keys, Bool.not_eq_true', ← Bool.not_eq_true, hasP_iff, mem_keys]
theorem mem_nondir {t : List (Str × Int)} {x : Str} : x ∈ (t.filter fun e => !isDirI e.2).map (·.1) ↔ ∃ m, (x, m) ∈ t ∧ isDirI m = false := by
  rw [mem_keys]
  unfold Has
  constructor
  · rintro ⟨m, h⟩
    obtain ⟨a, b⟩ := List.mem_filter.mp h
    exact ⟨m, a, by simpa using b⟩
  · rintro ⟨m, a, b⟩
    exact ⟨m, List.mem_filter.mpr ⟨a, by simpa using b⟩⟩
theorem mem_blocks {old new : List (Str × Int)} {x : Str} : x ∈ blocksF old new ↔ (Has old x ∧ ¬ Has new x) ∨ ∃ m, (x, m) ∈ new ∧ isDirI m = false := by
  unfold blocksF
  rw [List.mem_append, mem_lost, mem_nondir]
theorem mem_layer {old new : List (Str × Int)} {e : Str × Int} : e ∈ layerF old new ↔ (e ∈ new ∧ e ∉ old) ∨ (e.2 = 8192 ∧ Has old e.1 ∧ ¬ Has new e.1 ∧ cut2 e.1 ∉ blocksF old new) := by
  unfold layerF
  rw [List.mem_append, List.mem_filter, Bool.not_eq_true', ← Bool.not_eq_true, hasE_iff]
  refine or_congr Iff.rfl ?_
  rw [List.mem_map]
  constructor
  · rintro ⟨x, hx, rfl⟩
    obtain ⟨a, b⟩ := List.mem_filter.mp hx
    rw [Bool.not_eq_true', ← Bool.not_eq_true, hasP_iff] at b
    obtain ⟨c, d⟩ := mem_lost.mp a
    exact ⟨rfl, c, d, b⟩
  · rintro ⟨q, c, d, b⟩
    refine ⟨e.1, List.mem_filter.mpr ⟨mem_lost.mpr ⟨c, d⟩, ?_⟩, by rw [← q]⟩
    rw [Bool.not_eq_true', ← Bool.not_eq_true, hasP_iff]; exact b
theorem mark_is (x : Str) : isMark (x, 8192) = true := by
  show (isChrI 8192 && Builtin.bitAnd 8192 4095 == 0) = true
  decide
theorem mark_dir : isDirI 8192 = false := by decide
theorem Tree.unmarked {t : List (Str × Int)} (h : Tree t) {e : Str × Int} (he : e ∈ t) : isMark e = false := by
  unfold isMark
  cases q : isChrI e.2 with
  | false => rfl
  | true =>
    rw [Bool.true_and, beq_eq_false_iff_ne]
    exact (h.md e he).nm q
theorem Tree.in6 {t : List (Str × Int)} (h : Tree t) {x : Str} (hx : Has t x) : x ∈ paths6 := by
  obtain ⟨m, hm⟩ := hx
  exact h.good.ok _ hm
theorem blocks6 {old new : List (Str × Int)} (ho : Tree old) (hn : Tree new) {x : Str} (h : x ∈ blocksF old new) : x ∈ paths6 := by
  rcases mem_blocks.mp h with h | ⟨m, h, -⟩
  · exact ho.in6 h.1
  · exact hn.in6 ⟨m, h⟩
theorem one_free {old new : List (Str × Int)} (ho : Tree old) (hn : Tree new) {x : Str} (h : one x) : cut2 x ∉ blocksF old new := fun q => by
  rw [h.2.1] at q
  exact empty6 (blocks6 ho hn q)
theorem bool_ext {a b : Bool} (h : a = true ↔ b = true) : a = b := by cases a <;> cases b <;> simp_all

/-- what is told is what the layer says -/
theorem layer_told {old new : List (Str × Int)} (ho : Tree old) (hn : Tree new) : layerF old new = toldF old new := by
  unfold layerF toldF
  congr 1
  · unfold chgF
    apply List.filter_congr
    intro e he
    apply bool_ext
    rw [Bool.not_eq_true', ← Bool.not_eq_true, hasE_iff, bne_iff_ne, ne_eq, dget_some ho.good.nd]
  · unfold goneL lostF
    rw [List.filter_filter]
    congr 1
    apply List.filter_congr
    intro x hx
    have hox := mem_keys.mp hx
    apply bool_ext
    unfold toldP
    rw [Bool.and_eq_true, Bool.and_eq_true, Bool.not_eq_true', Bool.not_eq_true', Bool.not_eq_true', ← Bool.not_eq_true, ← Bool.not_eq_true, ← Bool.not_eq_true, hasP_iff, hasP_iff, mem_keys, dget_isSome hn.good.nd, and_comm]
    refine and_congr_right fun hnx => ?_
    rcases oneTwo (ho.in6 hox) with h1 | h2
    · have a := one_free ho hn h1
      have b : ((x.length : Int) == 1) = true := by rw [h1.1]; rfl
      simp [a, b]
    · have b : ((x.length : Int) == 1) = false := by rw [beq_eq_false_iff_ne]; have := h2.len; omega
      rw [b, Bool.false_or, h2.cut, h2.item, mem_blocks]
      obtain ⟨m0, hm0⟩ := hox
      obtain ⟨mp, hmp, hd⟩ := ho.par _ hm0 h2
      by_cases hp : Has new (head1 x)
      · obtain ⟨m, hm⟩ := hp
        rw [(dget_some hn.good.nd).mpr hm, Option.getD_some, ← (hn.md _ hm).dir]
        constructor
        · intro h
          cases q : isDirI m with
          | true => rfl
          | false => exact absurd (.inr ⟨m, hm, q⟩) h
        · rintro h (⟨-, q⟩ | ⟨m', hm', q⟩)
          · exact q ⟨m, hm⟩
          · rw [uniq hn.good.nd hm' hm, h] at q; cases q
      · rw [dget_none hn.good.nd hp, Option.getD_none]
        constructor
        · intro h; exact absurd (.inl ⟨⟨mp, hmp⟩, hp⟩) h
        · intro h; exact absurd h (by decide)

theorem laid_simp (view layer : List (Str × Int)) : laidF view layer = (layer.filter fun e => !isMark e) ++ (view.filter fun e => !goneF layer e) := by
  unfold laidF
  congr 1
  · apply List.filter_congr
    intro e he
    congr 1
    apply bool_ext
    rw [hasE_iff, List.mem_filter]
    exact ⟨fun h => h.2, fun h => ⟨he, h⟩⟩
  · apply List.filter_congr
    intro e he
    congr 1
    apply bool_ext
    rw [hasE_iff, List.mem_filter]
    exact ⟨fun h => h.2, fun h => ⟨he, h⟩⟩
theorem gone_iff {layer : List (Str × Int)} {e : Str × Int} : goneF layer e = true ↔ Has layer e.1 ∨ ∃ m, (head1 e.1, m) ∈ layer ∧ isDirI m = false := by
  unfold goneF
  rw [Bool.or_eq_true, hasP_iff, hasP_iff, mem_keys, mem_nondir]
theorem laid_view {view view' layer : List (Str × Int)} (h : view.Perm view') : (laidF view layer).Perm (laidF view' layer) := by
  rw [laid_simp, laid_simp]
  exact List.Perm.append_left _ (h.filter _)

/-- what goes out of the old tree is what the new one lacks -/
theorem gone_old {old new : List (Str × Int)} (ho : Tree old) (hn : Tree new) {e : Str × Int} (he : e ∈ old) : goneF (layerF old new) e = true ↔ e ∉ new := by
  rw [gone_iff]
  constructor
  · rintro (⟨m, h⟩ | ⟨m, h, hd⟩) hen
    · rcases mem_layer.mp h with ⟨a, b⟩ | ⟨-, -, c, -⟩
      · have : m = e.2 := uniq hn.good.nd a hen
        subst this; exact b he
      · exact c ⟨_, hen⟩
    · rcases oneTwo (ho.in6 ⟨_, he⟩) with h1 | h2
      · rw [h1.2.2] at h
        rcases mem_layer.mp h with ⟨a, b⟩ | ⟨-, -, c, -⟩
        · have : m = e.2 := uniq hn.good.nd a hen
          subst this; exact b he
        · exact c ⟨_, hen⟩
      · obtain ⟨mp, hmp, hpd⟩ := hn.par _ hen h2
        rcases mem_layer.mp h with ⟨a, b⟩ | ⟨-, -, c, -⟩
        · rw [uniq hn.good.nd a hmp, hpd] at hd; cases hd
        · exact c ⟨_, hmp⟩
  · intro hen
    by_cases hk : Has new e.1
    · obtain ⟨m, hm⟩ := hk
      left
      refine ⟨m, mem_layer.mpr (.inl ⟨hm, fun q => hen ?_⟩)⟩
      have : m = e.2 := uniq ho.good.nd q he
      subst this; exact hm
    · by_cases hb : cut2 e.1 ∈ blocksF old new
      · right
        rcases oneTwo (ho.in6 ⟨_, he⟩) with h1 | h2
        · exact absurd hb (one_free ho hn h1)
        · obtain ⟨mp, hmp, hpd⟩ := ho.par _ he h2
          rw [h2.cut] at hb
          rcases mem_blocks.mp hb with ⟨a, b⟩ | ⟨m, a, b⟩
          · exact ⟨8192, mem_layer.mpr (.inr ⟨rfl, a, b, one_free ho hn h2.hd1⟩), mark_dir⟩
          · refine ⟨m, mem_layer.mpr (.inl ⟨a, fun q => ?_⟩), b⟩
            rw [uniq ho.good.nd q hmp, hpd] at b; cases b
      · left
        exact ⟨8192, mem_layer.mpr (.inr ⟨rfl, ⟨_, he⟩, hk, hb⟩)⟩

theorem nodup_of_keys {t : List (Str × Int)} (h : (t.map (·.1)).Nodup) : t.Nodup := by
  induction t with
  | nil => exact List.nodup_nil
  | cons e t ih =>
    rw [List.map_cons, List.nodup_cons] at h
    exact List.nodup_cons.mpr ⟨fun q => h.1 (List.mem_map.mpr ⟨_, q, rfl⟩), ih h.2⟩
/-- the layer laid over the old tree gives the new one -/
theorem laid_perm {old new : List (Str × Int)} (ho : Tree old) (hn : Tree new) : (laidF old (layerF old new)).Perm new := by
  have nodup_l : (laidF old (layerF old new)).Nodup := by
    rw [laid_simp, List.nodup_append]
    refine ⟨?_, (nodup_of_keys ho.good.nd).filter _, ?_⟩
    · unfold layerF
      rw [List.filter_append, List.nodup_append]
      refine ⟨((nodup_of_keys hn.good.nd).filter _).filter _, ?_, ?_⟩
      · rw [List.filter_eq_nil_iff.mpr]
        · exact List.nodup_nil
        · intro e he
          obtain ⟨x, -, rfl⟩ := List.mem_map.mp he
          rw [mark_is]; decide
      · intro a ha b hb
        obtain ⟨x, -, rfl⟩ := List.mem_map.mp (List.mem_filter.mp hb).1
        have := (List.mem_filter.mp hb).2
        rw [mark_is] at this
        exact absurd this (by decide)
    · rintro a ha b hb rfl
      obtain ⟨a1, a2⟩ := List.mem_filter.mp ha
      obtain ⟨b1, b2⟩ := List.mem_filter.mp hb
      rcases mem_layer.mp a1 with ⟨-, c⟩ | ⟨c, -⟩
      · exact c b1
      · rw [ho.unmarked b1] at a2
        have : isMark a = true := by
          have := mark_is a.1
          rw [← c] at this; exact this
        rw [ho.unmarked b1] at this; cases this
  refine (List.perm_ext_iff_of_nodup nodup_l (nodup_of_keys hn.good.nd)).mpr fun e => ?_
  rw [laid_simp, List.mem_append, List.mem_filter, List.mem_filter, mem_layer]
  constructor
  · rintro (⟨⟨a, -⟩ | ⟨c, -⟩, b⟩ | ⟨a, b⟩)
    · exact a
    · have := mark_is e.1
      rw [← c] at this
      rw [show isMark e = true from this] at b
      exact absurd b (by decide)
    · by_cases q : e ∈ new
      · exact q
      · rw [(gone_old ho hn a).mpr q] at b
        exact absurd b (by decide)
  · intro h
    by_cases q : e ∈ old
    · right
      refine ⟨q, ?_⟩
      cases z : goneF (layerF old new) e with
      | false => rfl
      | true => exact absurd h ((gone_old ho hn q).mp z)
    · left
      exact ⟨.inl ⟨h, q⟩, by rw [hn.unmarked h]; rfl⟩

/-- without any one of its entries it does not -/
theorem laid_less {old new : List (Str × Int)} (ho : Tree old) (hn : Tree new) {item : Str × Int} (hi : item ∈ layerF old new) : ¬ (laidF old ((layerF old new).filter fun e => !hasE [item] e)).Perm new := by
  have mem' : ∀ e, e ∈ ((layerF old new).filter fun e => !hasE [item] e) ↔ e ∈ layerF old new ∧ e ≠ item := fun e => by
    rw [List.mem_filter, Bool.not_eq_true', ← Bool.not_eq_true, hasE_iff, List.mem_singleton]
  intro h
  generalize ((layerF old new).filter fun e => !hasE [item] e) = layer' at mem' h
  rcases mem_layer.mp hi with ⟨a, b⟩ | ⟨c, c1, c2, c3⟩
  · have := h.mem_iff.mpr a
    rw [laid_simp, List.mem_append, List.mem_filter, List.mem_filter, mem'] at this
    rcases this with ⟨⟨-, q⟩, -⟩ | ⟨q, -⟩
    · exact q rfl
    · exact b q
  · obtain ⟨m, hm⟩ := c1
    have key : (item.1, m) ∈ laidF old layer' := by
      rw [laid_simp, List.mem_append, List.mem_filter, List.mem_filter]
      refine .inr ⟨hm, ?_⟩
      rw [Bool.not_eq_true', ← Bool.not_eq_true, gone_iff]
      have own : ∀ k, (item.1, k) ∈ layerF old new → (item.1, k) = item := fun k hk => by
        rcases mem_layer.mp hk with ⟨a, -⟩ | ⟨q, -⟩
        · exact absurd ⟨_, a⟩ c2
        · exact Prod.ext rfl (q.trans c.symm)
      rintro (⟨k, hk⟩ | ⟨k, hk, hd⟩)
      · obtain ⟨x, y⟩ := (mem' _).mp hk
        exact y (own _ x)
      · obtain ⟨x, y⟩ := (mem' _).mp hk
        rcases oneTwo (ho.in6 ⟨_, hm⟩) with h1 | h2
        · dsimp only at x y
          rw [h1.2.2] at x y
          exact y (own _ x)
        · dsimp only at x
          rw [h2.cut] at c3
          refine c3 (mem_blocks.mpr ?_)
          rcases mem_layer.mp x with ⟨a, -⟩ | ⟨-, a, b, -⟩
          · exact .inr ⟨_, a, hd⟩
          · exact .inl ⟨a, b⟩
    exact c2 ⟨_, h.mem_iff.mp key⟩

theorem least_true {old new : List (Str × Int)} (ho : Tree old) (hn : Tree new) : leastF old new (layerF old new) = true := by
  unfold leastF
  rw [Bool.and_eq_true, Bool.and_eq_true, decide_eq_true_eq, decide_eq_true_eq, decide_eq_true_eq]
  refine ⟨layer_told ho hn, sortF_iff.mpr (laid_perm ho hn), ?_⟩
  rw [List.filter_eq_nil_iff]
  intro item hi
  unfold lessT
  rw [decide_eq_true_eq, sortF_iff]
  exact laid_less ho hn hi

theorem laid_to {old new v : List (Str × Int)} (ho : Tree old) (hn : Tree new) (h : v.Perm old) : (laidF v (layerF old new)).Perm new := (laid_view h).trans (laid_perm ho hn)
theorem run3 {a b c d : List (Str × Int)} (ha : Tree a) (hb : Tree b) (hc : Tree c) (hd : Tree d) :
    (runF [a] [layerF a b, layerF b c, layerF c d]).map sortF = [sortF a, sortF b, sortF c, sortF d] := by
  have e1 := laid_perm ha hb
  have e2 := laid_to hb hc e1
  have e3 := laid_to hc hd e2
  show [sortF a, sortF (laidF a (layerF a b)), sortF (laidF (laidF a (layerF a b)) (layerF b c)), sortF (laidF (laidF (laidF a (layerF a b)) (layerF b c)) (layerF c d))] = _
  rw [sortF_iff.mpr e1, sortF_iff.mpr e2, sortF_iff.mpr e3]
theorem lawT_true {T : Nat → List (Str × Int)} (h : ∀ p, Tree (T p)) : lawT T = true := by
  unfold lawT
  rw [Bool.and_eq_true, Bool.and_eq_true, decide_eq_true_eq, decide_eq_true_eq, decide_eq_true_eq]
  refine ⟨?_, ?_, ?_⟩
  · show [leastF (T 0) (T 1) (layerF (T 0) (T 1)), leastF (T 1) (T 2) (layerF (T 1) (T 2)), leastF (T 2) (T 0) (layerF (T 2) (T 0))] = _
    rw [least_true (h 0) (h 1), least_true (h 1) (h 2), least_true (h 2) (h 0)]
  · exact run3 (h 0) (h 1) (h 2) (h 0)
  · exact run3 (h 0) (h 2) (h 1) (h 0)
theorem plain_law (ns : List Int) : lawT (treesF ns) = true := lawT_true (trees_tree ns)
end Mine
end

-- part T4
section
open PySem PySem.W PyProof.Rows PySem.Calls PySem.Spec
set_option maxRecDepth 100000
set_option maxHeartbeats 8000000
namespace Mine
theorem five_apart {a b c d e : Str} (z : Nat) : ([(a, z + 1 + 1 + 1 + 1 + 1), (b, z + 1 + 1 + 1 + 1), (c, z + 1 + 1 + 1), (d, z + 1 + 1), (e, z + 1)] : List (Str × Addr)).Pairwise fun x y => x.2 ≠ y.2 := by
  simp only [List.pairwise_cons, List.mem_cons, List.not_mem_nil, or_false]
  refine ⟨?_, ?_, ?_, ?_, ?_, List.Pairwise.nil⟩
  · rintro x (rfl | rfl | rfl | rfl) <;> exact Nat.ne_of_gt (by dsimp only; exact Nat.lt_of_lt_of_le (Nat.lt_succ_self _) (by simp))
  · rintro x (rfl | rfl | rfl) <;> exact Nat.ne_of_gt (by dsimp only; exact Nat.lt_of_lt_of_le (Nat.lt_succ_self _) (by simp))
  · rintro x (rfl | rfl) <;> exact Nat.ne_of_gt (by dsimp only; exact Nat.lt_of_lt_of_le (Nat.lt_succ_self _) (by simp))
  · rintro x rfl; exact Nat.ne_of_gt (Nat.lt_succ_self _)
  · rintro x ⟨⟩
theorem five_above {a b c d e : Str} (z : Nat) : ∀ (n : Str) (x : Addr), (n, x) ∈ ([(a, z + 1 + 1 + 1 + 1 + 1), (b, z + 1 + 1 + 1 + 1), (c, z + 1 + 1 + 1), (d, z + 1 + 1), (e, z + 1)] : List (Str × Addr)) → z < x := by
  intro n x h
  simp only [List.mem_cons, Prod.mk.injEq, List.not_mem_nil, or_false] at h
  rcases h with ⟨-, rfl⟩ | ⟨-, rfl⟩ | ⟨-, rfl⟩ | ⟨-, rfl⟩ | ⟨-, rfl⟩ <;> omega
theorem law_post (args ds : List WData) : PySem.Challenge.rw_il0044_01.row.claim.post args (.bool true) ds = true := by
  kernel_rfl
theorem law_end {prog : Program} {w : World} {mean : ExcName → Option Value} {mg mb : Str → Option Value} {s₁ : Shared} {f : Addr} {cd : Value} {h₁ : Heap} {tk₁ : Nat} {scope : Scope} {body : List Stmt} {m cm : Str → Option Value} {cells : List (Addr × Obj)} {l : Addr} {vs : List Value} {ns : List Int} {Q : Flow → Shared → Prop} {E : Value → Shared → Prop} {od : Option Addr} {oc : Value} {osl : Array (Option Value)} {name qual : Str} {params : Arguments} {dV kV doc pm cdv ct : Value} {an : Option Addr}
    (KX : KIn w s₁.heap) (T : Top PG LG mean mg mb s₁.heap) (F : Fr s₁.heap s₁.heap.objs.size h₁ m) (N : News s₁.heap s₁.heap.objs.size h₁ cells) (X : CellsAre cm (cellsFrom (s₁.heap.objs.size + 1) scope.names []) cells)
    (hl : s₁.heap.IsList l vs.toArray) (hi : IntsAre vs ns) (hns : ¬ ((63 : Nat) : Int) < (ns.length : Int)) (hk : scope.kind = .function) (hcm : cm (Str.ofString "script") = some (.ref l))
    (hap : (cellsFrom (s₁.heap.objs.size + 1) scope.names []).Pairwise fun x y => x.2 ≠ y.2) (hab : ∀ n c, (n, c) ∈ cellsFrom (s₁.heap.objs.size + 1) scope.names [] → s₁.heap.objs.size < c) (ho : (hd.heap_39 w.params).lookup 134 = some ⟨oc, od, .func (fnOf name qual params body scope dV kV doc pm an cdv ct), osl⟩)
    (hQ : ∀ h' tk', (∀ b o, s₁.heap.get? b = some o → h'.get? b = some o) → Q (.ret (.bool true)) { s₁ with heap := h', toks := tk' }) :
    wpAny (model prog w) (callerA.deeper (envOfC (Str.ofString "law") scope s₁.heap.objs.size f cd)) (execs body (envOfC (Str.ofString "law") scope s₁.heap.objs.size f cd)) Q E { s₁ with heap := h₁, toks := tk₁ } := by
  have hfr : frs callerA = [] := rfl
  refine law_walks ho prog w mean mg mb s₁.heap callerA s₁.heap s₁.heap.objs.size f cd m cm { s₁ with heap := h₁, toks := tk₁ } l vs ns Q E
    ⟨F.ns, Ext.of F.keep, Nat.le_refl _, fun b hb => Heap.get?_none_of_le hb, Cl.of_news (own := []) N X hap hab⟩
    ⟨F.keep, KX, T, rfl, _, _, rfl, fun e he => ?_⟩ (by decide) (by decide) hcm hl hi (by omega) (good_trees ns) fun h' tk' x => ?_
  · rw [List.mem_singleton.mp he]
    exact ⟨hk, _, _, rfl, Heap.get?_none_of_le (Nat.le_refl _), F.ns⟩
  · rw [plain_law]
    exact hQ h' tk' fun b o e => x.off e (by rw [hfr]; exact List.not_mem_nil)
end Mine

end

open PySem PySem.W PyProof.Rows
set_option maxRecDepth 100000 in
set_option maxHeartbeats 8000000 in
theorem PySem.Challenge.cw_il0044_01_holds : PySem.Challenge.rw_il0044_01.Holds := by
  refine Mine.hd ?_
  k_go0
  refine Mine.law_end (by assumption) (by assumption) (by assumption) (by assumption) (by assumption) (by assumption) (by assumption) (by assumption) rfl rfl ?_ ?_ (by k_is) ?_
  · exact Mine.five_apart _
  · exact Mine.five_above _
  · intro h' tk' hk
    exact ⟨.inl ⟨_, _, _, rfl, fun _ => rfl, .bool true, Mine.law_post _ _, unshared_nil⟩, hk, rfl, by assumption⟩
