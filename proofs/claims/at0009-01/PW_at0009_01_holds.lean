import PyProof.Rows.All
import Wide.All
import OpenK.AllK
import Wide.FinOn
import PyProof.Rows.FactsExc_KeyError
import PyProof.ExcArgs
import PySem.Challenge.RW_at0009_01
set_option Elab.async false
section
open PySem PySem.W PyProof.Rows
set_option Elab.async false
set_option maxRecDepth 100000
namespace At
noncomputable def vw : Program := view PySem.Challenge.rw_at0009_01.row.toRowW.prog [1, 2, 4, 9, 10, 11, 12, 13, 14, 15, 16, 17, 18]
theorem said_a : sreFenced PySem.Challenge.rw_at0009_01.row.prog.main = true := by kernel_rfl
theorem said_b : ((moduleNames PySem.Challenge.rw_at0009_01.row.prog.main.body).isEmpty || lookedIntoSs (moduleNames PySem.Challenge.rw_at0009_01.row.prog.main.body) PySem.Challenge.rw_at0009_01.row.prog.main.body) = true := by kernel_rfl
theorem said_c : namesResolve PySem.Challenge.rw_at0009_01.row.prog = true := by kernel_rfl
theorem said_d : PySem.Challenge.rw_at0009_01.row.prog.boundNames.all (fun n => !worldNames.contains n) = true := by kernel_rfl
theorem said_e : noRoadLSs { strict := !(importedModules PySem.Challenge.rw_at0009_01.row.prog.main.body).all cThrough.contains, foot := none, bare := (["vars", "dir", "locals"] : List Str).filter (readsOut PySem.Challenge.rw_at0009_01.row.prog PySem.Challenge.rw_at0009_01.row.prog.main.body) } PySem.Challenge.rw_at0009_01.row.prog.main.body = true := by kernel_rfl
theorem said_f : (namesMeet PySem.Challenge.rw_at0009_01.row.prog PySem.Challenge.rw_at0009_01.row.prog.main.body fun _ n => attrL n) = true := by kernel_rfl
theorem said_g : looksOpen PySem.Challenge.rw_at0009_01.row.prog = true :=
  look_both (look_both (look_both (look_both (look_both said_a said_b) said_c) said_d) said_e) said_f
theorem said_h : PySem.Challenge.rw_at0009_01.row.partSaid = true := by
  unfold OpenRow.partSaid
  repeat' (first | with_reducible exact said_g | with_reducible apply look_both)
  all_goals kernel_rfl
theorem said_i : PySem.Challenge.rw_at0009_01.row.wellSaid = true :=
  look_both (look_both said_h (by kernel_rfl)) (by kernel_rfl)
theorem said_j : noRoadLSs { strict := true, foot := some PySem.Challenge.rw_at0009_01.bound', writes := PySem.Challenge.rw_at0009_01.writes, may := PySem.Challenge.rw_at0009_01.may } PySem.Challenge.rw_at0009_01.footing = true := by kernel_rfl
theorem said_k : PySem.Challenge.rw_at0009_01.bound'.all (fun n => !builtinNamed n || PySem.Challenge.rw_at0009_01.about == [n] || !PySem.Challenge.rw_at0009_01.reads n) = true := by kernel_rfl
theorem said_l : namesMeet PySem.Challenge.rw_at0009_01.prog PySem.Challenge.rw_at0009_01.above (fun _ n => !PySem.Challenge.rw_at0009_01.own.contains n) = true := by kernel_rfl
theorem said : PySem.Challenge.rw_at0009_01.wellSaid = true := by
  unfold OpenLaw.wellSaid
  repeat' (first | with_reducible exact said_i | with_reducible exact said_j | with_reducible exact said_k | with_reducible exact said_l | with_reducible apply look_both)
  all_goals kernel_rfl
/-- the top's run over a tree of objects, by the library's quick twins -/
noncomputable def runF (p : Program) (w : World) (n₀ : Nat) (ann : Option Value) : Nat → SharedT → Thread → Option SharedT
  | 0, _, _ => none
  | n + 1, s, t => match through t with
    | true => some s
    | false => match PySem.W.Fast.tw6613529449190102663 n₀ ann t with
      | false => none
      | true => match PySem.W.Fast.tw10156331382660048174 (PySem.W.Fast.tw11892475500146522536 PySem.W.Fast.tw14364793385576792824) p w s t with
        | some (s', t') => runF p w n₀ ann n s' t'
        | none => none
theorem runF_spec {p : Program} {w : World} {n₀ : Nat} {ann : Option Value} : ∀ {n : Nat} {s s' : SharedT} {t : Thread}, runF p w n₀ ann n s t = some s' → topRun treeTable p w n₀ ann n s.abs t = some s'.abs
  | 0, _, _, _, h => by cases h
  | n + 1, s, s', t, h => by
    unfold runF at h
    rw [← PySem.W.Fast.te6613529449190102663, ← PySem.W.Fast.te10156331382660048174, ← PySem.W.Fast.te11892475500146522536, ← PySem.W.Fast.te14364793385576792824] at h
    unfold topRun
    cases ht : through t with
    | true => rw [ht] at h; cases h; rfl
    | false =>
      rw [ht] at h
      cases hk : stepOk n₀ ann t with
      | false => rw [hk] at h; cases h
      | true =>
        rw [hk] at h
        cases hs : stepT (denote treeTable) p w s t with
        | none => rw [hs] at h; cases h
        | some r => obtain ⟨s₂, t₂⟩ := r; rw [hs] at h; rw [stepT_spec hs]; exact runF_spec h
noncomputable def treeOf (l : List Obj) : BT := (l.foldl (fun (x : BT × Nat) o => (x.1.ins x.2 o, x.2 + 1)) (.nil, 0)).1
noncomputable def bootT (w : World) (os : OsState) : SharedT := ⟨treeOf (boot_heap w.params).objs.toList, (boot_heap w.params).objs.size, (boot_heap w.params).life, #[], boot_drawn, boot_toks, os⟩
noncomputable def ran (p : Program) (w : World) (N : Nat) (os : OsState) : Option SharedT := runF p w (boot_heap w.params).objs.size ((boot_heap w.params).nsMap mainGlobals "__annotations__") N (bootT w os) (topStub p)
theorem left_of {p q : Program} {loose : List Str} {Xt : Shared → Bool} {α : Type} {Yf : Shared → α} {Ya : World → α} {N : Nat} {g0 : Bool}
    (boot : ∀ w : World, (fencedOpening treeTable p w N).map (fun s => (s.heap, s.gens, s.drawn, s.toks)) = some (boot_heap w.params, Array.mk [], boot_drawn, boot_toks))
    (size : ∀ w : World, ((boot_heap w.params).isNs mainGlobals) = true)
    (abs : ∀ (w : World) (os : OsState), (bootT w os).abs = ⟨boot_heap w.params, #[], boot_drawn, boot_toks, os⟩)
    (k1 : ∀ (w : World) (os : OsState), (ran p w N os).map (fun s => staticsOk (importedModules p.main.body) (boot_heap w.params) s.abs.heap && namesBound p s.abs.heap && gensDone s.abs && laidKept (boot_heap w.params) s.abs.heap) = some true)
    (k2 : ∀ (w : World) (os : OsState), (ran p w N os).map (fun s => PySem.W.Fast.tw4187177175401517315 q loose (importedModules p.main.body) Xt g0 s.abs) = some (openGood q loose))
    (k3 : ∀ (w : World) (os : OsState), (ran p w N os).map (fun s => Yf s.abs) = some (Ya w)) : LeftO p q loose Xt Yf Ya N g0 := fun w => by
  obtain ⟨⟨h, gs, d, k, os⟩, e, e'⟩ := Option.map_eq_some_iff.mp (boot w)
  obtain ⟨rfl, rfl, rfl, rfl⟩ : h = boot_heap w.params ∧ gs = #[] ∧ d = boot_drawn ∧ k = boot_toks := by simpa using e'
  obtain ⟨s, hs, l1⟩ := Option.map_eq_some_iff.mp (k1 w os)
  obtain ⟨s2, hs2, l2⟩ := Option.map_eq_some_iff.mp (k2 w os)
  obtain ⟨s3, hs3, l3⟩ := Option.map_eq_some_iff.mp (k3 w os)
  obtain rfl : s = s2 := Option.some.inj (hs.symm.trans hs2)
  obtain rfl : s = s3 := Option.some.inj (hs.symm.trans hs3)
  have r := runF_spec hs
  rw [abs w os] at r
  rw [← PySem.W.Fast.te4187177175401517315] at l2
  have t : topFrom treeTable p w N ⟨boot_heap w.params, #[], boot_drawn, boot_toks, os⟩ = some s.abs := by
    unfold topFrom
    dsimp only
    rw [size w]
    show (topRun treeTable p w _ _ N _ _).bind _ = _
    rw [r]
    show (match staticsOk (importedModules p.main.body) (boot_heap w.params) s.abs.heap && namesBound p s.abs.heap && gensDone s.abs && laidKept (boot_heap w.params) s.abs.heap with | true => _ | false => _) = _
    rw [l1]
  unfold openEnds
  rw [e]
  show (topFrom treeTable p w N _).map _ = _
  rw [t]
  exact congrArg some (Prod.ext l2 l3)
theorem boot_abs (w : World) (os : OsState) : (bootT w os).abs = ⟨boot_heap w.params, #[], boot_drawn, boot_toks, os⟩ := by kernel_rfl
theorem boot_ns (w : World) : ((boot_heap w.params).isNs mainGlobals) = true := by kernel_rfl
theorem boot_at : ∀ w : World, (fencedOpening treeTable PySem.Challenge.rw_at0009_01.row.toRowW.prog w 3322).map (fun s => (s.heap, s.gens, s.drawn, s.toks)) = some (boot_heap w.params, Array.mk [], boot_drawn, boot_toks) :=
  boot_open (by kernel_rfl) (by decide) (fun s => by kernel_rfl)
theorem ran_1 (w : World) (os : OsState) : (ran PySem.Challenge.rw_at0009_01.row.toRowW.prog w 3322 os).map (fun s => staticsOk (importedModules PySem.Challenge.rw_at0009_01.row.toRowW.prog.main.body) (boot_heap w.params) s.abs.heap && namesBound PySem.Challenge.rw_at0009_01.row.toRowW.prog s.abs.heap && gensDone s.abs && laidKept (boot_heap w.params) s.abs.heap) = some true := by kernel_rfl
theorem ran_2 (w : World) (os : OsState) : (ran PySem.Challenge.rw_at0009_01.row.toRowW.prog w 3322 os).map (fun s => PySem.W.Fast.tw4187177175401517315 At.vw [Str.ofString "escape", Str.ofString "unescape", Str.ofString "quoteattr"] (importedModules PySem.Challenge.rw_at0009_01.row.toRowW.prog.main.body) (fun s => xlAt At.vw [] s && recOk (RowW.records (PySem.Challenge.rw_at0009_01.row.toRowW)) s) true s.abs) = some (openGood At.vw [Str.ofString "escape", Str.ofString "unescape", Str.ofString "quoteattr"]) := by kernel_rfl
end At
local macro_rules | `(tactic| o_law) => `(tactic| refine holds_law At.said fun said => ?_)
local macro_rules | `(tactic| o_head $H) => `(tactic| (
  refine holds_open (q := At.vw) (loose := [Str.ofString "escape", Str.ofString "unescape", Str.ofString "quoteattr"]) (Xt := fun s => xlAt At.vw [] s && recOk (RowW.records (PySem.Challenge.rw_at0009_01.row.toRowW)) s) (XP := XL At.vw []) (Yf := Hook.obs $H) (Ya := Hook.val $H) (YP := Hook.says $H) (N := 3322) ?l (Hook.of $H) (Hook.keeps $H) (fun s e => xl_of s (Bool.and_eq_true_iff.mp e).1) XL.keeps (by rfl) (by rfl) (by rfl) (fun s e => recFacts_of (Bool.and_eq_true_iff.mp e).2) (by rfl) (by first | assumption | decide +kernel) (by decide +kernel) ⟨rfl, rfl, rfl, rfl, rfl, by decide +kernel⟩ ?$(Lean.mkIdent `hw) ?$(Lean.mkIdent `hc)
  case l =>
    refine At.left_of At.boot_at At.boot_ns At.boot_abs At.ran_1 At.ran_2 ?_
    intro w os
    kernel_rfl))
set_option maxRecDepth 100000 in
set_option maxHeartbeats 8000000 in
open_top At.hd for PySem.Challenge.rw_at0009_01
end
section
open PySem PySem.W PySem.Calls PyProof.Rows
set_option Elab.async false
set_option maxRecDepth 100000
namespace At

theorem in_weaken {Γ : Ctx} {A A₁ : Around} (h : Γ.In A) (hh : A₁.handled = A.handled) (hd : A.depth ≤ A₁.depth) (hu : A.units ≤ A₁.units) (hf : A₁.frames = none) (hg : A₁.guards = none) : Γ.In A₁ :=
  ⟨by rw [hh]; exact h.1, Nat.le_trans h.2.1 hd, fun l e => by (rw [hf] at e; cases e), fun l e => by (rw [hg] at e; cases e), Nat.le_trans h.2.2.2.2 hu⟩

theorem weaken {α : Type} {M : Model} {A A₁ : Around} {t : Sem α} {Q : α → Shared → Prop} {E : Value → Shared → Prop} {s : Shared}
    (hh : A₁.handled = A.handled) (hd : A.depth ≤ A₁.depth) (hu : A.units ≤ A₁.units) (hf : A₁.frames = none) (hg : A₁.guards = none)
    (h : wpAny M A₁ t Q E s) : wpAny M A t Q E s := fun Γ p hΓ => h Γ p (in_weaken hΓ hh hd hu hf hg)

/-- a call's surroundings: at most so deep -/
abbrev Lv (n : Nat) : Around := { handled := none, depth := 310 + n, frames := none, guards := none, units := 10 + 100 * n }
abbrev noE : Value → Shared → Prop := fun _ _ => False

/-- what a tree does: the heap grows, what stood stands; P tells its value and the new heap -/
def Does (M : Model) (A : Around) {α : Type} (t : Sem α) (s : Shared) (P : α → Heap → Prop) : Prop :=
  ∀ E, wpAny M A t (fun v s' => ∃ h' tk', s' = { s with heap := h', toks := tk' } ∧ s.toks ≤ tk' ∧ s.heap.StaysIn h' ∧ P v h') E s

theorem does_intro {M : Model} {A : Around} {α : Type} {t : Sem α} {s : Shared} {P : α → Heap → Prop}
    (h : ∀ Q : α → Shared → Prop, (∀ v h' tk', s.heap.StaysIn h' → P v h' → Q v { s with heap := h', toks := tk' }) → wpAny M A t Q noE s) : Does M A t s P := fun E =>
  wpAny_mono (wpAny_toks_of (n := s.toks) (Nat.le_refl _) (h (fun v s' => ∃ h' tk', s' = { s with heap := h', toks := tk' } ∧ s.heap.StaysIn h' ∧ P v h') fun v h' tk' hk hP => ⟨h', tk', rfl, hk, hP⟩))
    (fun v s' ⟨ht, h', tk', e, hk, hP⟩ => ⟨h', tk', e, by subst e; exact ht, hk, hP⟩) fun _ _ x => x.2.elim

theorem does_use {M : Model} {A A₁ : Around} {α : Type} {t : Sem α} {s : Shared} {P : α → Heap → Prop} {Q : α → Shared → Prop} {E : Value → Shared → Prop} (d : Does M A₁ t s P)
    (hh : A₁.handled = A.handled) (hd : A.depth ≤ A₁.depth) (hu : A.units ≤ A₁.units) (hf : A₁.frames = none) (hg : A₁.guards = none)
    (h : ∀ v h' tk', s.toks ≤ tk' → s.heap.StaysIn h' → P v h' → Q v { s with heap := h', toks := tk' }) : wpAny M A t Q E s :=
  weaken hh hd hu hf hg (wpAny_mono (d E) (fun v s' ⟨h', tk', e, ht, hk, hP⟩ => by subst e; exact h v h' tk' ht hk hP) fun _ _ x => x)

theorem news_add {h₀ h h' : Heap} {L a : Addr} {m : Str → Option Value} {o : Obj} {news : List (Addr × Obj)} (F : Fr h₀ L h m) (N : News h₀ L h' news) (hn : h.get? a = none) (ho : h'.get? a = some o) : News h₀ L h' ((a, o) :: news) := by
  intro p hp
  rcases List.mem_cons.mp hp with rfl | hp
  · refine ⟨ho, ?_, ?_⟩
    · rintro rfl
      obtain ⟨oL, _, _, hL, _⟩ := F.ns
      rw [hL] at hn; cases hn
    · cases q : h₀.get? a with
      | none => rfl
      | some o' => have := F.keep a o' q; rw [hn] at this; cases this
  · exact N p hp
theorem news_sub {h₀ h : Heap} {L : Addr} {a b : List (Addr × Obj)} (N : News h₀ L h a) (hs : ∀ p ∈ b, p ∈ a) : News h₀ L h b := fun p hp => N p (hs p hp)

section
variable {prog : Program} {w : World} {A : Around} {E : Value → Shared → Prop} {s : Shared} {K : Frag} {Q : Value → Shared → Prop}
theorem call_fn {name qual : Str} {params : Arguments} {body : List Stmt} {scope : Scope} {dV kV doc pm cdv ct oc : Value} {an od : Option Addr} {osl : Array (Option Value)} {f : Addr} {pos : List Value} {kw : List (Str × Value)} {binds : List (Str × Value)}
    (X : K.In s.heap) (hlim : s.heap.NoLimit)
    (ho : K.lookup f = some ⟨oc, od, .func (fnOf name qual params body scope dV kV doc pm an cdv ct), osl⟩) (hcd : codeIn K cdv qual = true) (hroom : A.depth < recursionLimit)
    (hbind : BindsTo s (fnOf name qual params body scope dV kV doc pm an cdv ct) ⟨pos, kw⟩ binds) (hloc : ∀ y ∈ binds, scope.names.lookup y.1 = some .local)
    (h : ∀ L h₁, Fr s.heap L h₁ (fun y => binds.reverse.lookup y) → News s.heap L h₁ [] → L = s.heap.objs.size →
      wpAny (model prog w) (A.deeper (envOf qual scope L f cdv)) (execs body (envOf qual scope L f cdv))
        (fun fl s' => Q (match fl with | .ret v => v | _ => .none) s') noE { s with heap := h₁, toks := s.toks + binds.length })
    (hcell : ∀ x ∈ scope.names, x.2 ≠ .cell := by decide) (hco : scope.isCoroutine = false := by rfl) (hgen : scope.isGenerator = false := by rfl) (hk : scope.kind = .function := by rfl) :
    wpAny (model prog w) A (call (.ref f) pos kw) Q E s := by
  refine wpAny_call ?_
  refine codeAny_call_def (fd := fnOf name qual params body scope dV kV doc pm an cdv ct) (body := body) (binds := binds) hroom (X _ _ ho) rfl hlim (codeRec_of X hcd) rfl hbind hcell hloc (fun h₁ hns hk₁ => ?_) hco hgen hk
  exact wpAny_mono (h s.heap.objs.size h₁ ⟨hns, hk₁, Nat.le_refl _⟩ News.nil rfl) (fun _ _ x => x) fun _ _ x => x.elim
end

/-! loops -/
section
variable {prog : Program} {w : World} {A : Around} {env : Env} {h₀ : Heap} {target : PySem.Expr} {body : List Stmt} {I : Addr} {n : Nat}
/-- an iterator I with its static facts Sx, that turns the frame's names by U -/
structure Draws (prog : Program) (w : World) (A : Around) (env : Env) (h₀ : Heap) (target : PySem.Expr) (I : Addr) (n : Nat) (It : Nat → Obj → Prop) (Sx : Heap → Prop) (U : Nat → ((Str → Option Value) → Str → Option Value) → Prop) : Prop where
  item : ∀ i (s : Shared) m o (Q : Unit → Shared → Prop), i < n → s.heap.get? I = some o → It i o → Sx s.heap → I ≠ env.locals → Fr h₀ env.locals s.heap m →
    (∀ u h' tk o', U i u → h'.get? I = some o' → It (i + 1) o' → Fr h₀ env.locals h' (u m) → (∀ b x, b ≠ env.locals → b ≠ I → s.heap.get? b = some x → h'.get? b = some x) → Q () { s with heap := h', toks := tk }) →
    wpAny (model prog w) A (pyNext (.ref I)) (fun r s₁ => match r with
      | none => False
      | some v => wpAny (model prog w) A (letOwnedTupleGo target (.ref I) v) (fun _ s₂ => wpAny (model prog w) A (assign target env v) Q noE s₂) noE s₁) noE s
  done : ∀ (s : Shared) o (Q : Option Value → Shared → Prop), s.heap.get? I = some o → It n o → Sx s.heap →
    (∀ h' tk, (∀ b x, b ≠ I → s.heap.get? b = some x → h'.get? b = some x) → Q none { s with heap := h', toks := tk }) → wpAny (model prog w) A (pyNext (.ref I)) Q noE s

def TurnPost (h₀ : Heap) (L I : Addr) (o : Obj) (J : Nat → (Str → Option Value) → List (Addr × Obj) → Prop) (i : Nat) (s : Shared) (Q : Flow → Shared → Prop) (f : Flow) (s₂ : Shared) : Prop :=
  match f with
  | .ret v => Q (.ret v) s₂
  | .brk => Q .next s₂
  | _ => ∃ h' tk m₂ news₂, s₂ = { s with heap := h', toks := tk } ∧ Fr h₀ L h' m₂ ∧ News h₀ L h' ((I, o) :: news₂) ∧ (∀ p ∈ news₂, p.1 ≠ I) ∧ J (i + 1) m₂ news₂

theorem for_loop {It : Nat → Obj → Prop} {Sx : Heap → Prop} {U : Nat → ((Str → Option Value) → Str → Option Value) → Prop} {s : Shared} {m : Str → Option Value} {news : List (Addr × Obj)} {o₀ : Obj} {Q : Flow → Shared → Prop} {E : Value → Shared → Prop}
    (D : Draws prog w A env h₀ target I n It Sx U) (J : Nat → (Str → Option Value) → List (Addr × Obj) → Prop)
    (hI : s.heap.get? I = some o₀) (hIt : It 0 o₀) (hIL : I ≠ env.locals) (hI0 : h₀.get? I = none) (F : Fr h₀ env.locals s.heap m) (N : News h₀ env.locals s.heap news) (hnI : ∀ p ∈ news, p.1 ≠ I)
    (hS : ∀ i m' news' h', J i m' news' → Fr h₀ env.locals h' m' → News h₀ env.locals h' news' → Sx h') (h0 : J 0 m news)
    (step : ∀ i u m₁ news₁ h tk o, i < n → U i u → J i m₁ news₁ → (∀ p ∈ news₁, p.1 ≠ I) → Fr h₀ env.locals h (u m₁) → News h₀ env.locals h ((I, o) :: news₁) →
      wpAny (model prog w) A (execs body env) (TurnPost h₀ env.locals I o J i s Q) noE { s with heap := h, toks := tk })
    (hR : ∀ h' tk m' news', Fr h₀ env.locals h' m' → News h₀ env.locals h' news' → J n m' news' → Q .next { s with heap := h', toks := tk }) :
    codeAny (model prog w) A (.forLoop target (.ref I) body [] env) (fun r s' => match r with | .ok f => Q f s' | .error e => cameBackBy (model prog w) A env E e s') s := by
  refine codeAny_forLoop_any
    (fun k s' => ∃ h' tk m' news' i o, s' = { s with heap := h', toks := tk } ∧ h'.get? I = some o ∧ It i o ∧ Fr h₀ env.locals h' m' ∧ News h₀ env.locals h' news' ∧ (∀ p ∈ news', p.1 ≠ I) ∧ J i m' news' ∧ i ≤ n ∧ k = n + 1 - i) ?_ (n + 1)
    ⟨s.heap, s.toks, m, news, 0, o₀, rfl, hI, hIt, F, N, hnI, h0, Nat.zero_le _, rfl⟩
  rintro k s' ⟨h', tk, m', news', i, o, rfl, ho, hit, F', N', hn', hJ, hi, rfl⟩
  have hSx := hS i m' news' h' hJ F' N'
  have keepN : ∀ h₁ : Heap, (∀ b x, b ≠ env.locals → b ≠ I → h'.get? b = some x → h₁.get? b = some x) → News h₀ env.locals h₁ news' := fun h₁ hk p hp => ⟨hk _ _ (N' p hp).2.1 (hn' p hp) (N' p hp).1, (N' p hp).2⟩
  by_cases hlt : i < n
  · refine wpAny_mono (D.item i { s with heap := h', toks := tk } m' o (Q := fun _ s₃ => wpAny (model prog w) A (execs body env) (fun f s₄ => match f with
        | .next | .cont => ∃ k', k' < n + 1 - i ∧ ∃ h' tk m' news' i o, s₄ = { s with heap := h', toks := tk } ∧ h'.get? I = some o ∧ It i o ∧ Fr h₀ env.locals h' m' ∧ News h₀ env.locals h' news' ∧ (∀ p ∈ news', p.1 ≠ I) ∧ J i m' news' ∧ i ≤ n ∧ k' = n + 1 - i
        | .brk => Q .next s₄
        | .ret v => Q (.ret v) s₄) noE s₃) hlt ho hit hSx hIL F' fun u h₁ tk₁ o₁ hu ho₁ hit₁ F₁ hk₁ => ?_) (fun r s₁ h₁ => ?_) fun _ _ x => x.elim
    · have N₁ : News h₀ env.locals h₁ ((I, o₁) :: news') := fun p hp => by
        rcases List.mem_cons.mp hp with rfl | hp
        · exact ⟨ho₁, hIL, hI0⟩
        · exact keepN h₁ hk₁ p hp
      refine wpAny_mono (step i u m' news' h₁ tk₁ o₁ hlt hu hJ hn' F₁ N₁) (fun f s₄ h₄ => ?_) fun _ _ x => x
      cases f with
      | ret v => exact h₄
      | brk => exact h₄
      | cont => obtain ⟨h₅, tk₅, m₅, news₅, rfl, F₅, N₅, hn₅, hJ₅⟩ := h₄; exact ⟨n + 1 - (i + 1), by omega, h₅, tk₅, m₅, news₅, i + 1, o₁, rfl, (N₅ _ (.head _)).1, hit₁, F₅, fun p hp => N₅ p (.tail _ hp), hn₅, hJ₅, hlt, rfl⟩
      | next => obtain ⟨h₅, tk₅, m₅, news₅, rfl, F₅, N₅, hn₅, hJ₅⟩ := h₄; exact ⟨n + 1 - (i + 1), by omega, h₅, tk₅, m₅, news₅, i + 1, o₁, rfl, (N₅ _ (.head _)).1, hit₁, F₅, fun p hp => N₅ p (.tail _ hp), hn₅, hJ₅, hlt, rfl⟩
    · cases r with
      | none => exact h₁.elim
      | some v => exact wpAny_mono h₁ (fun _ s₂ h₂ => wpAny_mono h₂ (fun _ s₃ h₃ => wpAny_mono h₃ (fun f _ x => by cases f <;> exact x) fun _ _ x => x.elim) fun _ _ x => x.elim) fun _ _ x => x.elim
  · have hin : i = n := by omega
    subst hin
    refine wpAny_mono (D.done { s with heap := h', toks := tk } o (Q := fun r s₁ => r = none ∧ Q .next s₁) ho hit hSx fun h₁ tk₁ hk₁ => ⟨rfl, hR h₁ tk₁ m' news' ?_ (keepN h₁ fun b x _ hb e => hk₁ b x hb e) hJ⟩) (fun r s₁ h₁ => ?_) fun _ _ x => x.elim
    · exact ⟨F'.ns.at' fun o e => hk₁ _ o (Ne.symm hIL) e, fun b o e => hk₁ b o (fun q => by rw [q, hI0] at e; cases e) (F'.keep b o e), F'.above⟩
    · obtain ⟨rfl, h₁⟩ := h₁
      exact wpAny_execs_nil h₁
end

section
variable {prog : Program} {w : World} {A : Around} {env : Env} {h₀ : Heap} {s : Shared} {m : Str → Option Value}
theorem kindp (hk : env.scope.kind = .function) : (env.scope.kind == .class || (env.scope.kind == .module && env.locals != env.globals)) = false := by rw [hk]; rfl
/-- one name -/
theorem assign1 {x : Str} {px : Pos} {v : Value} {Q : Unit → Shared → Prop} (hk : env.scope.kind = .function) (hx : env.kindOf x = some .local) (F : Fr h₀ env.locals s.heap m)
    (h : ∀ h' tk, Fr h₀ env.locals h' (fun y => if y = x then some v else m y) → (∀ b o, b ≠ env.locals → s.heap.get? b = some o → h'.get? b = some o) → Q () { s with heap := h', toks := tk }) :
    wpAny (model prog w) A (assign (.Name x px) env v) Q noE s :=
  wpAny_assign_Name (wpAny_storeName_local hx F.ns (fun h' hn hs => h h' _ (F.set hn hs) fun b o hb e => (hs.2 b hb).trans e) (kindp hk))
/-- two names from a pair -/
theorem assign2 {x y : Str} {px py pt : Pos} {x1 : Nat} {t : Addr} {v u : Value} {Q : Unit → Shared → Prop} (hh : A.handled = none) (hk : env.scope.kind = .function) (hx : env.kindOf x = some .local) (hy : env.kindOf y = some .local)
    (F : Fr h₀ env.locals s.heap m) (ht : s.heap.IsTuple t #[v, u])
    (h : ∀ h' tk, Fr h₀ env.locals h' (fun z => if z = y then some u else if z = x then some v else m z) → (∀ b o, b ≠ env.locals → s.heap.get? b = some o → h'.get? b = some o) → Q () { s with heap := h', toks := tk }) :
    wpAny (model prog w) A (assign (.Tuple [.Name x px, .Name y py] x1 pt) env (.ref t)) Q noE s := by
  refine wpAny_assign_Tuple hh ht rfl rfl fun h₁ hx₁ => ?_
  have k₁ : ∀ b o, s.heap.get? b = some o → h₁.get? b = some o := fun b o e => hx₁ b o (Nat.ne_of_lt (Heap.lt_size e)) e
  have F₁ := F.kept k₁
  show wpAny _ _ (do holding [u] (assign (.Name x px) env v); do holding [] (assign (.Name y py) env u); pure ()) _ _ _
  refine wpAny_bind (wpAny_holding (assign1 (s := { s with heap := h₁ }) hk hx F₁ fun h₂ tk₂ F₂ k₂ => ?_))
  refine wpAny_bind (wpAny_holding (assign1 (s := { s with heap := h₂, toks := tk₂ }) hk hy F₂ fun h₃ tk₃ F₃ k₃ => wpAny_pure ?_))
  exact h h₃ tk₃ F₃ fun b o hb e => k₃ b o hb (k₂ b o hb (k₁ b o e))
theorem assign3 {x y z : Str} {px py pz pt : Pos} {x1 : Nat} {t : Addr} {v u q : Value} {Q : Unit → Shared → Prop} (hh : A.handled = none) (hk : env.scope.kind = .function) (hx : env.kindOf x = some .local) (hy : env.kindOf y = some .local) (hz : env.kindOf z = some .local)
    (F : Fr h₀ env.locals s.heap m) (ht : s.heap.IsTuple t #[v, u, q])
    (h : ∀ h' tk, Fr h₀ env.locals h' (fun k => if k = z then some q else if k = y then some u else if k = x then some v else m k) → (∀ b o, b ≠ env.locals → s.heap.get? b = some o → h'.get? b = some o) → Q () { s with heap := h', toks := tk }) :
    wpAny (model prog w) A (assign (.Tuple [.Name x px, .Name y py, .Name z pz] x1 pt) env (.ref t)) Q noE s := by
  refine wpAny_assign_Tuple hh ht rfl rfl fun h₁ hx₁ => ?_
  have k₁ : ∀ b o, s.heap.get? b = some o → h₁.get? b = some o := fun b o e => hx₁ b o (Nat.ne_of_lt (Heap.lt_size e)) e
  have F₁ := F.kept k₁
  show wpAny _ _ (do holding [u, q] (assign (.Name x px) env v); do holding [q] (assign (.Name y py) env u); do holding [] (assign (.Name z pz) env q); pure ()) _ _ _
  refine wpAny_bind (wpAny_holding (assign1 (s := { s with heap := h₁ }) hk hx F₁ fun h₂ tk₂ F₂ k₂ => ?_))
  refine wpAny_bind (wpAny_holding (assign1 (s := { s with heap := h₂, toks := tk₂ }) hk hy F₂ fun h₃ tk₃ F₃ k₃ => ?_))
  refine wpAny_bind (wpAny_holding (assign1 (s := { s with heap := h₃, toks := tk₃ }) hk hz F₃ fun h₄ tk₄ F₄ k₄ => wpAny_pure ?_))
  exact h h₄ tk₄ F₄ fun b o hb e => k₄ b o hb (k₃ b o hb (k₂ b o hb (k₁ b o e)))
end
end At
end
section
open PySem PySem.W PySem.Calls PyProof.Rows
set_option Elab.async false
set_option maxRecDepth 100000
namespace At
/-- a plain dict, its entries as they lie -/
abbrev RawD (h : Heap) (d : Addr) (es : Array DictEntry) (ep : Nat) : Prop := h.get? d = some { cls := .type "dict", dict := none, data := .dict es ep, slots := #[] }
abbrev KIt (d : Addr) (i n ep : Nat) : Obj := { cls := .type "dict_keyiterator", data := .fields #[.ref d, .int i 0, .int n 0, .int ep 0] }
abbrev VIt (d : Addr) (i n ep : Nat) : Obj := { cls := .type "dict_valueiterator", data := .fields #[.ref d, .int i 0, .int n 0, .int ep 0] }
abbrev TIt (d : Addr) (i n ep : Nat) (own : Value) (f : Bool) (ok ov : Value) : Obj := { cls := .type "dict_itemiterator", data := .fields #[own, .bool f, .ref d, .int i 0, .int n 0, .int ep 0, ok, ov] }

section
variable {prog : Program} {w : World} {A : Around} {E : Value → Shared → Prop} {s : Shared} {d v it : Addr} {es : Array DictEntry} {ep i : Nat}

theorem raw_type (hd : RawD s.heap d es ep) : s.TypeIs (.ref d) "dict" := ⟨_, hd, rfl⟩

theorem slot_keys_iter : Slot "dict_keys" "__iter__" "dict_keys.__iter__" :=
  .of (owner := "dict_keys") (n := "__iter__") (by rw [typeLookup_type, builtinLookup_eq_fast]; kernel_rfl) (by decide +kernel) (by decide +kernel) (by decide +kernel)
    (by first | exact .inl (by decide +kernel) | exact .inr (by decide +kernel)) (by rw [isSubtype_type]; kernel_rfl)
theorem entry_keys_iter : entryFor table "dict_keys.__iter__" = some Builtin.«dict_keys.__iter__» := entryFor_of_fast (by kernel_rfl)
theorem owner_keys : Manifest.owners.lookup (String.ofList ['s', 'y', 'e', 'k', '_', 't', 'c', 'i', 'd'].reverse) = some Manifest.sig_dict_keys := by kernel_rfl
theorem args_keys_iter_1 (a : Value) : argsOk "dict_keys.__iter__" ⟨[a], []⟩ := by
  unfold argsOk; rw [signature?_of (id := "dict_keys.__iter__") (n := ['_', '_', 'r', 'e', 't', 'i', '_', '_']) (o := ['s', 'y', 'e', 'k', '_', 't', 'c', 'i', 'd']) (by kernel_rfl) owner_keys]; kernel_rfl

/-- the views -/
theorem items_view (hm : (d == sysModules) = false) (hd : RawD s.heap d es ep) {Q : Value → Shared → Prop}
    (h : Q (.ref s.heap.objs.size) { s with heap := s.heap.push { cls := .type "dict_items", data := .fields #[.ref d] } }) :
    wpAny (model prog w) A (call (.builtin "dict.items") [.ref d]) Q E s := by
  refine wpAny_call_entry PySem.F.slot_dict_items (raw_type hd) PySem.F.entry_dict_items ?_ (PySem.F.args_dict_items_1 _)
  unfold Builtin.«dict.items»
  refine wpAny_bind ?_
  unfold Builtin.Dict.noArgs
  refine wpAny_bind (wpAny_notOrdered_dict (raw_type hd) ?_)
  show wpAny _ _ (pure d) _ _ s
  refine wpAny_pure ?_
  show wpAny _ _ (Builtin.Dict.showsAll d >>= _) _ _ s
  unfold Builtin.Dict.showsAll
  rw [if_neg (by rw [hm]; exact Bool.false_ne_true)]
  refine wpAny_bind (wpAny_pure ?_)
  exact wpAny_bind (wpAny_newObj_type (wpAny_pure ⟨_, rfl, h⟩))
theorem keys_view (hm : (d == sysModules) = false) (hd : RawD s.heap d es ep) {Q : Value → Shared → Prop}
    (h : Q (.ref s.heap.objs.size) { s with heap := s.heap.push { cls := .type "dict_keys", data := .fields #[.ref d] } }) :
    wpAny (model prog w) A (call (.builtin "dict.keys") [.ref d]) Q E s := by
  refine wpAny_call_entry PySem.F.slot_dict_keys (raw_type hd) PySem.F.entry_dict_keys ?_ (PySem.F.args_dict_keys_1 _)
  unfold Builtin.«dict.keys»
  refine wpAny_bind ?_
  unfold Builtin.Dict.noArgs
  refine wpAny_bind (wpAny_notOrdered_dict (raw_type hd) ?_)
  show wpAny _ _ (pure d) _ _ s
  refine wpAny_pure ?_
  show wpAny _ _ (Builtin.Dict.showsAll d >>= _) _ _ s
  unfold Builtin.Dict.showsAll
  rw [if_neg (by rw [hm]; exact Bool.false_ne_true)]
  refine wpAny_bind (wpAny_pure ?_)
  exact wpAny_bind (wpAny_newObj_type (wpAny_pure ⟨_, rfl, h⟩))
theorem values_view (hm : (d == sysModules) = false) (hd : RawD s.heap d es ep) {Q : Value → Shared → Prop}
    (h : Q (.ref s.heap.objs.size) { s with heap := s.heap.push { cls := .type "dict_values", data := .fields #[.ref d] } }) :
    wpAny (model prog w) A (call (.builtin "dict.values") [.ref d]) Q E s := by
  refine wpAny_call_entry PySem.F.slot_dict_values (raw_type hd) PySem.F.entry_dict_values ?_ (PySem.F.args_dict_values_1 _)
  unfold Builtin.«dict.values»
  refine wpAny_bind ?_
  unfold Builtin.Dict.noArgs
  refine wpAny_bind (wpAny_notOrdered_dict (raw_type hd) ?_)
  show wpAny _ _ (pure d) _ _ s
  refine wpAny_pure ?_
  show wpAny _ _ (Builtin.Dict.showsAll d >>= _) _ _ s
  unfold Builtin.Dict.showsAll
  rw [if_neg (by rw [hm]; exact Bool.false_ne_true)]
  refine wpAny_bind (wpAny_pure ?_)
  exact wpAny_bind (wpAny_newObj_type (wpAny_pure ⟨_, rfl, h⟩))

/-- iter(view) -/
theorem items_iter (hv : s.heap.get? v = some { cls := .type "dict_items", data := .fields #[.ref d] }) (hd : RawD s.heap d es ep) {Q : Value → Shared → Prop}
    (h : Q (.ref s.heap.objs.size) { s with heap := s.heap.push (TIt d 0 es.size ep .none false .none .none) }) : wpAny (model prog w) A (pyIter (.ref v)) Q E s := by
  have hT : s.TypeIs (.ref v) "dict_items" := ⟨_, hv, rfl⟩
  refine wpAny_pyIter_slot hT PySem.F.slot_dict_items_iter (wpAny_call_entry PySem.F.slot_dict_items_iter hT PySem.F.entry_dict_items_iter ?_ (PySem.F.args_dict_items_iter_1 _))
  unfold Builtin.«dict_items.__iter__»
  refine wpAny_bind (wpAny_pure (wpAny_bind ?_))
  unfold Builtin.Dict_items.dictOf
  refine wpAny_bind (wpAny_field hv rfl (x := .ref d) rfl (wpAny_pure (wpAny_bind ?_)))
  unfold Builtin.Dict_items.newIterator
  refine wpAny_bind (wpAny_dictEntries hd rfl (wpAny_bind (wpAny_dictEpoch hd rfl ?_)))
  have hown : Builtin.Dict_items.ownsTuple "dict_itemiterator" = true := by decide
  simp only [hown, if_true]
  refine wpAny_newObj_type (wpAny_pure ⟨_, rfl, "dict_itemiterator", _, ⟨_, Heap.get?_push_size _ rfl, rfl⟩, PySem.F.slot_dict_itemiterator_next.lookup, ?_⟩)
    (by simp only [sizeOk, Builtin.Dict_items.ownedTupleFields, List.size_toArray, List.length_append, List.length_cons, List.length_nil, sizeLine_eq]; omega)
  exact h
theorem keys_iter (hv : s.heap.get? v = some { cls := .type "dict_keys", data := .fields #[.ref d] }) (hd : RawD s.heap d es ep) {Q : Value → Shared → Prop}
    (h : Q (.ref s.heap.objs.size) { s with heap := s.heap.push (KIt d 0 es.size ep) }) : wpAny (model prog w) A (pyIter (.ref v)) Q E s := by
  have hT : s.TypeIs (.ref v) "dict_keys" := ⟨_, hv, rfl⟩
  refine wpAny_pyIter_slot hT slot_keys_iter (wpAny_call_entry slot_keys_iter hT entry_keys_iter ?_ (args_keys_iter_1 _))
  unfold Builtin.«dict_keys.__iter__»
  refine wpAny_bind (wpAny_pure (wpAny_bind ?_))
  unfold Builtin.Dict_items.dictOf
  refine wpAny_bind (wpAny_field hv rfl (x := .ref d) rfl (wpAny_pure (wpAny_bind ?_)))
  unfold Builtin.Dict_items.newIterator
  refine wpAny_bind (wpAny_dictEntries hd rfl (wpAny_bind (wpAny_dictEpoch hd rfl ?_)))
  have hown : Builtin.Dict_items.ownsTuple "dict_keyiterator" = false := by decide
  simp only [hown, Bool.false_eq_true, if_false]
  refine wpAny_newObj_type (wpAny_pure ⟨_, rfl, "dict_keyiterator", _, ⟨_, Heap.get?_push_size _ rfl, rfl⟩, PySem.F.slot_dict_keyiterator_next.lookup, ?_⟩)
  exact h
theorem values_iter (hv : s.heap.get? v = some { cls := .type "dict_values", data := .fields #[.ref d] }) (hd : RawD s.heap d es ep) {Q : Value → Shared → Prop}
    (h : Q (.ref s.heap.objs.size) { s with heap := s.heap.push (VIt d 0 es.size ep) }) : wpAny (model prog w) A (pyIter (.ref v)) Q E s := by
  have hT : s.TypeIs (.ref v) "dict_values" := ⟨_, hv, rfl⟩
  refine wpAny_pyIter_slot hT PySem.F.slot_dict_values_iter (wpAny_call_entry PySem.F.slot_dict_values_iter hT PySem.F.entry_dict_values_iter ?_ (PySem.F.args_dict_values_iter_1 _))
  unfold Builtin.«dict_values.__iter__»
  refine wpAny_bind (wpAny_pure (wpAny_bind ?_))
  unfold Builtin.Dict_items.dictOf
  refine wpAny_bind (wpAny_field hv rfl (x := .ref d) rfl (wpAny_pure (wpAny_bind ?_)))
  unfold Builtin.Dict_items.newIterator
  refine wpAny_bind (wpAny_dictEntries hd rfl (wpAny_bind (wpAny_dictEpoch hd rfl ?_)))
  have hown : Builtin.Dict_items.ownsTuple "dict_valueiterator" = false := by decide
  simp only [hown, Bool.false_eq_true, if_false]
  refine wpAny_newObj_type (wpAny_pure ⟨_, rfl, "dict_valueiterator", _, ⟨_, Heap.get?_push_size _ rfl, rfl⟩, PySem.F.slot_dict_valueiterator_next.lookup, ?_⟩)
  exact h

/-- next of a key iterator -/
theorem keys_next (hi : s.heap.get? it = some (KIt d i es.size ep)) (hd : RawD s.heap d es ep) (hlt : i < es.size) {Q : Option Value → Shared → Prop}
    (h : ∀ h', h'.get? it = some (KIt d (i + 1) es.size ep) → Heap.SameBut it s.heap h' → Q (some es[i].key) { s with heap := h' }) : wpAny (model prog w) A (pyNext (.ref it)) Q E s := by
  have hT : s.TypeIs (.ref it) "dict_keyiterator" := ⟨_, hi, rfl⟩
  unfold pyNext
  refine wpAny_bind (wpAny_attempt (wpAny_callSpecial?_slot (name := Str.ofString "__next__") hT PySem.F.slot_dict_keyiterator_next
    (wpAny_call_entry PySem.F.slot_dict_keyiterator_next hT PySem.F.entry_dict_keyiterator_next ?_ (PySem.F.args_dict_keyiterator_next_1 _))))
  refine wpAny_bind (wpAny_pure (wpAny_bind (wpAny_bind (wpAny_bind (wpAny_typeNameOfWhole_keyiter hT (wpAny_pure ?_))))))
  refine wpAny_bind (wpAny_fieldsOf hi rfl ?_)
  have hown : Builtin.Dict_items.ownsTuple "dict_keyiterator" = false := by decide
  simp only [hown, Bool.false_eq_true, if_false]
  show wpAny _ _ (if (Value.ref d == Value.none) = true then _ else _) _ _ s
  rw [if_neg (show ¬ ((Value.ref d == Value.none) = true) from Bool.false_ne_true)]
  refine wpAny_bind (wpAny_pure (wpAny_bind (wpAny_dictEntries hd rfl ?_)))
  rw [if_neg (by simp)]
  refine wpAny_bind (wpAny_pure (wpAny_bind (wpAny_dictEpoch hd rfl ?_)))
  rw [if_neg (by simp)]
  refine wpAny_pure ?_
  simp only [show ¬ ((i : Int) < 0) from by omega, if_false, Int.toNat_natCast, Array.getElem?_eq_getElem hlt]
  refine wpAny_bind (wpAny_bind (wpAny_typeNameOfWhole_keyiter hT (wpAny_pure ?_)))
  refine wpAny_bind (wpAny_isOneOf_keyiter hT ?_)
  show wpAny _ _ (setField (.ref it) 1 (rawInt ((i : Int) + 1)) >>= _) _ _ s
  refine wpAny_bind (wpAny_setField_rec hi (by simp) fun h₁ he₁ hs₁ => ?_)
  have e1 : ((i + 1 : Nat) : Int) = (i : Int) + 1 := by omega
  replace he₁ : h₁.get? it = some (KIt d (i + 1) es.size ep) := by rw [KIt, e1]; simpa [rawInt] using he₁
  refine wpAny_bind (wpAny_holding (wpAny_bind (wpAny_isOneOf_keyiter (s := { s with heap := h₁ }) ⟨_, he₁, rfl⟩ ?_)))
  show wpAny _ _ (pure es[i].key) _ _ _
  exact wpAny_pure (wpAny_pure ⟨_, rfl, wpAny_pure (h h₁ he₁ hs₁)⟩)
/-- next of a value iterator -/
theorem values_next (hi : s.heap.get? it = some (VIt d i es.size ep)) (hd : RawD s.heap d es ep) (hlt : i < es.size) {Q : Option Value → Shared → Prop}
    (h : ∀ h', h'.get? it = some (VIt d (i + 1) es.size ep) → Heap.SameBut it s.heap h' → Q (some es[i].val) { s with heap := h' }) : wpAny (model prog w) A (pyNext (.ref it)) Q E s := by
  have hT : s.TypeIs (.ref it) "dict_valueiterator" := ⟨_, hi, rfl⟩
  unfold pyNext
  refine wpAny_bind (wpAny_attempt (wpAny_callSpecial?_slot (name := Str.ofString "__next__") hT PySem.F.slot_dict_valueiterator_next
    (wpAny_call_entry PySem.F.slot_dict_valueiterator_next hT PySem.F.entry_dict_valueiterator_next ?_ (PySem.F.args_dict_valueiterator_next_1 _))))
  refine wpAny_bind (wpAny_pure (wpAny_bind (wpAny_bind (wpAny_bind (wpAny_typeNameOfWhole_valiter hT (wpAny_pure ?_))))))
  refine wpAny_bind (wpAny_fieldsOf hi rfl ?_)
  have hown : Builtin.Dict_items.ownsTuple "dict_valueiterator" = false := by decide
  simp only [hown, Bool.false_eq_true, if_false]
  show wpAny _ _ (if (Value.ref d == Value.none) = true then _ else _) _ _ s
  rw [if_neg (show ¬ ((Value.ref d == Value.none) = true) from Bool.false_ne_true)]
  refine wpAny_bind (wpAny_pure (wpAny_bind (wpAny_dictEntries hd rfl ?_)))
  rw [if_neg (by simp)]
  refine wpAny_bind (wpAny_pure (wpAny_bind (wpAny_dictEpoch hd rfl ?_)))
  rw [if_neg (by simp)]
  refine wpAny_pure ?_
  simp only [show ¬ ((i : Int) < 0) from by omega, if_false, Int.toNat_natCast, Array.getElem?_eq_getElem hlt]
  refine wpAny_bind (wpAny_bind (wpAny_typeNameOfWhole_valiter hT (wpAny_pure ?_)))
  refine wpAny_bind (wpAny_isOneOf_valiter hT ?_)
  show wpAny _ _ (setField (.ref it) 1 (rawInt ((i : Int) + 1)) >>= _) _ _ s
  refine wpAny_bind (wpAny_setField_rec hi (by simp) fun h₁ he₁ hs₁ => ?_)
  have e1 : ((i + 1 : Nat) : Int) = (i : Int) + 1 := by omega
  replace he₁ : h₁.get? it = some (VIt d (i + 1) es.size ep) := by rw [VIt, e1]; simpa [rawInt] using he₁
  refine wpAny_bind (wpAny_holding (wpAny_bind (wpAny_isOneOf_valiter (s := { s with heap := h₁ }) ⟨_, he₁, rfl⟩ ?_)))
  refine wpAny_bind (wpAny_isOneOf_valiter (s := { s with heap := h₁ }) ⟨_, he₁, rfl⟩ ?_)
  show wpAny _ _ (pure es[i].val) _ _ _
  exact wpAny_pure (wpAny_pure ⟨_, rfl, wpAny_pure (h h₁ he₁ hs₁)⟩)

theorem stop_iter {Q : Option Value → Shared → Prop} (hh : A.handled = none) (h : ∀ h', (∀ b o, s.heap.get? b = some o → h'.get? b = some o) → Q none { s with heap := h' }) {P : PySem.Fin → Shared → Prop} :
    wpAny (model prog w) A.in1 (newExc (.type "StopIteration") [] >>= raiseNew) P (fun e s' => ∃ h', s' = { s with heap := h' } ∧ Q none s' ∧ s'.TypeIs e "StopIteration") s := by
  refine wpAny_bind ?_
  simp only [newExc, newTuple]
  refine wpAny_bind (wpAny_newObj_type ?_ (by size_fits))
  refine wpAny_bind (m := firstArgMember _ _) (wpAny_of_eq (a := Value.none) (by first | rfl | (simp only [firstArgMember]; rfl)) ?_)
  refine wpAny_newObj_type ?_ (by size_fits)
  simp only [raiseNew]
  refine wpAny_bind (wpAny_handled ?_)
  rw [show A.in1.handled = none from hh]
  exact wpAny_bind (wpAny_pure (wpAny_throw ⟨_, rfl, h _ fun b o e => Heap.get?_push_of_some _ (Heap.get?_push_of_some _ e), _, Heap.get?_push_size _ rfl, rfl⟩))

/-- the end of a key iterator -/
theorem keys_end (hh : A.handled = none) (hi : s.heap.get? it = some (KIt d es.size es.size ep)) (hd : RawD s.heap d es ep) {Q : Option Value → Shared → Prop}
    (h : ∀ h', Heap.ExtBut it s.heap h' → Q none { s with heap := h' }) : wpAny (model prog w) A (pyNext (.ref it)) Q E s := by
  have hT : s.TypeIs (.ref it) "dict_keyiterator" := ⟨_, hi, rfl⟩
  unfold pyNext
  refine wpAny_bind (wpAny_attempt (wpAny_callSpecial?_slot (name := Str.ofString "__next__") hT PySem.F.slot_dict_keyiterator_next
    (wpAny_call_entry PySem.F.slot_dict_keyiterator_next hT PySem.F.entry_dict_keyiterator_next ?_ (PySem.F.args_dict_keyiterator_next_1 _))))
  refine wpAny_bind (wpAny_pure (wpAny_bind (wpAny_bind (wpAny_bind (wpAny_typeNameOfWhole_keyiter hT (wpAny_pure ?_))))))
  refine wpAny_bind (wpAny_fieldsOf hi rfl ?_)
  have hown : Builtin.Dict_items.ownsTuple "dict_keyiterator" = false := by decide
  simp only [hown, Bool.false_eq_true, if_false]
  show wpAny _ _ (if (Value.ref d == Value.none) = true then _ else _) _ _ s
  rw [if_neg (show ¬ ((Value.ref d == Value.none) = true) from Bool.false_ne_true)]
  refine wpAny_bind (wpAny_pure (wpAny_bind (wpAny_dictEntries hd rfl ?_)))
  rw [if_neg (by simp)]
  refine wpAny_bind (wpAny_pure (wpAny_bind (wpAny_dictEpoch hd rfl ?_)))
  rw [if_neg (by simp)]
  refine wpAny_pure ?_
  simp only [show ¬ ((es.size : Int) < 0) from by omega, if_false, Int.toNat_natCast, Array.getElem?_eq_none (Nat.le_refl _)]
  refine wpAny_bind (wpAny_bind (wpAny_typeNameOfWhole_keyiter hT (wpAny_pure ?_)))
  show wpAny _ _ (setField (.ref it) 0 .none >>= _) _ _ s
  refine wpAny_bind (wpAny_setField_rec hi (by simp) fun h₁ _ hs₁ => ?_)
  refine wpAny_mono (stop_iter (A := A) (s := { s with heap := h₁ }) (Q := Q) hh fun h₂ hk => h h₂ fun b o hb e => hk b o (hs₁.extBut b o hb e)) (fun _ _ x => x) ?_
  rintro e s' ⟨h', rfl, hq, hT'⟩
  exact wpAny_bind (wpAny_isInstance (T := "StopIteration") (b := true) hT' isSubtype_stop (wpAny_pure hq))
theorem values_end (hh : A.handled = none) (hi : s.heap.get? it = some (VIt d es.size es.size ep)) (hd : RawD s.heap d es ep) {Q : Option Value → Shared → Prop}
    (h : ∀ h', Heap.ExtBut it s.heap h' → Q none { s with heap := h' }) : wpAny (model prog w) A (pyNext (.ref it)) Q E s := by
  have hT : s.TypeIs (.ref it) "dict_valueiterator" := ⟨_, hi, rfl⟩
  unfold pyNext
  refine wpAny_bind (wpAny_attempt (wpAny_callSpecial?_slot (name := Str.ofString "__next__") hT PySem.F.slot_dict_valueiterator_next
    (wpAny_call_entry PySem.F.slot_dict_valueiterator_next hT PySem.F.entry_dict_valueiterator_next ?_ (PySem.F.args_dict_valueiterator_next_1 _))))
  refine wpAny_bind (wpAny_pure (wpAny_bind (wpAny_bind (wpAny_bind (wpAny_typeNameOfWhole_valiter hT (wpAny_pure ?_))))))
  refine wpAny_bind (wpAny_fieldsOf hi rfl ?_)
  have hown : Builtin.Dict_items.ownsTuple "dict_valueiterator" = false := by decide
  simp only [hown, Bool.false_eq_true, if_false]
  show wpAny _ _ (if (Value.ref d == Value.none) = true then _ else _) _ _ s
  rw [if_neg (show ¬ ((Value.ref d == Value.none) = true) from Bool.false_ne_true)]
  refine wpAny_bind (wpAny_pure (wpAny_bind (wpAny_dictEntries hd rfl ?_)))
  rw [if_neg (by simp)]
  refine wpAny_bind (wpAny_pure (wpAny_bind (wpAny_dictEpoch hd rfl ?_)))
  rw [if_neg (by simp)]
  refine wpAny_pure ?_
  simp only [show ¬ ((es.size : Int) < 0) from by omega, if_false, Int.toNat_natCast, Array.getElem?_eq_none (Nat.le_refl _)]
  refine wpAny_bind (wpAny_bind (wpAny_typeNameOfWhole_valiter hT (wpAny_pure ?_)))
  show wpAny _ _ (setField (.ref it) 0 .none >>= _) _ _ s
  refine wpAny_bind (wpAny_setField_rec hi (by simp) fun h₁ _ hs₁ => ?_)
  refine wpAny_mono (stop_iter (A := A) (s := { s with heap := h₁ }) (Q := Q) hh fun h₂ hk => h h₂ fun b o hb e => hk b o (hs₁.extBut b o hb e)) (fun _ _ x => x) ?_
  rintro e s' ⟨h', rfl, hq, hT'⟩
  exact wpAny_bind (wpAny_isInstance (T := "StopIteration") (b := true) hT' isSubtype_stop (wpAny_pure hq))
theorem items_end {own ok ov : Value} {f : Bool} (hh : A.handled = none) (hi : s.heap.get? it = some (TIt d es.size es.size ep own f ok ov)) (hd : RawD s.heap d es ep) {Q : Option Value → Shared → Prop}
    (h : ∀ h', Heap.ExtBut it s.heap h' → Q none { s with heap := h' }) : wpAny (model prog w) A (pyNext (.ref it)) Q E s := by
  have hT : s.TypeIs (.ref it) "dict_itemiterator" := ⟨_, hi, rfl⟩
  unfold pyNext
  refine wpAny_bind (wpAny_attempt (wpAny_callSpecial?_slot (name := Str.ofString "__next__") hT PySem.F.slot_dict_itemiterator_next
    (wpAny_call_entry PySem.F.slot_dict_itemiterator_next hT PySem.F.entry_dict_itemiterator_next ?_ (PySem.F.args_dict_itemiterator_next_1 _))))
  refine wpAny_bind (wpAny_pure (wpAny_bind (wpAny_bind (wpAny_bind (wpAny_typeNameOfWhole_itemiter hT (wpAny_pure ?_))))))
  refine wpAny_bind (wpAny_fieldsOf hi rfl ?_)
  have hown : Builtin.Dict_items.ownsTuple "dict_itemiterator" = true := by decide
  simp only [hown, if_true]
  show wpAny _ _ (if (Value.ref d == Value.none) = true then _ else _) _ _ s
  rw [if_neg (show ¬ ((Value.ref d == Value.none) = true) from Bool.false_ne_true)]
  refine wpAny_bind (wpAny_pure (wpAny_bind (wpAny_dictEntries hd rfl ?_)))
  rw [if_neg (by simp)]
  refine wpAny_bind (wpAny_pure (wpAny_bind (wpAny_dictEpoch hd rfl ?_)))
  rw [if_neg (by simp)]
  refine wpAny_pure ?_
  simp only [show ¬ ((es.size : Int) < 0) from by omega, if_false, Int.toNat_natCast, Array.getElem?_eq_none (Nat.le_refl _)]
  refine wpAny_bind (wpAny_bind (wpAny_typeNameOfWhole_itemiter hT (wpAny_pure ?_)))
  show wpAny _ _ (setField (.ref it) 2 .none >>= _) _ _ s
  refine wpAny_bind (wpAny_setField_rec hi (by simp) fun h₁ _ hs₁ => ?_)
  refine wpAny_mono (stop_iter (A := A) (s := { s with heap := h₁ }) (Q := Q) hh fun h₂ hk => h h₂ fun b o hb e => hk b o (hs₁.extBut b o hb e)) (fun _ _ x => x) ?_
  rintro e s' ⟨h', rfl, hq, hT'⟩
  exact wpAny_bind (wpAny_isInstance (T := "StopIteration") (b := true) hT' isSubtype_stop (wpAny_pure hq))

/-- next of an item iterator: its new tuple stands at the heap's end -/
theorem items_next {own ok ov : Value} {f : Bool} (hi : s.heap.get? it = some (TIt d i es.size ep own f ok ov)) (hd : RawD s.heap d es ep) (hlt : i < es.size)
    (ho : (own = .none ∧ f = false) ∨ ∃ a oa, own = rawInt (a : Nat) ∧ s.heap.get? a = some oa ∧ a ≠ it) {Q : Option Value → Shared → Prop}
    (h : ∀ h' own' f' ok' ov', h'.get? it = some (TIt d (i + 1) es.size ep own' f' ok' ov') → ((own = .none → own' = rawInt s.heap.objs.size ∧ f' = false) ∧ (own ≠ .none → own' = own)) →
      h'.get? s.heap.objs.size = some { cls := .type "tuple", data := .seq #[es[i].key, es[i].val] } → (∀ b o, b ≠ it → s.heap.get? b = some o → h'.get? b = some o) → Q (some (.ref s.heap.objs.size)) { s with heap := h' }) :
    wpAny (model prog w) A (pyNext (.ref it)) Q E s := by
  obtain ⟨hp, g, dr, tk, os⟩ := s
  have hT : Shared.TypeIs ⟨hp, g, dr, tk, os⟩ (.ref it) "dict_itemiterator" := ⟨_, hi, rfl⟩
  have hil : it < hp.objs.size := Heap.lt_size hi
  unfold pyNext
  refine wpAny_bind (wpAny_attempt (wpAny_callSpecial?_slot (name := Str.ofString "__next__") hT PySem.F.slot_dict_itemiterator_next
    (wpAny_call_entry PySem.F.slot_dict_itemiterator_next hT PySem.F.entry_dict_itemiterator_next ?_ (PySem.F.args_dict_itemiterator_next_1 _))))
  refine wpAny_bind (wpAny_pure (wpAny_bind (wpAny_bind (wpAny_bind (wpAny_typeNameOfWhole_itemiter hT (wpAny_pure ?_))))))
  refine wpAny_bind (wpAny_fieldsOf hi rfl ?_)
  have hown : Builtin.Dict_items.ownsTuple "dict_itemiterator" = true := by decide
  simp only [hown, if_true]
  show wpAny _ _ (if (Value.ref d == Value.none) = true then _ else _) _ _ _
  rw [if_neg (show ¬ ((Value.ref d == Value.none) = true) from Bool.false_ne_true)]
  refine wpAny_bind (wpAny_pure (wpAny_bind (wpAny_dictEntries hd rfl ?_)))
  rw [if_neg (by simp)]
  refine wpAny_bind (wpAny_pure (wpAny_bind (wpAny_dictEpoch hd rfl ?_)))
  rw [if_neg (by simp)]
  refine wpAny_pure ?_
  simp only [show ¬ ((i : Int) < 0) from by omega, if_false, Int.toNat_natCast, Array.getElem?_eq_getElem hlt]
  refine wpAny_bind (wpAny_bind (wpAny_typeNameOfWhole_itemiter hT (wpAny_pure ?_)))
  refine wpAny_bind (wpAny_isOneOf_itemiter hT ?_)
  show wpAny _ _ (setField (.ref it) 3 (rawInt ((i : Int) + 1)) >>= _) _ _ ⟨hp, g, dr, tk, os⟩
  refine wpAny_bind (wpAny_setField_rec hi (by simp) fun h₁ he₁ hs₁ => ?_)
  have e1 : ((i + 1 : Nat) : Int) = (i : Int) + 1 := by omega
  replace hs₁ : Heap.SameBut it hp h₁ := hs₁
  replace he₁ : h₁.get? it = some (TIt d (i + 1) es.size ep own f ok ov) := by rw [TIt, e1]; simpa [rawInt] using he₁
  have hT₁ : Shared.TypeIs ⟨h₁, g, dr, tk, os⟩ (.ref it) "dict_itemiterator" := ⟨_, he₁, rfl⟩
  refine wpAny_bind (wpAny_holding (wpAny_bind (wpAny_isOneOf_itemiter hT₁ (wpAny_bind (wpAny_isOneOf_itemiter hT₁ ?_)))))
  show wpAny _ _ (Builtin.Dict_items.pairFromOwner (.ref it) 6 es[i].key es[i].val) _ _ ⟨h₁, g, dr, tk, os⟩
  unfold Builtin.Dict_items.pairFromOwner
  refine wpAny_bind (wpAny_newTuple ?_)
  have he₂ : (h₁.push { cls := .type "tuple", data := .seq #[es[i].key, es[i].val] }).get? it = some (TIt d (i + 1) es.size ep own f ok ov) := Heap.get?_push_of_some _ he₁
  generalize hh₂ : h₁.push { cls := .type "tuple", data := .seq #[es[i].key, es[i].val] } = h₂ at he₂
  have hz₁ : h₁.objs.size = hp.objs.size := hs₁.1
  have ht₂ : h₂.get? hp.objs.size = some { cls := .type "tuple", data := .seq #[es[i].key, es[i].val] } := by rw [← hh₂, ← hz₁]; exact Heap.get?_push_size _ rfl
  have hk₂ : ∀ b o, b ≠ it → hp.get? b = some o → h₂.get? b = some o := fun b o hb e => by rw [← hh₂]; exact Heap.get?_push_of_some _ (hs₁.extBut b o hb e)
  show wpAny _ _ (Builtin.Dict_items.ownedTupleIsFree (.ref it) >>= _) _ _ ⟨h₂, g, dr, tk, os⟩
  rw [hz₁]
  clear hh₂ he₁ hs₁ hT₁ hz₁ h₁
  have fin : ∀ (h₃ : Heap) own' f' ok' ov', h₃.get? it = some (TIt d (i + 1) es.size ep own' f' ok' ov') → ((own = .none → own' = rawInt hp.objs.size ∧ f' = false) ∧ (own ≠ .none → own' = own)) → Heap.SameBut it h₂ h₃ → Q (some (.ref hp.objs.size)) ⟨h₃, g, dr, tk, os⟩ :=
    fun h₃ own' f' ok' ov' he₃ hc hs₃ => h h₃ own' f' ok' ov' he₃ hc (hs₃.extBut _ _ (Nat.ne_of_gt hil) ht₂) fun b o hb e => hs₃.extBut b o hb (hk₂ b o hb e)
  refine wpAny_bind ?_
  unfold Builtin.Dict_items.ownedTupleIsFree
  rcases ho with ⟨rfl, rfl⟩ | ⟨a, oa, rfl, ha, hai⟩
  · refine wpAny_bind (wpAny_field he₂ rfl (x := .none) rfl (wpAny_pure ?_))
    simp only [if_true]
    refine wpAny_bind (wpAny_field he₂ rfl (x := ok) rfl (wpAny_bind (wpAny_field he₂ rfl (x := ov) rfl ?_)))
    refine wpAny_bind (wpAny_setField_rec he₂ (by simp) fun h₃ he₃ hs₃ => ?_)
    replace hs₃ : Heap.SameBut it h₂ h₃ := hs₃
    replace he₃ : h₃.get? it = some (TIt d (i + 1) es.size ep .none false es[i].key ov) := he₃
    refine wpAny_bind (wpAny_setField_rec he₃ (by simp) fun h₄ he₄ hs₄ => ?_)
    replace hs₄ : Heap.SameBut it h₃ h₄ := hs₄
    replace he₄ : h₄.get? it = some (TIt d (i + 1) es.size ep .none false es[i].key es[i].val) := he₄
    refine wpAny_bind (wpAny_setField_rec he₄ (by simp) fun h₅ he₅ hs₅ => ?_)
    replace hs₅ : Heap.SameBut it h₄ h₅ := hs₅
    replace he₅ : h₅.get? it = some (TIt d (i + 1) es.size ep (rawInt hp.objs.size) false es[i].key es[i].val) := he₅
    refine wpAny_bind (wpAny_setField_rec he₅ (by simp) fun h₆ he₆ hs₆ => ?_)
    replace hs₆ : Heap.SameBut it h₅ h₆ := hs₆
    replace he₆ : h₆.get? it = some (TIt d (i + 1) es.size ep (rawInt hp.objs.size) false es[i].key es[i].val) := he₆
    refine wpAny_bind (wpAny_letGo (wpAny_pure (wpAny_pure ⟨_, rfl, wpAny_pure (fin h₆ _ _ _ _ he₆ ⟨fun _ => ⟨rfl, rfl⟩, fun x => absurd rfl x⟩ (((hs₃.trans hs₄).trans hs₅).trans hs₆))⟩)))
  · have hne : (rawInt (a : Int) : Value) ≠ .none := by intro x; cases x
    refine wpAny_bind (wpAny_field he₂ rfl (x := rawInt a) rfl ?_)
    show wpAny _ _ (loadIfAlive ((a : Int).toNat) >>= _) _ _ _
    rw [Int.toNat_natCast]
    refine wpAny_bind (kdx_alive (hk₂ a oa hai ha) ?_)
    simp only [Option.isNone_some, Bool.false_eq_true, if_false]
    refine wpAny_bind (wpAny_field he₂ rfl (x := .bool f) rfl ?_)
    cases f with
    | true =>
      rw [if_neg (show ¬ ((Value.bool true != Value.bool true) = true) from Bool.false_ne_true)]
      refine wpAny_pure ?_
      simp only [Bool.false_eq_true, if_false]
      exact wpAny_pure (wpAny_pure ⟨_, rfl, wpAny_pure (fin h₂ _ _ _ _ he₂ ⟨fun x => absurd x hne, fun _ => rfl⟩ (Heap.SameBut.refl _ _))⟩)
    | false =>
      rw [if_pos (show (Value.bool false != Value.bool true) = true from rfl)]
      refine wpAny_bind (wpAny_setField_rec he₂ (by simp) fun h₃ he₃ hs₃ => ?_)
      replace hs₃ : Heap.SameBut it h₂ h₃ := hs₃
      replace he₃ : h₃.get? it = some (TIt d (i + 1) es.size ep (rawInt a) true ok ov) := he₃
      refine wpAny_pure ?_
      simp only [Bool.false_eq_true, if_false]
      exact wpAny_pure (wpAny_pure ⟨_, rfl, wpAny_pure (fin h₃ _ _ _ _ he₃ ⟨fun x => absurd x hne, fun _ => rfl⟩ hs₃)⟩)
end
end At
end
section
open PySem PySem.W PySem.Calls PyProof.Rows
set_option Elab.async false
set_option maxRecDepth 100000
namespace At
abbrev lstObj (acc : Array Value) (c : Nat) : Obj := { cls := .type "list", dict := none, data := .seq acc c, slots := #[] }
/-- an iterator that feeds n values; S is where they are laid -/
structure Feeds (prog : Program) (w : World) (A : Around) (I S : Addr) (n : Nat) (Inv : List Value → Heap → Prop) : Prop where
  item : ∀ vs (s : Shared) (Q : Option Value → Shared → Prop) E, vs.length < n → Inv vs s.heap → (∀ v h', Inv (vs ++ [v]) h' → (∀ b o, b ≠ I → s.heap.get? b = some o → h'.get? b = some o) → Q (some v) { s with heap := h' }) → wpAny (model prog w) A (pyNext (.ref I)) Q E s
  done : ∀ vs (s : Shared) (Q : Option Value → Shared → Prop) E, vs.length = n → Inv vs s.heap → (∀ h', (∀ b o, b ≠ I → s.heap.get? b = some o → h'.get? b = some o) → Q none { s with heap := h' }) → wpAny (model prog w) A (pyNext (.ref I)) Q E s
  frame : ∀ vs h h', Inv vs h → (∀ b o, b ≠ S → h.get? b = some o → h'.get? b = some o) → Inv vs h'

section
variable {prog : Program} {w : World} {A : Around} {s : Shared} {R : Result → Shared → Prop} {I S : Addr} {n : Nat} {Inv : List Value → Heap → Prop}

theorem extend_loop (W : Feeds prog w A.in1 I S n Inv) (hSI : S ≠ I) (hn : n ≤ sizeLine) (res : Value) {h₁ : Heap}
    (hR : ∀ h' acc c hl, (∀ b o, b ≠ S → b ≠ I → h₁.get? b = some o → h'.get? b = some o) → h'.get? S = some (lstObj acc c) → acc.size = n → Inv acc.toList hl → (∀ b o, b ≠ I → hl.get? b = some o → h'.get? b = some o) → R (.ok (.ret res)) { s with heap := h' }) :
    ∀ (k : Nat) (h : Heap) (c : Nat) (acc : Array Value), n - acc.size = k → acc.size ≤ n → Inv acc.toList h → (∀ b o, b ≠ S → b ≠ I → h₁.get? b = some o → h.get? b = some o) → h.get? S = some (lstObj acc c) →
      codeAny (model prog w) A (.builtin "list.extend.loop" ⟨[.ref S, .ref I, res], []⟩) R { s with heap := h } := by
  intro k
  induction k with
  | zero =>
    intro h c acc hk hz hI hkeep hS
    have hin : acc.size = n := by omega
    refine codeAny_builtin PySem.F.entry_extend_loop ?_
    rw [Around.under_plainId PySem.F.plain_extend_loop _]
    show wpAny _ A.in1 (pyNext (.ref I) >>= _) _ _ _
    refine wpAny_bind (W.done acc.toList { s with heap := h } _ _ (by simpa using hin) hI fun h' he => ?_)
    exact wpAny_pure (hR h' acc c h (fun b o h1 h2 e => he b o h2 (hkeep b o h1 h2 e)) (he S _ hSI hS) hin hI he)
  | succ k ih =>
    intro h c acc hk hz hI hkeep hS
    have hlt : acc.size < n := by omega
    refine codeAny_builtin PySem.F.entry_extend_loop ?_
    rw [Around.under_plainId PySem.F.plain_extend_loop _]
    show wpAny _ A.in1 (pyNext (.ref I) >>= _) _ _ _
    refine wpAny_bind (W.item acc.toList { s with heap := h } _ _ (by simpa using hlt) hI fun v h' hI' he => ?_)
    have hS' := he S _ hSI hS
    show wpAny _ A.in1 (updateSeq S (·.push v) >>= _) _ _ _
    refine wpAny_bind ?_
    have up : ∀ b o, b ≠ S → h'.get? b = some o → (h'.update S (Obj.mapSeq (·.push v))).get? b = some o := fun b o hb e => (Heap.get?_update_other _ _ (Ne.symm hb)).trans e
    refine wpAny_updateSeq hS' rfl (wpAny_pure ⟨plainId_quiet PySem.F.plain_extend_loop _, ih _ _ (acc.push v) (by rw [Array.size_push]; omega) (by rw [Array.size_push]; omega) ?_ (fun b o h1 h2 e => up b o h1 (he b o h2 (hkeep b o h1 h2 e))) (Heap.get?_update_self _ hS' rfl)⟩)
      (by omega) (by show (acc.push v).size ≤ sizeLine + 1; rw [Array.size_push]; omega)
    rw [Array.toList_push]
    exact W.frame _ _ _ hI' up
end

section
variable {prog : Program} {w : World} {A : Around} {E : Value → Shared → Prop} {s : Shared} {r : Addr} {n : Nat}

/-- list(view) -/
theorem list_view {T : String} {itO : Obj} {Q : Value → Shared → Prop} {oR : Obj} (hr : s.heap.get? r = some oR) (hT : oR.cls = .type T)
    (h2 : (Value.type T == Value.type "list") = false) (h3 : (Value.type T == Value.type "tuple") = false) (hfr : itO.isFreed = false)
    (hIter : ∀ (s' : Shared) (Q' : Value → Shared → Prop) E', (∀ b o, s.heap.get? b = some o → s'.heap.get? b = some o) → Q' (.ref s'.heap.objs.size) { s' with heap := s'.heap.push itO } → wpAny (model prog w) A.in1.in1 (pyIter (.ref r)) Q' E' s')
    (hHint : ∀ (s' : Shared) (Q' : Bool → Shared → Prop) E', (∀ b o, s.heap.get? b = some o → s'.heap.get? b = some o) → Q' false s' → wpAny (model prog w) A.in1.in1 (Builtin.List.listLengthHint (.ref r)) Q' E' s')
    (Inv : Addr → Addr → List Value → Heap → Prop) (W : ∀ I S, S ≠ I → Feeds prog w A.in1.in1 I S n (Inv I S)) (hn : n ≤ sizeLine)
    (h0 : ∀ I S h, S < I → (∀ b o, s.heap.get? b = some o → h.get? b = some o) → h.get? I = some itO → s.heap.objs.size ≤ S → Inv I S [] h)
    (hQ : ∀ h' acc c I hl, (∀ b o, s.heap.get? b = some o → h'.get? b = some o) → h'.get? s.heap.objs.size = some (lstObj acc c) → acc.size = n → s.heap.objs.size < I → Inv I s.heap.objs.size acc.toList hl → (∀ b o, b ≠ I → hl.get? b = some o → h'.get? b = some o) → Q (.ref s.heap.objs.size) { s with heap := h' }) :
    wpAny (model prog w) A (call (.type "list") [.ref r]) Q E s := by
  refine callType_codes (Q₁ := fun obj s₁ => obj = .ref s.heap.objs.size ∧ s₁ = { s with heap := s.heap.push (lstObj #[] 0) }) PySem.F.called_list (PySem.F.typeCall_list_1 _) PySem.F.entry_list_init
    (code_list_new _ ⟨rfl, rfl⟩) fun obj s₁ h₁ => ?_
  obtain ⟨rfl, rfl⟩ := h₁
  have hS : (s.heap.push (lstObj #[] 0)).get? s.heap.objs.size = some (lstObj #[] 0) := Heap.get?_push_size _ rfl
  have hrS : r ≠ s.heap.objs.size := Nat.ne_of_lt (Heap.lt_size hr)
  refine ⟨⟨_, hS, rfl⟩, PySem.F.args_list_init_2 _ _, ?_⟩
  show wpAny _ _ (do let old ← Builtin.List.listItems (.ref s.heap.objs.size); Builtin.List.listUpdate (.ref s.heap.objs.size) (fun _ => #[]); letGo old.toList.reverse; Builtin.List.listExtendWith (.ref s.heap.objs.size) (.ref r) .none) _ _ _
  refine wpAny_bind ?_
  unfold Builtin.List.listItems
  refine wpAny_bind (wpAny_seqItems hS rfl (wpAny_pure ?_))
  show wpAny _ _ (updateSeq s.heap.objs.size (fun _ => #[]) >>= fun _ => letGo (#[] : Array Value).toList.reverse >>= fun _ => Builtin.List.listExtendWith (.ref s.heap.objs.size) (.ref r) .none) _ _ _
  refine wpAny_bind (wpAny_updateSeq hS rfl ?_)
  have hS₂ := Heap.get?_update_self (Obj.mapSeq (fun _ => (#[] : Array Value))) hS rfl
  have k₂ : ∀ b o, s.heap.get? b = some o → ((s.heap.push (lstObj #[] 0)).update s.heap.objs.size (Obj.mapSeq (fun _ => (#[] : Array Value)))).get? b = some o :=
    fun b o e => (Heap.get?_update_other _ _ (Ne.symm (Nat.ne_of_lt (Heap.lt_size e)))).trans (Heap.get?_push_of_some _ e)
  generalize (s.heap.push (lstObj #[] 0)).update s.heap.objs.size (Obj.mapSeq (fun _ => (#[] : Array Value))) = h₂ at hS₂ k₂
  refine wpAny_bind (wpAny_letGo ?_)
  unfold Builtin.List.listExtendWith
  refine wpAny_bind (wpAny_typeOf (T := T) (s := { s with heap := h₂ }) ⟨oR, k₂ _ _ hr, hT⟩ ?_)
  have h1 : Builtin.List.listSameRef (.ref s.heap.objs.size) (.ref r) = false := by simp [Builtin.List.listSameRef, hrS.symm]
  simp only [h1, h2, h3, Bool.or_false, Bool.false_eq_true, if_false]
  refine wpAny_bind (hIter { s with heap := h₂ } _ _ k₂ ?_)
  have hSlt : s.heap.objs.size < h₂.objs.size := Heap.lt_size hS₂
  have k₃ : ∀ b o, s.heap.get? b = some o → (h₂.push itO).get? b = some o := fun b o e => Heap.get?_push_of_some _ (k₂ b o e)
  have hS₃ := Heap.get?_push_of_some itO hS₂
  have hI₃ : (h₂.push itO).get? h₂.objs.size = some itO := Heap.get?_push_size _ hfr
  have key : ∀ (h : Heap) (c₁ : Nat), (∀ b o, b ≠ s.heap.objs.size → (h₂.push itO).get? b = some o → h.get? b = some o) → h.get? s.heap.objs.size = some (lstObj #[] c₁) →
      codeAny (model prog w) A.in1 (.builtin "list.extend.loop" ⟨[.ref s.heap.objs.size, .ref h₂.objs.size, .none], []⟩)
        (fun r s' => match r with | .ok (.ret v) => v = .none ∧ Q (.ref s.heap.objs.size) s' | _ => False) { s with heap := h } := by
    intro h c₁ hk hSc
    refine extend_loop (s := s) (W h₂.objs.size s.heap.objs.size (Nat.ne_of_lt hSlt)) (Nat.ne_of_lt hSlt) hn .none (h₁ := s.heap) (fun h' acc c hl hk' hS' hz hI he => ⟨rfl, hQ h' acc c h₂.objs.size hl (fun b o e => hk' b o (Nat.ne_of_lt (Heap.lt_size e)) (Nat.ne_of_lt (Nat.lt_trans (Heap.lt_size e) hSlt)) e) hS' hz hSlt hI he⟩) (n - 0) h c₁ #[] rfl (Nat.zero_le _) ?_ (fun b o hb _ e => hk b o hb (k₃ b o e)) hSc
    exact h0 _ _ h hSlt (fun b o e => hk b o (Nat.ne_of_lt (Heap.lt_size e)) (k₃ b o e)) (hk _ _ (Nat.ne_of_gt hSlt) hI₃) (Nat.le_refl _)
  refine wpAny_bind (wpAny_holding (hHint { s with heap := h₂.push itO } _ _ k₃ ?_))
  refine wpAny_ite_split (fun _ => ?_) (fun _ => wpAny_pure ⟨plainId_quiet PySem.F.plain_extend_loop _, codeAny_mono (key _ _ (fun b o _ e => e) hS₃) fun q s' y => by
    cases q with
    | error e => exact y.elim
    | ok f => cases f with
      | ret v => obtain ⟨rfl, y⟩ := y; exact ⟨rfl, y⟩
      | _ => exact y.elim⟩)
  refine wpAny_bind (wpAny_rule ?_)
  refine wpAny_bind ?_
  show wpAny _ _ (updateSeq s.heap.objs.size (·.push .none) >>= fun _ => updateSeq s.heap.objs.size (·.pop)) _ _ _
  refine wpAny_bind (wpAny_updateSeq hS₃ rfl ?_)
  have hS₄ := Heap.get?_update_self (Obj.mapSeq (·.push Value.none)) hS₃ rfl
  refine wpAny_updateSeq (hz := by seq_fits) hS₄ rfl ?_
  have hS₅ := Heap.get?_update_self (Obj.mapSeq (·.pop)) hS₄ rfl
  refine wpAny_pure ⟨plainId_quiet PySem.F.plain_extend_loop _, codeAny_mono (key _ _ (fun b o hb e => ?_) hS₅) fun q s' y => by
    cases q with
    | error e => exact y.elim
    | ok f => cases f with
      | ret v => obtain ⟨rfl, y⟩ := y; exact ⟨rfl, y⟩
      | _ => exact y.elim⟩
  exact (Heap.get?_update_other _ _ (Ne.symm hb)).trans ((Heap.get?_update_other _ _ (Ne.symm hb)).trans e)
end
end At
end
section
open PySem PySem.W PySem.Calls PyProof.Rows
set_option Elab.async false
set_option maxRecDepth 100000
namespace At
section
variable {prog : Program} {w : World} {A : Around} {E : Value → Shared → Prop} {s : Shared} {r d : Addr} {es : Array DictEntry} {ep : Nat}
theorem len_keys : typeLookup (.type "dict_keys") "__len__" = pure (some (.builtin "dict_keys.__len__")) := by rw [typeLookup_type, builtinLookup_eq_fast]; kernel_rfl
theorem len_values : typeLookup (.type "dict_values") "__len__" = pure (some (.builtin "dict_values.__len__")) := by rw [typeLookup_type, builtinLookup_eq_fast]; kernel_rfl
theorem hint_keys (hT : s.TypeIs (.ref r) "dict_keys") {Q : Bool → Shared → Prop} (h : Q false s) : wpAny (model prog w) A (Builtin.List.listLengthHint (.ref r)) Q E s := by
  unfold Builtin.List.listLengthHint
  refine wpAny_bind (wpAny_specialOf hT len_keys ?_)
  generalize hid : ("dict_keys.__len__" : String) = id0
  wp_delta
  rw [show splitId id0 = some ("dict_keys", "__len__") from by subst hid; decide +kernel]
  subst hid
  refine wpAny_bind (wpAny_isInstance (T := "dict_keys") (b := true) hT (by rw [isSubtype_type]; kernel_rfl) ?_)
  refine wpAny_ite_split (fun hab => absurd hab (by decide)) (fun _ => ?_)
  refine wpAny_ite_split (fun _ => ?_) (fun hab => absurd (by decide +kernel) hab)
  exact wpAny_bind (wpAny_typeOf hT (wpAny_pure h))
theorem hint_values (hT : s.TypeIs (.ref r) "dict_values") {Q : Bool → Shared → Prop} (h : Q false s) : wpAny (model prog w) A (Builtin.List.listLengthHint (.ref r)) Q E s := by
  unfold Builtin.List.listLengthHint
  refine wpAny_bind (wpAny_specialOf hT len_values ?_)
  generalize hid : ("dict_values.__len__" : String) = id0
  wp_delta
  rw [show splitId id0 = some ("dict_values", "__len__") from by subst hid; decide +kernel]
  subst hid
  refine wpAny_bind (wpAny_isInstance (T := "dict_values") (b := true) hT (by rw [isSubtype_type]; kernel_rfl) ?_)
  refine wpAny_ite_split (fun hab => absurd hab (by decide)) (fun _ => ?_)
  refine wpAny_ite_split (fun _ => ?_) (fun hab => absurd (by decide +kernel) hab)
  exact wpAny_bind (wpAny_typeOf hT (wpAny_pure h))

theorem fresh_size {h : Heap} : h.get? h.objs.size = none := by
  cases e : h.get? h.objs.size with
  | none => rfl
  | some o => exact absurd (Heap.lt_size e) (Nat.lt_irrefl _)

theorem take_snoc {α : Type} {l : List α} {n : Nat} (h : n < l.length) : l.take (n + 1) = l.take n ++ [l[n]] := by rw [List.take_add_one, List.getElem?_eq_getElem h]; rfl

theorem list_keys {Q : Value → Shared → Prop} (hh : A.handled = none) (hr : s.heap.get? r = some { cls := .type "dict_keys", data := .fields #[.ref d] }) (hd : RawD s.heap d es ep) (hn : es.size ≤ sizeLine)
    (h : ∀ l c h', s.heap.get? l = none → s.heap.StaysIn h' → h'.get? l = some (lstObj (es.map (·.key)) c) → Q (.ref l) { s with heap := h' }) :
    wpAny (model prog w) A (call (.type "list") [.ref r]) Q E s := by
  refine list_view (T := "dict_keys") (itO := KIt d 0 es.size ep) hr rfl (by decide) (by decide) rfl
    (fun s' Q' E' hk hq => keys_iter (hk _ _ hr) (hk _ _ hd) hq) (fun s' Q' E' hk hq => hint_keys ⟨_, hk _ _ hr, rfl⟩ hq)
    (fun I S vs h => h.get? I = some (KIt d vs.length es.size ep) ∧ RawD h d es ep ∧ vs = (es.toList.map (·.key)).take vs.length ∧ d ≠ S ∧ I ≠ S ∧ d ≠ I) (n := es.size) ?_ hn ?_ ?_
  · intro I S hSI
    refine ⟨?_, ?_, ?_⟩
    · rintro vs s' Q' E' hlt ⟨hi, hD, hvs, hdS, hIS, hdI⟩ hq
      refine keys_next hi hD hlt fun h' hi' hs => hq _ h' ⟨?_, (hs.2 _ hdI).trans hD, ?_, hdS, hIS, hdI⟩ fun b o hb e => hs.extBut b o hb e
      · rw [List.length_append]; exact hi'
      · rw [List.length_append]
        show vs ++ [_] = List.take (vs.length + 1) _
        rw [take_snoc (by simpa using hlt), ← hvs]; simp
    · rintro vs s' Q' E' heq ⟨hi, hD, hvs, hdS, hIS, hdI⟩ hq
      rw [heq] at hi
      exact keys_end (A := A.in1.in1) hh hi hD fun h' he => hq h' he
    · rintro vs h h' ⟨hi, hD, hvs, hdS, hIS, hdI⟩ hk
      exact ⟨hk _ _ hIS hi, hk _ _ hdS hD, hvs, hdS, hIS, hdI⟩
  · intro I S h hlt hk hI hS
    have hl := Nat.lt_of_lt_of_le (Heap.lt_size hd) hS
    exact ⟨hI, hk _ _ hd, rfl, Nat.ne_of_lt hl, Nat.ne_of_gt hlt, Nat.ne_of_lt (Nat.lt_trans hl hlt)⟩
  · rintro h' acc c I hl hk hl' hz _ ⟨hi, hD, hvs, _⟩ _
    have e : acc = es.map (·.key) := by
      apply Array.toList_inj.mp
      rw [hvs, Array.toList_map, List.take_of_length_le]
      rw [List.length_map, Array.length_toList, Array.length_toList, hz]; exact Nat.le_refl _
    exact h _ c h' fresh_size hk (e ▸ hl')

theorem list_values {Q : Value → Shared → Prop} (hh : A.handled = none) (hr : s.heap.get? r = some { cls := .type "dict_values", data := .fields #[.ref d] }) (hd : RawD s.heap d es ep) (hn : es.size ≤ sizeLine)
    (h : ∀ l c h', s.heap.get? l = none → s.heap.StaysIn h' → h'.get? l = some (lstObj (es.map (·.val)) c) → Q (.ref l) { s with heap := h' }) :
    wpAny (model prog w) A (call (.type "list") [.ref r]) Q E s := by
  refine list_view (T := "dict_values") (itO := VIt d 0 es.size ep) hr rfl (by decide) (by decide) rfl
    (fun s' Q' E' hk hq => values_iter (hk _ _ hr) (hk _ _ hd) hq) (fun s' Q' E' hk hq => hint_values ⟨_, hk _ _ hr, rfl⟩ hq)
    (fun I S vs h => h.get? I = some (VIt d vs.length es.size ep) ∧ RawD h d es ep ∧ vs = (es.toList.map (·.val)).take vs.length ∧ d ≠ S ∧ I ≠ S ∧ d ≠ I) (n := es.size) ?_ hn ?_ ?_
  · intro I S hSI
    refine ⟨?_, ?_, ?_⟩
    · rintro vs s' Q' E' hlt ⟨hi, hD, hvs, hdS, hIS, hdI⟩ hq
      refine values_next hi hD hlt fun h' hi' hs => hq _ h' ⟨?_, (hs.2 _ hdI).trans hD, ?_, hdS, hIS, hdI⟩ fun b o hb e => hs.extBut b o hb e
      · rw [List.length_append]; exact hi'
      · rw [List.length_append]
        show vs ++ [_] = List.take (vs.length + 1) _
        rw [take_snoc (by simpa using hlt), ← hvs]; simp
    · rintro vs s' Q' E' heq ⟨hi, hD, hvs, hdS, hIS, hdI⟩ hq
      rw [heq] at hi
      exact values_end (A := A.in1.in1) hh hi hD fun h' he => hq h' he
    · rintro vs h h' ⟨hi, hD, hvs, hdS, hIS, hdI⟩ hk
      exact ⟨hk _ _ hIS hi, hk _ _ hdS hD, hvs, hdS, hIS, hdI⟩
  · intro I S h hlt hk hI hS
    have hl := Nat.lt_of_lt_of_le (Heap.lt_size hd) hS
    exact ⟨hI, hk _ _ hd, rfl, Nat.ne_of_lt hl, Nat.ne_of_gt hlt, Nat.ne_of_lt (Nat.lt_trans hl hlt)⟩
  · rintro h' acc c I hl hk hl' hz _ ⟨hi, hD, hvs, _⟩ _
    have e : acc = es.map (·.val) := by
      apply Array.toList_inj.mp
      rw [hvs, Array.toList_map, List.take_of_length_le]
      rw [List.length_map, Array.length_toList, Array.length_toList, hz]; exact Nat.le_refl _
    exact h _ c h' fresh_size hk (e ▸ hl')

abbrev pairObj (e : DictEntry) : Obj := { cls := .type "tuple", data := .seq #[e.key, e.val] }
/-- the list of a dict's items: as stand for the new tuples -/
theorem list_items {Q : Value → Shared → Prop} (hh : A.handled = none) (hr : s.heap.get? r = some { cls := .type "dict_items", data := .fields #[.ref d] }) (hd : RawD s.heap d es ep) (hn : es.size ≤ sizeLine)
    (h : ∀ l c h' (as : List Addr), s.heap.get? l = none → s.heap.StaysIn h' → h'.get? l = some (lstObj (as.map Value.ref).toArray c) → as.length = es.size → (∀ (i : Nat) a, as[i]? = some a → ∃ e, es[i]? = some e ∧ h'.get? a = some (pairObj e) ∧ s.heap.get? a = none) → Q (.ref l) { s with heap := h' }) :
    wpAny (model prog w) A (call (.type "list") [.ref r]) Q E s := by
  refine list_view (T := "dict_items") (itO := TIt d 0 es.size ep .none false .none .none) hr rfl (by decide) (by decide) rfl
    (fun s' Q' E' hk hq => items_iter (hk _ _ hr) (hk _ _ hd) hq) (fun s' Q' E' hk hq => kdx_hint ⟨_, hk _ _ hr, rfl⟩ hq)
    (fun I S vs h => ∃ as : List Addr, vs = as.map Value.ref ∧ (∃ own f ok ov, h.get? I = some (TIt d vs.length es.size ep own f ok ov) ∧ ((own = .none ∧ f = false) ∨ ∃ a oa, own = rawInt (a : Nat) ∧ h.get? a = some oa ∧ a ≠ I ∧ a ≠ S)) ∧
      RawD h d es ep ∧ (∀ (i : Nat) a, as[i]? = some a → ∃ e, es[i]? = some e ∧ h.get? a = some (pairObj e) ∧ a ≠ S ∧ a ≠ I ∧ s.heap.get? a = none) ∧ d ≠ S ∧ I ≠ S ∧ d ≠ I ∧ S < I ∧ s.heap.objs.size ≤ S ∧ vs.length ≤ es.size) (n := es.size) ?_ hn ?_ ?_
  · intro I S hSI
    refine ⟨?_, ?_, ?_⟩
    · rintro vs s' Q' E' hlt ⟨as, rfl, ⟨own, f, ok, ov, hi, ho⟩, hD, has, hdS, hIS, hdI, hSl, hsS, hle⟩ hq
      refine items_next hi hD hlt (ho.imp id fun ⟨a, oa, e1, e2, e3, _⟩ => ⟨a, oa, e1, e2, e3⟩) fun h' own' f' ok' ov' hi' hc ht hk => hq _ h' ?_ hk
      have hTI : s'.heap.objs.size ≠ I := Nat.ne_of_gt (Heap.lt_size hi)
      have hTS : s'.heap.objs.size ≠ S := Nat.ne_of_gt (Nat.lt_trans hSl (Heap.lt_size hi))
      refine ⟨as ++ [s'.heap.objs.size], by simp, ⟨own', f', ok', ov', by rw [List.length_append]; exact hi', ?_⟩, hk _ _ hdI hD, ?_, hdS, hIS, hdI, hSl, hsS, by rw [List.length_append]; exact hlt⟩
      · rcases ho with ⟨rfl, rfl⟩ | ⟨a, oa, rfl, ha, hai, haS⟩
        · obtain ⟨rfl, rfl⟩ := hc.1 rfl
          exact .inr ⟨s'.heap.objs.size, _, rfl, ht, hTI, hTS⟩
        · obtain rfl := hc.2 (by intro x; cases x)
          exact .inr ⟨a, oa, rfl, hk _ _ hai ha, hai, haS⟩
      · intro i a hia
        rcases Nat.lt_trichotomy i as.length with h1 | h1 | h1
        · rw [List.getElem?_append_left h1] at hia
          obtain ⟨e, e1, e2, e3, e4, e5⟩ := has i a hia
          exact ⟨e, e1, hk _ _ e4 e2, e3, e4, e5⟩
        · subst h1
          have : s'.heap.objs.size = a := by simpa using hia
          subst this
          have hl2 : as.length < es.size := by simpa using hlt
          refine ⟨es[as.length], by simp [hl2], ?_, hTS, hTI, ?_⟩
          · simpa using ht
          · cases q : s.heap.get? s'.heap.objs.size with
            | none => rfl
            | some o => exact absurd (Nat.lt_of_lt_of_le (Heap.lt_size q) hsS) (Nat.not_lt.mpr (Nat.le_of_lt (Nat.lt_trans hSl (Heap.lt_size hi))))
        · have hnone : (as ++ [s'.heap.objs.size])[i]? = none := List.getElem?_eq_none (by rw [List.length_append, List.length_singleton]; omega)
          rw [hnone] at hia; cases hia
    · rintro vs s' Q' E' heq ⟨as, rfl, ⟨own, f, ok, ov, hi, ho⟩, hD, has, hdS, hIS, hdI, hSl, hsS, hle⟩ hq
      rw [heq] at hi
      exact items_end (A := A.in1.in1) hh hi hD fun h' he => hq h' he
    · rintro vs h h' ⟨as, rfl, ⟨own, f, ok, ov, hi, ho⟩, hD, has, hdS, hIS, hdI, hSl, hsS, hle⟩ hk
      refine ⟨as, rfl, ⟨own, f, ok, ov, hk _ _ hIS hi, ho.imp id fun ⟨a, oa, e1, e2, e3, e4⟩ => ⟨a, oa, e1, hk _ _ e4 e2, e3, e4⟩⟩, hk _ _ hdS hD, fun i a hia => ?_, hdS, hIS, hdI, hSl, hsS, hle⟩
      obtain ⟨e, e1, e2, e3, e4, e5⟩ := has i a hia
      exact ⟨e, e1, hk _ _ e3 e2, e3, e4, e5⟩
  · intro I S h hlt hk hI hS
    have hl := Nat.lt_of_lt_of_le (Heap.lt_size hd) hS
    exact ⟨[], rfl, ⟨.none, false, .none, .none, hI, .inl ⟨rfl, rfl⟩⟩, hk _ _ hd, (fun i a hia => by simp at hia), Nat.ne_of_lt hl, Nat.ne_of_gt hlt, Nat.ne_of_lt (Nat.lt_trans hl hlt), hlt, hS, Nat.zero_le _⟩
  · rintro h' acc c I hl hk hl' hz _ ⟨as, hvs, _, hD, has, _⟩ he
    refine h _ c h' as fresh_size hk ?_ ?_ fun i a hia => ?_
    · rw [hl', ← hvs]
    · have := congrArg List.length hvs; simpa [hz] using this.symm
    · obtain ⟨e, e1, e2, e3, e4, e5⟩ := has i a hia
      exact ⟨e, e1, he _ _ e4 e2, e5⟩
end
end At
end
section
open PySem PySem.W PySem.Calls PyProof.Rows
set_option Elab.async false
set_option maxRecDepth 100000
namespace At
section
variable {prog : Program} {w : World} {A : Around} {E : Value → Shared → Prop} {s : Shared} {env : Env} {h₀ : Heap} {target : PySem.Expr} {I l d : Addr}

theorem letOwned_quiet {M : Model} {o : Obj} {n : String} {v : Value} {Q : Unit → Shared → Prop} (ho : s.heap.get? I = some o) (hc : o.cls = .type n)
    (hn : (["enumerate", "zip", "dict_itemiterator", "dict_reverseitemiterator", "odict_iterator", "itertools.zip_longest", "itertools.pairwise"] : List String).contains n = false) (hQ : Q () s) :
    wpAny M A (letOwnedTupleGo target (.ref I) v) Q E s := by
  have body : wpAny M A (do
      let (.ref r, .ref a) := ((Value.ref I), v) | return
      let o ← load r
      match o.cls, o.data with
      | .type n, .fields vs =>
        if ["enumerate", "zip", "dict_itemiterator", "dict_reverseitemiterator", "odict_iterator", "itertools.zip_longest", "itertools.pairwise"].contains n && vs[0]? == some (rawInt a) then
          rule "for.unpacks-the-owned-tuple"
          updateField r 0 .none
      | _, _ => pure ()) Q E s := by
    cases v with
    | ref a =>
      refine wpAny_bind (wpAny_load ho ?_)
      rw [hc]
      cases o.data with
      | fields vs => simp only [hn, Bool.false_and, Bool.false_eq_true, if_false]; exact wpAny_pure hQ
      | _ => exact wpAny_pure hQ
    | _ => exact wpAny_pure hQ
  unfold letOwnedTupleGo
  split
  · exact body
  · exact body
  · exact wpAny_pure hQ

theorem draws_list {vs : List Value} {Sx : Heap → Prop} {U : Nat → ((Str → Option Value) → Str → Option Value) → Prop} (hh : A.handled = none) (hIl : I ≠ l)
    (hSl : ∀ h, Sx h → h.IsList l vs.toArray) (hSk : ∀ h h', Sx h → (∀ b x, b ≠ I → h.get? b = some x → h'.get? b = some x) → Sx h')
    (hI0 : h₀.get? I = none)
    (hasg : ∀ (i : Nat) v (s : Shared) m (Q : Unit → Shared → Prop), vs[i]? = some v → Sx s.heap → Fr h₀ env.locals s.heap m →
      (∀ u h' tk, U i u → Fr h₀ env.locals h' (u m) → (∀ b x, b ≠ env.locals → s.heap.get? b = some x → h'.get? b = some x) → Q () { s with heap := h', toks := tk }) → wpAny (model prog w) A (assign target env v) Q noE s) :
    Draws prog w A env h₀ target I vs.length (fun i o => o.cls = .type "list_iterator" ∧ o.data = .fields #[.ref l, .int i 0]) Sx U where
  item := fun i s m o Q hi ho hit hS hIL F hQ => by
    have hl := hSl _ hS
    refine wpAny_pyNext_list_item ⟨o, ho, hit.1, hit.2⟩ hl (x := vs[i]) (by simp [hi]) fun h₁ hit₁ hs₁ => ?_
    obtain ⟨o₁, ho₁, hc₁, hd₁⟩ := hit₁
    have k₁ : ∀ b x, b ≠ I → s.heap.get? b = some x → h₁.get? b = some x := fun b x hb e => (hs₁.2 b hb).trans e
    refine letOwned_quiet (s := { s with heap := h₁ }) ho₁ hc₁ (by decide) ?_
    have F₁ : Fr h₀ env.locals h₁ m := ⟨F.ns.at' fun o e => k₁ _ o (Ne.symm hIL) e, fun b o e => k₁ b o (fun q => by rw [q, hI0] at e; cases e) (F.keep b o e), F.above⟩
    exact hasg i vs[i] { s with heap := h₁ } m Q (by simp [hi]) (hSk _ _ hS k₁) F₁ fun u h' tk hu F' k' => hQ u h' tk o₁ hu (k' I o₁ hIL ho₁) ⟨hc₁, hd₁⟩ F' fun b x hb hbI e => k' b x hb (k₁ b x hbI e)
  done := fun s o Q ho hit hS hQ => wpAny_pyNext_list_end hh ⟨o, ho, hit.1, hit.2⟩ (hSl _ hS) (by simp) fun h' he => hQ h' s.toks fun b x hb e => he b x hb e

/-- for x in l -/
theorem draws_list1 {vs : List Value} {Sx : Heap → Prop} {x : Str} {px : Pos} (hh : A.handled = none) (hIl : I ≠ l) (hSl : ∀ h, Sx h → h.IsList l vs.toArray) (hSk : ∀ h h', Sx h → (∀ b x, b ≠ I → h.get? b = some x → h'.get? b = some x) → Sx h')
    (hI0 : h₀.get? I = none) (hk : env.scope.kind = .function) (hx : env.kindOf x = some .local) :
    Draws prog w A env h₀ (.Name x px) I vs.length (fun i o => o.cls = .type "list_iterator" ∧ o.data = .fields #[.ref l, .int i 0]) Sx (fun i u => ∃ v, vs[i]? = some v ∧ u = fun m y => if y = x then some v else m y) :=
  draws_list hh hIl hSl hSk hI0 fun i v s m Q hv _ F hQ => assign1 hk hx F fun h' tk F' k' => hQ _ h' tk ⟨v, hv, rfl⟩ F' k'
/-- for x, y in l: ps are the pairs -/
theorem draws_list2 {vs : List Value} {ps : List (Value × Value)} {Sx : Heap → Prop} {x y : Str} {px py pt : Pos} {x1 : Nat} (hh : A.handled = none) (hIl : I ≠ l) (hSl : ∀ h, Sx h → h.IsList l vs.toArray) (hSk : ∀ h h', Sx h → (∀ b x, b ≠ I → h.get? b = some x → h'.get? b = some x) → Sx h')
    (hI0 : h₀.get? I = none) (hk : env.scope.kind = .function) (hx : env.kindOf x = some .local) (hy : env.kindOf y = some .local)
    (hps : ∀ (i : Nat) v h, vs[i]? = some v → Sx h → ∃ a p, v = .ref a ∧ ps[i]? = some p ∧ h.IsTuple a #[p.1, p.2]) :
    Draws prog w A env h₀ (.Tuple [.Name x px, .Name y py] x1 pt) I vs.length (fun i o => o.cls = .type "list_iterator" ∧ o.data = .fields #[.ref l, .int i 0]) Sx
      (fun i u => ∃ p, ps[i]? = some p ∧ u = fun m z => if z = y then some p.2 else if z = x then some p.1 else m z) :=
  draws_list hh hIl hSl hSk hI0 fun i v s m Q hv hS F hQ => by
    obtain ⟨a, p, rfl, hp, ht⟩ := hps i v _ hv hS
    exact assign2 hh hk hx hy F ht fun h' tk F' k' => hQ _ h' tk ⟨p, hp, rfl⟩ F' k'
theorem draws_list3 {vs : List Value} {ps : List (Value × Value × Value)} {Sx : Heap → Prop} {x y z : Str} {px py pz pt : Pos} {x1 : Nat} (hh : A.handled = none) (hIl : I ≠ l) (hSl : ∀ h, Sx h → h.IsList l vs.toArray) (hSk : ∀ h h', Sx h → (∀ b x, b ≠ I → h.get? b = some x → h'.get? b = some x) → Sx h')
    (hI0 : h₀.get? I = none) (hk : env.scope.kind = .function) (hx : env.kindOf x = some .local) (hy : env.kindOf y = some .local) (hz : env.kindOf z = some .local)
    (hps : ∀ (i : Nat) v h, vs[i]? = some v → Sx h → ∃ a p, v = .ref a ∧ ps[i]? = some p ∧ h.IsTuple a #[p.1, p.2.1, p.2.2]) :
    Draws prog w A env h₀ (.Tuple [.Name x px, .Name y py, .Name z pz] x1 pt) I vs.length (fun i o => o.cls = .type "list_iterator" ∧ o.data = .fields #[.ref l, .int i 0]) Sx
      (fun i u => ∃ p, ps[i]? = some p ∧ u = fun m k => if k = z then some p.2.2 else if k = y then some p.2.1 else if k = x then some p.1 else m k) :=
  draws_list hh hIl hSl hSk hI0 fun i v s m Q hv hS F hQ => by
    obtain ⟨a, p, rfl, hp, ht⟩ := hps i v _ hv hS
    exact assign3 hh hk hx hy hz F ht fun h' tk F' k' => hQ _ h' tk ⟨p, hp, rfl⟩ F' k'

/-- for x, y in d.items() -/
theorem draws_items {es : Array DictEntry} {ep : Nat} {Sx : Heap → Prop} {x y : Str} {px py pt : Pos} {x1 : Nat} (hh : A.handled = none) (hId : I ≠ d) (hSd : ∀ h, Sx h → RawD h d es ep) (hSk : ∀ h h', Sx h → (∀ b x, b ≠ I → h.get? b = some x → h'.get? b = some x) → Sx h')
    (hI0 : h₀.get? I = none) (hk : env.scope.kind = .function) (hx : env.kindOf x = some .local) (hy : env.kindOf y = some .local) :
    Draws prog w A env h₀ (.Tuple [.Name x px, .Name y py] x1 pt) I es.size (fun i o => ∃ ok ov, o = TIt d i es.size ep .none false ok ov) Sx
      (fun i u => ∃ e, es[i]? = some e ∧ u = fun m z => if z = y then some e.val else if z = x then some e.key else m z) where
  item := fun i s m o Q hi ho hit hS hIL F hQ => by
    obtain ⟨ok, ov, rfl⟩ := hit
    have hil : I < s.heap.objs.size := Heap.lt_size ho
    refine items_next ho (hSd _ hS) hi (.inl ⟨rfl, rfl⟩) fun h₁ own' f' ok' ov' hi₁ hc ht₁ k₁ => ?_
    obtain ⟨rfl, rfl⟩ := hc.1 rfl
    refine wpAny_letOwnedTupleGo_items (s := { s with heap := h₁ }) (i := i + 1) (n := es.size) (ep := ep) (d := d) hi₁ fun h₂ hi₂ hs₂ => ?_
    replace hs₂ : Heap.SameBut I h₁ h₂ := hs₂
    have k₂ : ∀ b x, b ≠ I → s.heap.get? b = some x → h₂.get? b = some x := fun b x hb e => (hs₂.2 b hb).trans (k₁ b x hb e)
    have F₂ : Fr h₀ env.locals h₂ m := ⟨F.ns.at' fun o e => k₂ _ o (Ne.symm hIL) e, fun b o e => k₂ b o (fun q => by rw [q, hI0] at e; cases e) (F.keep b o e), F.above⟩
    have ht₂ : h₂.IsTuple s.heap.objs.size #[es[i].key, es[i].val] := ⟨_, (hs₂.2 _ (Nat.ne_of_gt hil)).trans ht₁, rfl, _, rfl⟩
    exact assign2 (s := { s with heap := h₂ }) hh hk hx hy F₂ ht₂ fun h' tk F' k' => hQ _ h' tk _ ⟨es[i], by simp [hi], rfl⟩ (k' I _ hIL hi₂) ⟨ok', ov', rfl⟩ F' fun b z hb hbI e => k' b z hb (k₂ b z hbI e)
  done := fun s o Q ho hit hS hQ => by
    obtain ⟨ok, ov, rfl⟩ := hit
    exact items_end hh ho (hSd _ hS) fun h' he => hQ h' s.toks fun b x hb e => he b x hb e

/-- for x in range(n) -/
theorem draws_range {n : Nat} {x : Str} {px : Pos} (hh : A.handled = none) (hI0 : h₀.get? I = none) (hk : env.scope.kind = .function) (hx : env.kindOf x = some .local) :
    Draws prog w A env h₀ (.Name x px) I n (fun i o => o = { cls := .type "range_iterator", data := .fields #[rawInt (i : Nat), rawInt ((n : Int) - (i : Nat)), rawInt 1] }) (fun _ => True)
      (fun i u => ∃ t, u = fun m y => if y = x then some (.int (i : Nat) t) else m y) where
  item := fun i s m o Q hi ho hit _ hIL F hQ => by
    subst hit
    refine wpAny_pyNext_range_item (x := (i : Nat)) (left := (n : Int) - (i : Nat)) (step := 1) ho (by omega) fun h₁ hi₁ hs₁ => ?_
    refine letOwned_quiet (s := { s with heap := h₁, toks := s.toks + 1 }) hi₁ rfl (by decide) ?_
    have k₁ : ∀ b x, b ≠ I → s.heap.get? b = some x → h₁.get? b = some x := fun b x hb e => (hs₁.2 b hb).trans e
    have F₁ : Fr h₀ env.locals h₁ m := ⟨F.ns.at' fun o e => k₁ _ o (Ne.symm hIL) e, fun b o e => k₁ b o (fun q => by rw [q, hI0] at e; cases e) (F.keep b o e), F.above⟩
    refine assign1 (s := { s with heap := h₁, toks := s.toks + 1 }) hk hx F₁ fun h' tk F' k' => hQ _ h' tk _ ⟨_, rfl⟩ (k' I _ hIL hi₁) ?_ F' fun b z hb hbI e => k' b z hb (k₁ b z hbI e)
    have e1 : ((i + 1 : Nat) : Int) = (i : Int) + 1 := by push_cast; rfl
    have e2 : (n : Int) - ((i + 1 : Nat) : Int) = (n : Int) - (i : Int) - 1 := by push_cast; omega
    rw [e2, e1]
  done := fun s o Q ho hit _ hQ => by
    subst hit
    exact wpAny_pyNext_range_end hh ho (by omega) fun h' he => hQ h' s.toks fun b x hb e => he b x hb e
end
end At
end
section
open PySem PySem.W PySem.Calls PyProof.Rows
set_option Elab.async false
set_option maxRecDepth 100000
set_option linter.unusedVariables false
namespace At
/-- a turn's end where the ledger's part 'need' is kept -/
def PurePost (h₀ : Heap) (L : Addr) (need : List (Addr × Obj)) (Jm : (Str → Option Value) → Prop) (s : Shared) (Q : Flow → Shared → Prop) (f : Flow) (s₂ : Shared) : Prop :=
  match f with
  | .ret v => Q (.ret v) s₂
  | .brk => Q .next s₂
  | _ => ∃ h' tk m₂ news₂, s₂ = { s with heap := h', toks := tk } ∧ Fr h₀ L h' m₂ ∧ News h₀ L h' news₂ ∧ (∀ p ∈ need, p ∈ news₂) ∧ Jm m₂
theorem PurePost.next {h₀ : Heap} {L : Addr} {need news₂ : List (Addr × Obj)} {Jm : (Str → Option Value) → Prop} {s : Shared} {Q : Flow → Shared → Prop} {h' : Heap} {tk : Nat} {m₂ : Str → Option Value}
    (F : Fr h₀ L h' m₂) (N : News h₀ L h' news₂) (hn : ∀ p ∈ need, p ∈ news₂) (hJ : Jm m₂) : PurePost h₀ L need Jm s Q .next { s with heap := h', toks := tk } := ⟨h', tk, m₂, news₂, rfl, F, N, hn, hJ⟩
theorem PurePost.cont {h₀ : Heap} {L : Addr} {need news₂ : List (Addr × Obj)} {Jm : (Str → Option Value) → Prop} {s : Shared} {Q : Flow → Shared → Prop} {h' : Heap} {tk : Nat} {m₂ : Str → Option Value}
    (F : Fr h₀ L h' m₂) (N : News h₀ L h' news₂) (hn : ∀ p ∈ need, p ∈ news₂) (hJ : Jm m₂) : PurePost h₀ L need Jm s Q .cont { s with heap := h', toks := tk } := ⟨h', tk, m₂, news₂, rfl, F, N, hn, hJ⟩

def Kept (h₀ : Heap) (news : List (Addr × Obj)) (h : Heap) : Prop := h₀.StaysIn h ∧ ∀ p ∈ news, h.get? p.1 = some p.2

section
variable {prog : Program} {w : World} {A : Around} {E : Value → Shared → Prop} {s : Shared} {env : Env} {h₀ : Heap} {target : PySem.Expr} {body : List Stmt} {l d v : Addr} {m : Str → Option Value} {news : List (Addr × Obj)} {Q : Flow → Shared → Prop} {n : Nat}
abbrev ForEnd (prog : Program) (w : World) (A : Around) (env : Env) (E : Value → Shared → Prop) (Q : Flow → Shared → Prop) : Result → Shared → Prop := fun r s' => match r with | .ok f => Q f s' | .error e => cameBackBy (model prog w) A env E e s'

/-- what all loops have in common: an iterator was made -/
theorem pure_loop {It : Nat → Obj → Prop} {U : Nat → ((Str → Option Value) → Str → Option Value) → Prop} {o₀ : Obj} (hfr : o₀.isFreed = false)
    (D : Draws prog w A env h₀ target s.heap.objs.size n It (Kept h₀ news) U) (hIt : It 0 o₀)
    (F : Fr h₀ env.locals s.heap m) (N : News h₀ env.locals s.heap news) (Jm : Nat → (Str → Option Value) → Prop) (h0 : Jm 0 m)
    (step : ∀ i u m₁ h tk o, i < n → U i u → Jm i m₁ → Fr h₀ env.locals h (u m₁) → News h₀ env.locals h ((s.heap.objs.size, o) :: news) →
      wpAny (model prog w) A (execs body env) (PurePost h₀ env.locals ((s.heap.objs.size, o) :: news) (Jm (i + 1)) s Q) noE { s with heap := h, toks := tk })
    (hR : ∀ h' tk m', Fr h₀ env.locals h' m' → News h₀ env.locals h' news → Jm n m' → Q .next { s with heap := h', toks := tk }) :
    codeAny (model prog w) A (.forLoop target (.ref s.heap.objs.size) body [] env) (ForEnd prog w A env E Q) { s with heap := s.heap.push o₀ } := by
  have hnI : ∀ p ∈ news, p.1 ≠ s.heap.objs.size := fun p hp => Nat.ne_of_lt (Heap.lt_size (N p hp).1)
  refine for_loop (s := { s with heap := s.heap.push o₀ }) D (fun i m' news' => (∀ p ∈ news, p ∈ news') ∧ Jm i m') (Heap.get?_push_size _ hfr) hIt (Nat.ne_of_gt F.ns.lt) (next_is_new F) (F.push _)
    (fun p hp => ⟨Heap.get?_push_of_some _ (N p hp).1, (N p hp).2⟩) hnI (fun i m' news' h' hJ F' N' => ⟨F'.keep, fun p hp => (N' p (hJ.1 p hp)).1⟩) ⟨fun _ hp => hp, h0⟩ ?_ ?_
  · rintro i u m₁ news₁ h tk o hi hu ⟨hn₁, hJ⟩ hnI₁ F₁ N₁
    have N₂ : News h₀ env.locals h ((s.heap.objs.size, o) :: news) := news_sub N₁ fun p hp => by
      rcases List.mem_cons.mp hp with rfl | hp
      · exact .head _
      · exact .tail _ (hn₁ p hp)
    refine wpAny_mono (step i u m₁ h tk o hi hu hJ F₁ N₂) (fun f s₂ h₂ => ?_) fun _ _ x => x
    have fin : (∃ h' tk m₂ news₂, s₂ = { s with heap := h', toks := tk } ∧ Fr h₀ env.locals h' m₂ ∧ News h₀ env.locals h' news₂ ∧ (∀ p ∈ (s.heap.objs.size, o) :: news, p ∈ news₂) ∧ Jm (i + 1) m₂) →
        ∃ h' tk m₂ news₂, s₂ = { ({ s with heap := s.heap.push o₀ } : Shared) with heap := h', toks := tk } ∧ Fr h₀ env.locals h' m₂ ∧ News h₀ env.locals h' ((s.heap.objs.size, o) :: news₂) ∧ (∀ p ∈ news₂, p.1 ≠ s.heap.objs.size) ∧ ((∀ p ∈ news, p ∈ news₂) ∧ Jm (i + 1) m₂) := by
      rintro ⟨h', tk', m₂, news₂, e, F', N', hn', hJ'⟩
      exact ⟨h', tk', m₂, news, e, F', news_sub N' hn', hnI, fun _ hp => hp, hJ'⟩
    cases f with
    | ret v => exact h₂
    | brk => exact h₂
    | next => exact fin h₂
    | cont => exact fin h₂
  · rintro h' tk m' news' F' N' ⟨hn', hJ'⟩
    exact hR h' tk m' F' (news_sub N' hn') hJ'

theorem kept_mono (F : Fr h₀ env.locals s.heap m) (N : News h₀ env.locals s.heap news) : ∀ h h', Kept h₀ news h → (∀ b x, b ≠ s.heap.objs.size → h.get? b = some x → h'.get? b = some x) → Kept h₀ news h' :=
  fun h h' k hk => ⟨fun b o e => hk b o (fun q => by rw [q, next_is_new F] at e; cases e) (k.1 b o e), fun p hp => hk _ _ (Nat.ne_of_lt (Heap.lt_size (N p hp).1)) (k.2 p hp)⟩

/-- where the list stands: in the base or in the ledger -/
def ListK (h₀ : Heap) (news : List (Addr × Obj)) (l : Addr) (vs : List Value) : Prop := ∀ h, Kept h₀ news h → h.IsList l vs.toArray
theorem listK_base {vs : List Value} (h : h₀.IsList l vs.toArray) : ListK h₀ news l vs := fun h' k => let ⟨o, ho, r⟩ := h; ⟨o, k.1 _ _ ho, r⟩
theorem listK_news {its : Array Value} {vs : List Value} {c : Nat} (h : (l, lstObj its c) ∈ news) (e : its = vs.toArray) : ListK h₀ news l vs := fun h' k => ⟨_, k.2 _ h, rfl, c, by rw [e]⟩
theorem kept_here (F : Fr h₀ env.locals s.heap m) (N : News h₀ env.locals s.heap news) : Kept h₀ news s.heap := ⟨F.keep, fun p hp => (N p hp).1⟩

theorem iter_list1 {vs : List Value} {x : Str} {px : Pos} (hh : A.handled = none) (hk : env.scope.kind = .function) (hx : env.kindOf x = some .local) (hl : ListK h₀ news l vs)
    (F : Fr h₀ env.locals s.heap m) (N : News h₀ env.locals s.heap news) (Jm : Nat → (Str → Option Value) → Prop) (h0 : Jm 0 m)
    (step : ∀ (i : Nat) v m₁ h tk o, vs[i]? = some v → Jm i m₁ → Fr h₀ env.locals h (fun y => if y = x then some v else m₁ y) → News h₀ env.locals h ((s.heap.objs.size, o) :: news) →
      wpAny (model prog w) A (execs body env) (PurePost h₀ env.locals ((s.heap.objs.size, o) :: news) (Jm (i + 1)) s Q) noE { s with heap := h, toks := tk })
    (hR : ∀ h' tk m', Fr h₀ env.locals h' m' → News h₀ env.locals h' news → Jm vs.length m' → Q .next { s with heap := h', toks := tk }) :
    wpAny (model prog w) A (pyIter (.ref l)) (fun it s₂ => codeAny (model prog w) A (.forLoop (.Name x px) it body [] env) (ForEnd prog w A env E Q) s₂) E s := by
  have hls := hl _ (kept_here F N)
  refine wpAny_pyIter_list hls ?_
  have hne : s.heap.objs.size ≠ l := let ⟨_, ho, _⟩ := hls; Nat.ne_of_gt (Heap.lt_size ho)
  exact pure_loop rfl (draws_list1 hh hne (fun h k => hl h k) (kept_mono F N) (next_is_new F) hk hx) ⟨rfl, rfl⟩ F N Jm h0 (fun i u m₁ h tk o hi ⟨v, hv, e⟩ hJ F₁ N₁ => step i v m₁ h tk o hv hJ (by subst e; exact F₁) N₁) hR

theorem iter_list2 {vs : List Value} {ps : List (Value × Value)} {x y : Str} {px py pt : Pos} {x1 : Nat} (hh : A.handled = none) (hk : env.scope.kind = .function) (hx : env.kindOf x = some .local) (hy : env.kindOf y = some .local) (hl : ListK h₀ news l vs)
    (hps : ∀ (i : Nat) v h, vs[i]? = some v → Kept h₀ news h → ∃ a p, v = .ref a ∧ ps[i]? = some p ∧ h.IsTuple a #[p.1, p.2])
    (F : Fr h₀ env.locals s.heap m) (N : News h₀ env.locals s.heap news) (Jm : Nat → (Str → Option Value) → Prop) (h0 : Jm 0 m)
    (step : ∀ (i : Nat) p m₁ h tk o, i < vs.length → ps[i]? = some p → Jm i m₁ → Fr h₀ env.locals h (fun z => if z = y then some p.2 else if z = x then some p.1 else m₁ z) → News h₀ env.locals h ((s.heap.objs.size, o) :: news) →
      wpAny (model prog w) A (execs body env) (PurePost h₀ env.locals ((s.heap.objs.size, o) :: news) (Jm (i + 1)) s Q) noE { s with heap := h, toks := tk })
    (hR : ∀ h' tk m', Fr h₀ env.locals h' m' → News h₀ env.locals h' news → Jm vs.length m' → Q .next { s with heap := h', toks := tk }) :
    wpAny (model prog w) A (pyIter (.ref l)) (fun it s₂ => codeAny (model prog w) A (.forLoop (.Tuple [.Name x px, .Name y py] x1 pt) it body [] env) (ForEnd prog w A env E Q) s₂) E s := by
  have hls := hl _ (kept_here F N)
  refine wpAny_pyIter_list hls ?_
  have hne : s.heap.objs.size ≠ l := let ⟨_, ho, _⟩ := hls; Nat.ne_of_gt (Heap.lt_size ho)
  exact pure_loop rfl (draws_list2 hh hne (fun h k => hl h k) (kept_mono F N) (next_is_new F) hk hx hy hps) ⟨rfl, rfl⟩ F N Jm h0 (fun i u m₁ h tk o hi ⟨v, hv, e⟩ hJ F₁ N₁ => step i v m₁ h tk o hi hv hJ (by subst e; exact F₁) N₁) hR

theorem iter_list3 {vs : List Value} {ps : List (Value × Value × Value)} {x y z : Str} {px py pz pt : Pos} {x1 : Nat} (hh : A.handled = none) (hk : env.scope.kind = .function) (hx : env.kindOf x = some .local) (hy : env.kindOf y = some .local) (hz : env.kindOf z = some .local) (hl : ListK h₀ news l vs)
    (hps : ∀ (i : Nat) v h, vs[i]? = some v → Kept h₀ news h → ∃ a p, v = .ref a ∧ ps[i]? = some p ∧ h.IsTuple a #[p.1, p.2.1, p.2.2])
    (F : Fr h₀ env.locals s.heap m) (N : News h₀ env.locals s.heap news) (Jm : Nat → (Str → Option Value) → Prop) (h0 : Jm 0 m)
    (step : ∀ (i : Nat) p m₁ h tk o, i < vs.length → ps[i]? = some p → Jm i m₁ → Fr h₀ env.locals h (fun k => if k = z then some p.2.2 else if k = y then some p.2.1 else if k = x then some p.1 else m₁ k) → News h₀ env.locals h ((s.heap.objs.size, o) :: news) →
      wpAny (model prog w) A (execs body env) (PurePost h₀ env.locals ((s.heap.objs.size, o) :: news) (Jm (i + 1)) s Q) noE { s with heap := h, toks := tk })
    (hR : ∀ h' tk m', Fr h₀ env.locals h' m' → News h₀ env.locals h' news → Jm vs.length m' → Q .next { s with heap := h', toks := tk }) :
    wpAny (model prog w) A (pyIter (.ref l)) (fun it s₂ => codeAny (model prog w) A (.forLoop (.Tuple [.Name x px, .Name y py, .Name z pz] x1 pt) it body [] env) (ForEnd prog w A env E Q) s₂) E s := by
  have hls := hl _ (kept_here F N)
  refine wpAny_pyIter_list hls ?_
  have hne : s.heap.objs.size ≠ l := let ⟨_, ho, _⟩ := hls; Nat.ne_of_gt (Heap.lt_size ho)
  exact pure_loop rfl (draws_list3 hh hne (fun h k => hl h k) (kept_mono F N) (next_is_new F) hk hx hy hz hps) ⟨rfl, rfl⟩ F N Jm h0 (fun i u m₁ h tk o hi ⟨v, hv, e⟩ hJ F₁ N₁ => step i v m₁ h tk o hi hv hJ (by subst e; exact F₁) N₁) hR

theorem iter_items {es : Array DictEntry} {ep : Nat} {x y : Str} {px py pt : Pos} {x1 : Nat} (hh : A.handled = none) (hk : env.scope.kind = .function) (hx : env.kindOf x = some .local) (hy : env.kindOf y = some .local)
    (hv : s.heap.get? v = some { cls := .type "dict_items", data := .fields #[.ref d] }) (hd : ∀ h, Kept h₀ news h → RawD h d es ep)
    (F : Fr h₀ env.locals s.heap m) (N : News h₀ env.locals s.heap news) (Jm : Nat → (Str → Option Value) → Prop) (h0 : Jm 0 m)
    (step : ∀ (i : Nat) e m₁ h tk o, es[i]? = some e → Jm i m₁ → Fr h₀ env.locals h (fun z => if z = y then some e.val else if z = x then some e.key else m₁ z) → News h₀ env.locals h ((s.heap.objs.size, o) :: news) →
      wpAny (model prog w) A (execs body env) (PurePost h₀ env.locals ((s.heap.objs.size, o) :: news) (Jm (i + 1)) s Q) noE { s with heap := h, toks := tk })
    (hR : ∀ h' tk m', Fr h₀ env.locals h' m' → News h₀ env.locals h' news → Jm es.size m' → Q .next { s with heap := h', toks := tk }) :
    wpAny (model prog w) A (pyIter (.ref v)) (fun it s₂ => codeAny (model prog w) A (.forLoop (.Tuple [.Name x px, .Name y py] x1 pt) it body [] env) (ForEnd prog w A env E Q) s₂) E s := by
  have hds := hd _ (kept_here F N)
  refine items_iter hv hds ?_
  have hne : s.heap.objs.size ≠ d := Nat.ne_of_gt (Heap.lt_size hds)
  exact pure_loop rfl (draws_items hh hne (fun h k => hd h k) (kept_mono F N) (next_is_new F) hk hx hy) ⟨_, _, rfl⟩ F N Jm h0 (fun i u m₁ h tk o hi ⟨v, hv, e⟩ hJ F₁ N₁ => step i v m₁ h tk o hv hJ (by subst e; exact F₁) N₁) hR

theorem iter_range {r : Addr} {b : Int} {t u v : Tok} {x : Str} {px : Pos} (hh : A.handled = none) (hk : env.scope.kind = .function) (hx : env.kindOf x = some .local)
    (hr : IsRange s.heap r 0 b 1 t u v) (hb0 : 0 ≤ b) (hb : b ≤ 1000)
    (F : Fr h₀ env.locals s.heap m) (N : News h₀ env.locals s.heap news) (Jm : Nat → (Str → Option Value) → Prop) (h0 : Jm 0 m)
    (step : ∀ (i : Nat) t m₁ h tk o, i < b.toNat → Jm i m₁ → Fr h₀ env.locals h (fun y => if y = x then some (.int (i : Nat) t) else m₁ y) → News h₀ env.locals h ((s.heap.objs.size, o) :: news) →
      wpAny (model prog w) A (execs body env) (PurePost h₀ env.locals ((s.heap.objs.size, o) :: news) (Jm (i + 1)) s Q) noE { s with heap := h, toks := tk })
    (hR : ∀ h' tk m', Fr h₀ env.locals h' m' → News h₀ env.locals h' news → Jm b.toNat m' → Q .next { s with heap := h', toks := tk }) :
    wpAny (model prog w) A (pyIter (.ref r)) (fun it s₂ => codeAny (model prog w) A (.forLoop (.Name x px) it body [] env) (ForEnd prog w A env E Q) s₂) E s := by
  have hsz : Builtin.Range.rangeSize 0 b 1 = b := by
    unfold Builtin.Range.rangeSize
    by_cases h : 0 < b
    · simp [h]
    · have : b = 0 := by omega
      subst this; simp
  refine wpAny_pyIter_range hr ?_ ?_
  · exact small_one (by decide) (by decide) (by omega) (by omega)
  · rw [hsz]
    have e : ((b.toNat : Nat) : Int) = b := Int.toNat_of_nonneg hb0
    refine pure_loop (n := b.toNat) rfl ?_ (It := fun i o => o = { cls := .type "range_iterator", data := .fields #[rawInt (i : Nat), rawInt ((b.toNat : Int) - (i : Nat)), rawInt 1] }) (U := fun i u => ∃ t, u = fun m y => if y = x then some (.int (i : Nat) t) else m y) ?_ F N Jm h0 (fun i u m₁ h tk o hi ⟨t, e⟩ hJ F₁ N₁ => step i t m₁ h tk o hi hJ (by subst e; exact F₁) N₁) hR
    · have D := draws_range (prog := prog) (w := w) (A := A) (env := env) (h₀ := h₀) (I := s.heap.objs.size) (n := b.toNat) (px := px) hh (next_is_new F) hk hx
      exact ⟨fun i s m o Q hi ho hit _ hIL F hQ => D.item i s m o Q hi ho hit trivial hIL F hQ, fun s o Q ho hit _ hQ => D.done s o Q ho hit trivial hQ⟩
    · rw [e]; simp
end
end At
end
section
open PySem PySem.W PySem.Calls PyProof.Rows
set_option Elab.async false
set_option maxRecDepth 100000
set_option linter.unusedVariables false
namespace At
theorem fill1 : (PySem.Challenge.rw_at0009_01 = PySem.Challenge.rw_at0009_01) ∧ (At.hd.heap_1 = At.hd.heap_1) := by
  k_fill
  exact ⟨rfl, rfl⟩

local macro_rules | `(tactic| walk_at "zz enter") => `(tactic| (refine' call_fn ?kX ?kT ?ko ?kc ?kr ?kb ?kl ?_ ?c1 ?c2 ?c3 ?c4; (case kX => assumption); (case kT => exact Top.nolimit (by assumption)); (case ko => k_is); (case kc => k_is); (case kr => decide); (case kb => first | exact BindsTo.of_eq rfl | exact binds_K (by assumption) rfl (by k_is) rfl rfl rfl); (case kl => exact locs rfl); (case c1 => decide); (case c2 => rfl); (case c3 => rfl); (case c4 => rfl); intro L h₁ F N hL; (try dsimp only)))

abbrev tupObj (vs : List Value) : Obj := { cls := .type "tuple", data := .seq vs.toArray }
def nsS : List Str := [Str.ofString "", Str.ofString "u", Str.ofString "v", Str.ofString "w", Str.ofString "x"]
def locS : List Str := [Str.ofString "a", Str.ofString "b", Str.ofString "c", Str.ofString "d"]
def IsNm (x y : Str) : Prop := x ∈ nsS ∧ y ∈ locS

abbrev okS (x : Str) : Prop := x.cps.all (· < 0x110000) = true
theorem okS_lay {x : Str} (h : okS x) : PyData.canLay0 (.str x) = true := h
theorem item_abcd (k : Int) (h0 : 0 ≤ k) (h1 : k < 4) : Txt.item (Str.ofString "abcd") k ∈ locS := by
  have : k = 0 ∨ k = 1 ∨ k = 2 ∨ k = 3 := by omega
  rcases this with rfl | rfl | rfl | rfl <;> decide +kernel

set_option maxHeartbeats 4000000 in
theorem law_name {prog : Program} {w : World} {p : Program} {loose : List Str} {mean : ExcName → Option Value} {mg mb : Str → Option Value} {s : Shared} {n : Int} {t : Tok}
    (X : (At.hd.heap_1 w.params).In s.heap) (T : Top p loose mean mg mb s.heap) (h0 : 0 ≤ n) (h1 : n < 20) :
    Does (model prog w) (Lv 20) (call (.ref 250) [.int n t]) s (fun v h' => ∃ a x y u1 u2, v = .ref a ∧ s.heap.get? a = none ∧ h'.get? a = some (tupObj [.str x u1, .str y u2]) ∧ IsNm x y) := by
  refine does_intro fun Q hret => ?_
  walk_at "zz enter"
  k_steps
  all_goals (
    rename_i F N _
    have e := N _ (.head _)
    exact hret _ _ _ F.keep ⟨_, _, _, _, _, rfl, e.2.2, e.1, by decide +kernel, item_abcd _ (Int.fmod_nonneg_of_pos _ (by decide)) (Int.fmod_lt_of_pos _ (by decide))⟩)
local macro_rules | `(tactic| walk_at "exec For Name Call cons nil") => `(tactic| (with_unfolding_all refine wpAny_For ?_ (by intro _; rfl)))
local macro_rules | `(tactic| walk_at "subscriptTail Name BinOp ref int") => `(tactic| fail "mine")
local macro_rules | `(tactic| walk_at "eval Name") => `(tactic| (plain_pass; k_here; k_dflt (refine' ld ?k1 ?k2 ?_; (case k1 => k_asm); (case k2 => assumption); k_whole)))
theorem getD_bound {l : List Str} {b : Nat} (h : ∀ x ∈ l, x.length ≤ b) (k : Nat) : (l.getD k Str.empty).length ≤ b := by
  rw [List.getD_eq_getElem?_getD]
  cases e : l[k]? with
  | none => exact Nat.zero_le _
  | some x => exact h x (List.mem_of_getElem? e)
theorem getD_prop {P : Str → Prop} {l : List Str} {d : Str} (h : ∀ x ∈ l, P x) (hd : P d) (k : Nat) : P (l.getD k d) := by
  rw [List.getD_eq_getElem?_getD]
  cases e : l[k]? with
  | none => exact hd
  | some x => exact h x (List.mem_of_getElem? e)
theorem okS_append {a b : Str} (ha : okS a) (hb : okS b) : okS (a ++ b) := by
  unfold okS at *
  rw [Str.cps_append, Array.all_append, ha, hb]; rfl
set_option maxHeartbeats 4000000 in
theorem law_value {prog : Program} {w : World} {p : Program} {loose : List Str} {mean : ExcName → Option Value} {mg mb : Str → Option Value} {s : Shared} {n : Int} {t : Tok}
    (X : (At.hd.heap_1 w.params).In s.heap) (T : Top p loose mean mg mb s.heap) (h0 : 0 ≤ n) (h1 : n < 100003) :
    Does (model prog w) (Lv 20) (call (.ref 243) [.int n t]) s (fun v h' => ∃ x u, v = .str x u ∧ x.length ≤ 18 ∧ okS x) := by
  refine does_intro fun Q hret => ?_
  walk_at "zz enter"
  k_steps
  rename_i ls _ _ _ _ _ _ _ _ _ _ _ hR F N hk
  have hb : 0 ≤ n.fmod 4 ∧ n.fmod 4 < 4 := ⟨Int.fmod_nonneg_of_pos _ (by decide), Int.fmod_lt_of_pos _ (by decide)⟩
  refine iter_range rfl rfl rfl hR hb.1 (by omega) F N (fun i m => (∃ x u, m "text" = some (.str x u) ∧ x.length ≤ 6 * i ∧ okS x) ∧ m "number" = some (.int n t) ∧ m "signs" = some (.ref ls)) ⟨⟨_, _, rfl, by decide, by decide +kernel⟩, rfl, rfl⟩ ?_ ?_
  · intro i t' m₁ h tk o hi hJ F₁ N₁
    obtain ⟨⟨x, u, hx, hxl, hxo⟩, hn, hs⟩ := hJ
    k_steps
    rename_i F9 N9
    refine PurePost.next F9 N9 (fun _ hp => hp) ⟨⟨_, _, rfl, ?_, ?_⟩, hn, hs⟩
    case refine_2 => exact okS_append hxo (getD_prop (P := fun x => okS x) (by decide +kernel) (by decide +kernel) _)
    rw [Str.length_append]
    have := getD_bound (b := 6) (l := [Str.ofString "a", Str.ofString "&", Str.ofString "<", Str.ofString "\"", Str.ofString "'", Str.ofString "\n", Str.ofString "&amp;", Str.ofString "&quot;", Str.ofString "b", Str.ofString " ", Str.ofString "\t", Str.ofString ">"]) (by decide +kernel) ((n.fdiv (4 + 3 * (i : Nat))).fmod 12).toNat
    omega
  · intro h' tk m' F' N' hJ
    obtain ⟨⟨x, u, hx, hxl, hxo⟩, hn, hs⟩ := hJ
    k_steps
    exact hret _ _ _ F'.keep ⟨_, _, rfl, by omega, hxo⟩
end At
end
section
open PySem PySem.W PySem.Calls PyProof.Rows
set_option Elab.async false
set_option maxRecDepth 100000
set_option linter.unusedVariables false
namespace At
theorem fill2 : (PySem.Challenge.rw_at0009_01 = PySem.Challenge.rw_at0009_01) ∧ (At.hd.heap_1 = At.hd.heap_1) := by
  k_fill
  exact ⟨rfl, rfl⟩
local macro_rules | `(tactic| walk_at "zz enter") => `(tactic| (refine' call_fn ?kX ?kT ?ko ?kc ?kr ?kb ?kl ?_ ?c1 ?c2 ?c3 ?c4; (case kX => assumption); (case kT => exact Top.nolimit (by assumption)); (case ko => k_is); (case kc => k_is); (case kr => decide); (case kb => first | exact BindsTo.of_eq rfl | exact binds_K (by assumption) rfl (by k_is) rfl rfl rfl); (case kl => exact locs rfl); (case c1 => decide); (case c2 => rfl); (case c3 => rfl); (case c4 => rfl); intro L h₁ F N hL; (try dsimp only)))
local macro_rules | `(tactic| walk_at "zz go") => `(tactic| repeat' (first | (walk1 <;> (try dsimp only)) | (k_unfold; (try dsimp only)) | (leave1; try dsimp only)))
local macro_rules | `(tactic| walk_at "eval Name") => `(tactic| (plain_pass; k_here; k_dflt (refine' ld ?k1 ?k2 ?_; (case k1 => k_asm); (case k2 => assumption); k_whole)))
local macro_rules | `(tactic| walk_at "eval Dict cons cons") => `(tactic| (k_here; k_dflt (refine' kdn_str ?q ?F ?N ?b ?a ?l ?e ?n ?_; (case q => rfl); (case F => k_asm); (case N => first | k_asm | exact News.nil); (case b => exact Top.nolimit (by k_asm)); (case a => rfl); (case l => rfl); (case e => exact List.cons_ne_nil _ _); (case n => exact Nat.le_of_ble_eq_true rfl)); intro d' h' o' F' N' l1 lo' hd'; (try k_lt l1)))
local macro_rules | `(tactic| walk_at "subscriptTail Name Constant ref int") => `(tactic| (plain_pass; k_here; (with_reducible show wpAny _ _ (subscriptTail _ _ (Value.ref _) (Value.int _ _)) _ _ _); k_dflt (refine' item_tupleT ?t ?a ?b ?c ?d ?_; (case t => exact IsTup.keeps (by assumption) (Fr.keep (by assumption))); (case a => decide); (case b => decide); (case c => rfl); (case d => rfl); k_whole)))

/-- the prefix of a namespace -/
def pref (x : Str) : Str := if x = Str.ofString "" then Str.ofString "" else if x = Str.ofString "u" then Str.ofString "p:" else if x = Str.ofString "v" then Str.ofString "q:" else if x = Str.ofString "w" then Str.ofString "r:" else Str.ofString "s:"
def qn (x y : Str) : Str := pref x ++ y

set_option maxHeartbeats 4000000 in
theorem law_qname {prog : Program} {w : World} {p : Program} {loose : List Str} {mean : ExcName → Option Value} {mg mb : Str → Option Value} {s : Shared} {a : Addr} {x y : Str} {t u : Tok}
    (X : (At.hd.heap_1 w.params).In s.heap) (T : Top p loose mean mg mb s.heap) (ha : IsTup s.heap a #[.str x t, .str y u]) (hxy : IsNm x y) :
    Does (model prog w) (Lv 20) (call (.ref 257) [.ref a]) s (fun v h' => ∃ u, v = .str (qn x y) u) := by
  obtain ⟨hx, hy⟩ := hxy
  have hyl : y.length ≤ 1 := (show ∀ z ∈ locS, z.length ≤ 1 by decide +kernel) y hy
  clear hy
  refine does_intro fun Q hret => ?_
  unfold qn at hret
  simp only [nsS, List.mem_cons, List.not_mem_nil, or_false] at hx
  rcases hx with rfl | rfl | rfl | rfl | rfl
  · rw [show pref (Str.ofString "") = Str.ofString "" by decide +kernel] at hret
    walk_at "zz enter"
    walk_at "zz go"
    exact hret _ _ _ (Fr.keep (by assumption)) ⟨_, rfl⟩
  · rw [show pref (Str.ofString "u") = Str.ofString "p:" by decide +kernel] at hret
    walk_at "zz enter"
    walk_at "zz go"
    exact hret _ _ _ (Fr.keep (by assumption)) ⟨_, rfl⟩
  · rw [show pref (Str.ofString "v") = Str.ofString "q:" by decide +kernel] at hret
    walk_at "zz enter"
    walk_at "zz go"
    exact hret _ _ _ (Fr.keep (by assumption)) ⟨_, rfl⟩
  · rw [show pref (Str.ofString "w") = Str.ofString "r:" by decide +kernel] at hret
    walk_at "zz enter"
    walk_at "zz go"
    exact hret _ _ _ (Fr.keep (by assumption)) ⟨_, rfl⟩
  · rw [show pref (Str.ofString "x") = Str.ofString "s:" by decide +kernel] at hret
    walk_at "zz enter"
    walk_at "zz go"
    exact hret _ _ _ (Fr.keep (by assumption)) ⟨_, rfl⟩

end At
end
section
open PySem PySem.W PySem.Calls PyProof.Rows
set_option Elab.async false
set_option maxRecDepth 100000
set_option linter.unusedVariables false
namespace At
section
variable {prog : Program} {w : World} {A : Around} {E : Value → Shared → Prop} {s : Shared} {d a : Addr} {es : Array DictEntry} {ep : Nat}
theorem raw_meets_len (hd : (d == sysModules) = false) :
    MeetsIn prog w (Builtin.«dict.__len__» ⟨[.ref d], []⟩) (fun _ R s => ∃ es ep, RawD s.heap d es ep ∧ R (.ok (.ret (.int es.size s.toks))) { s with toks := s.toks + 1 }) :=
  .of_wp fun A R s ⟨es, ep, hm, h⟩ => by
    show wpAny _ _ (dictSize d >>= _) _ _ s
    unfold dictSize
    refine wpAny_bind (wpAny_bind (wpAny_dictEntries hm rfl (wpAny_pure ?_)))
    show wpAny _ _ (Builtin.Dict.pendingCount d >>= _) _ _ s
    refine wpAny_bind (wpAny_pendingCount_other hd ?_)
    refine wpAny_ret_mkInt ?_
    rw [Nat.add_zero]; exact h

theorem raw_len_body {Q : Value → Shared → Prop} (hd : (d == sysModules) = false) (hm : RawD s.heap d es ep) (hfit : es.size < 2 ^ 63)
    (h : Q (.int es.size (s.toks + 1)) { s with toks := s.toks + 1 + 1 }) : wpAny (model prog w) A (Builtin.«len» ⟨[.ref d], []⟩) (fun fin s' => ∃ r, fin = .done (.ret r) ∧ Q r s') E s := by
  unfold Builtin.«len»
  refine wpAny_bind (m := oneArg "len" _) (wpAny_pure ?_)
  refine wpAny_bind (m := callSpecial? (.ref d) (Str.ofString "__len__")) (wpAny_callSpecial?_slot (name := Str.ofString "__len__") (raw_type hm) F.slot_dict_len
    (call_meetsIn F.slot_dict_len (raw_type hm) F.entry_dict_len (F.args_dict_len_1 _) (raw_meets_len hd) ⟨es, ep, hm, ?_⟩))
  show wpAny _ _ _ _ _ { s with toks := s.toks + 1 }
  refine wpAny_bind (wpAny_holding (wpAny_pure ?_))
  refine wpAny_bind (wpAny_letGo ?_)
  show wpAny _ _ (if ((es.size : Nat) : Int) < 0 then _ else _) _ _ _
  rw [if_neg (by omega)]
  show wpAny _ _ (if ((es.size : Nat) : Int) ≥ 2 ^ 63 then _ else _) _ _ _
  rw [if_neg (by omega)]
  exact wpAny_bind (wpAny_mkInt (wpAny_pure ⟨_, rfl, h⟩))

theorem raw_len {Q : Value → Shared → Prop} (hd : (d == sysModules) = false) (hm : RawD s.heap d es ep) (hfit : es.size < 2 ^ 63)
    (h : Q (.int es.size (s.toks + 1)) { s with toks := s.toks + 1 + 1 }) : wpAny (model prog w) A (call (.builtin "len") [.ref d]) Q E s :=
  Calls.call_function_entry kind_len plain_len entry_len (args_len1 _) (raw_len_body hd hm hfit h)

theorem raw_truthy {Q : Bool → Shared → Prop} (hd : (d == sysModules) = false) (hm : RawD s.heap d es ep) (hfit : es.size < 2 ^ 63)
    (h : Q (es.size != 0) { s with toks := s.toks + 1 + 1 }) : wpAny (model prog w) A (truthy (.ref d)) Q E s := by
  have hne : ((es.size : Int) != 0) = (es.size != 0) := by
    cases h : es.size <;> rfl
  have key : wpAny (model prog w) A (runValue (.builtin "len" ⟨[.ref d], []⟩)) (fun r s' => r = .int es.size (s.toks + 1) ∧ Q (es.size != 0) s') E s := by
    refine wpAny_runValue (codeAny_builtin entry_len ?_)
    rw [Around.under_plainId plain_len _]
    exact wpAny_mono (raw_len_body (Q := fun r s' => r = .int es.size (s.toks + 1) ∧ Q (es.size != 0) s') hd hm hfit ⟨rfl, h⟩)
      (fun fin s' h' => by obtain ⟨r, rfl, hq⟩ := h'; exact hq) fun _ _ e => e
  unfold truthy
  first
    | refine wpAny_bind (wpAny_callSpecial?_none (name := Str.ofString "__bool__") (raw_type hm) noBool_dict ?_)
    | refine wpAny_bind (wpAny_pure (wpAny_bind (wpAny_callSpecial?_none (name := Str.ofString "__bool__") (raw_type hm) noBool_dict ?_)))
  first
    | refine wpAny_bind (wpAny_specialOf (name := Str.ofString "__len__") (raw_type hm) F.slot_dict_len.lookup ?_)
    | refine wpAny_bind (wpAny_pure (wpAny_bind (wpAny_specialOf (name := Str.ofString "__len__") (raw_type hm) F.slot_dict_len.lookup ?_)))
  first
    | exact wpAny_bind (wpAny_mono key (fun r s' h' => by obtain ⟨rfl, hq⟩ := h'; exact wpAny_pure (hne ▸ hq)) fun _ _ e => e)
    | exact wpAny_bind (wpAny_pure (wpAny_bind (wpAny_mono key (fun r s' h' => by obtain ⟨rfl, hq⟩ := h'; exact wpAny_pure (hne ▸ hq)) fun _ _ e => e)))

/-! dicts with texts for keys -/
abbrev dObj (es : Array DictEntry) (ep : Nat) : Obj := { cls := .type "dict", dict := none, data := .dict es ep, slots := #[] }
abbrev sEnt (w : World) (k : Str) (t : Nat) (v : Value) : DictEntry := ⟨hashStr w k, .str k t, v⟩
def StrKs (w : World) (es : Array DictEntry) : Prop := ∀ e ∈ es, ∃ k t v, e = sEnt w k t v
theorem StrKs.keys (h : StrKs w es) : KeysOf (PySem.strKind prog w) es := fun e he => by
  obtain ⟨k, t, v, rfl⟩ := h e he
  exact ⟨k, by show Value.isStrOf k (.str k t) = true; simp [Value.isStrOf], rfl⟩
theorem StrKs.push {k : Str} {t : Nat} {v : Value} (h : StrKs w es) : StrKs w (es.push (sEnt w k t v)) := fun e he => by
  rcases Array.mem_push.mp he with h' | rfl
  · exact h e h'
  · exact ⟨k, t, v, rfl⟩
theorem find_none {k : Str} (hn : ∀ e ∈ es, ∀ t, e.key ≠ .str k t) : (es.findIdx? fun e => (PySem.strKind prog w).is k e.key) = none := by
  rw [Array.findIdx?_eq_none_iff]
  intro e he
  cases hk : (PySem.strKind prog w).is k e.key with
  | false => rfl
  | true => obtain ⟨t, ht⟩ := Value.isStrOf_shape hk; exact (hn e he t ht).elim

theorem raw_upd {h : Heap} (hm : RawD h d es ep) (e : DictEntry) : RawD (h.update d (Obj.mapDictKeys fun es => es.push e)) d (es.push e) (ep + 1) :=
  Heap.get?_update_self _ hm rfl

theorem raw_set_new {k : Str} {t : Nat} {v : Value} {Q : Unit → Shared → Prop} (hm : RawD s.heap d es ep) (hk : StrKs w es) (hn : ∀ e ∈ es, ∀ t, e.key ≠ .str k t) (hz : es.size ≤ sizeLine)
    (hQ : ∀ h', RawD h' d (es.push (sEnt w k t v)) (ep + 1) → Heap.SameBut d s.heap h' → Q () { s with heap := h', toks := s.toks + 1 }) :
    wpAny (model prog w) A (dictSet d (.str k t) v) Q E s := by
  unfold dictSet
  refine wpAny_holding (wpAny_bind (wpAny_pyHash_str ?_))
  unfold dictSetHashed
  refine wpAny_holding (wpAny_bind ?_)
  refine wpAny_dictFind_of (knd := PySem.strKind prog w) (k := k) (by show Value.isStrOf k (.str k t) = true; simp [Value.isStrOf]) hm rfl hk.keys ?_
  rw [find_none hn]
  refine wpAny_bind (wpAny_rule ?_)
  exact (wpAny_updateDictKeys (f := fun es => es.push (sEnt w k t v)) (hz := hz) hm rfl (hQ _ (raw_upd hm _) (Heap.SameBut.update ..)))

theorem raw_put_new {k : Str} {t : Nat} {v : Value} {Q : Unit → Shared → Prop} (hm : RawD s.heap d es ep) (hk : StrKs w es) (hn : ∀ e ∈ es, ∀ t, e.key ≠ .str k t) (hz : es.size ≤ sizeLine)
    (hQ : ∀ h', RawD h' d (es.push (sEnt w k t v)) (ep + 1) → Heap.SameBut d s.heap h' → Q () { s with heap := h' }) :
    wpAny (model prog w) A (dictPut d (hashStr w k) (.str k t) v) Q E s := by
  unfold dictPut
  refine wpAny_bind ?_
  refine wpAny_dictFind_of (knd := PySem.strKind prog w) (k := k) (by show Value.isStrOf k (.str k t) = true; simp [Value.isStrOf]) hm rfl hk.keys ?_
  rw [find_none hn]
  exact wpAny_updateDictKeys (f := fun es => es.push (sEnt w k t v)) (hz := hz) hm rfl (hQ _ (raw_upd hm _) (Heap.SameBut.update ..))

/-- several new keys -/
def sEnts (w : World) (ps : List (Str × Nat × Value)) : List DictEntry := ps.map fun p => sEnt w p.1 p.2.1 p.2.2
theorem sEnts_ks (ps : List (Str × Nat × Value)) : StrKs w (sEnts w ps).toArray := fun e he => by
  obtain ⟨p, _, rfl⟩ := List.mem_map.mp (List.mem_toArray.mp he)
  exact ⟨_, _, _, rfl⟩
theorem sEnts_new {ps : List (Str × Nat × Value)} {k : Str} (h : k ∉ ps.map (·.1)) : ∀ e ∈ (sEnts w ps).toArray, ∀ t, e.key ≠ .str k t := fun e he t q => by
  obtain ⟨p, hp, rfl⟩ := List.mem_map.mp (List.mem_toArray.mp he)
  injection q with q
  exact h (List.mem_map.mpr ⟨p, hp, q⟩)
theorem sEnts_snoc (ps : List (Str × Nat × Value)) (p : Str × Nat × Value) : (sEnts w ps).toArray.push (sEnt w p.1 p.2.1 p.2.2) = (sEnts w (ps ++ [p])).toArray := by
  simp [sEnts]

theorem raw_store : ∀ (qs ps : List (Str × Nat × Value)) (ep : Nat) (s : Shared) (Q : PUnit → Shared → Prop), RawD s.heap d (sEnts w ps).toArray ep → ((ps ++ qs).map (·.1)).Nodup → ps.length + qs.length ≤ sizeLine →
    (∀ h' ep', RawD h' d (sEnts w (ps ++ qs)).toArray ep' → Heap.SameBut d s.heap h' → Q PUnit.unit { s with heap := h', toks := s.toks + qs.length }) →
    wpAny (model prog w) A (storeAll d (qs.map fun p => (.str p.1 p.2.1, p.2.2))) Q E s
  | [], ps, ep, s, Q, hm, hn, hz, hQ => by
    unfold storeAll
    rw [List.map_nil, List.forIn_nil]
    exact wpAny_pure (by simpa using hQ s.heap ep (by simpa using hm) (Heap.SameBut.refl _ _))
  | q :: qs, ps, ep, s, Q, hm, hn, hz, hQ => by
    unfold storeAll
    rw [List.map_cons, List.forIn_cons]
    rw [List.length_cons] at hz
    have hn' : q.1 ∉ ps.map (·.1) := by
      rw [List.map_append, List.map_cons, List.nodup_append] at hn
      exact fun hq => hn.2.2 _ hq _ (.head _) rfl
    refine wpAny_bind (wpAny_bind (raw_set_new hm (sEnts_ks ps) (sEnts_new hn') (by simp [sEnts]; omega) fun h₁ hm₁ hs₁ => wpAny_pure ?_))
    rw [sEnts_snoc] at hm₁
    refine raw_store qs (ps ++ [q]) _ { s with heap := h₁, toks := s.toks + 1 } Q hm₁ (by simpa using hn) (by simp; omega) fun h' ep' hm' hs' => ?_
    have := hQ h' ep' (by simpa using hm') (hs₁.trans hs')
    rw [List.length_cons] at this
    rw [show s.toks + 1 + qs.length = s.toks + (qs.length + 1) by omega]
    exact this

theorem forIn_quiet {f : DictEntry → PUnit → Sem (ForInStep PUnit)} : ∀ (l : List DictEntry), (∀ e ∈ l, f e PUnit.unit = pure (.yield PUnit.unit)) → forIn l PUnit.unit f = pure PUnit.unit
  | [], _ => List.forIn_nil
  | e :: l, h => by
    rw [List.forIn_cons, h e (.head _)]
    exact forIn_quiet l fun x hx => h x (.tail _ hx)
/-- a dict merged into a dict -/
theorem raw_merge {qs ps : List (Str × Nat × Value)} {ep ep2 : Nat} {Q : Unit → Shared → Prop} (hda : d ≠ a) (haS : (a == sysModules) = false) (hm : RawD s.heap d (sEnts w ps).toArray ep) (ha : RawD s.heap a (sEnts w qs).toArray ep2)
    (hn : ((ps ++ qs).map (·.1)).Nodup) (hz : ps.length + qs.length ≤ sizeLine)
    (hQ : ∀ h' ep', RawD h' d (sEnts w (ps ++ qs)).toArray ep' → Heap.SameBut d s.heap h' → Q () { s with heap := h' }) :
    wpAny (model prog w) A (mergeMapping d (.ref a) false) Q E s := by
  unfold mergeMapping
  simp only [Bool.false_eq_true, if_false]
  refine wpAny_bind (wpAny_isInstance (raw_type ha) isSubtype_dict_dict ?_)
  simp only [if_true]
  refine wpAny_bind (wpAny_specialOf (raw_type ha) F.slot_dict_iter.lookup ?_)
  refine wpAny_bind (wpAny_pure ?_)
  rw [show ((some (Value.builtin "dict.__iter__") : Option Value) == some (.builtin "dict.__iter__")) = true by decide +kernel]
  dsimp only
  rw [if_neg (by rw [haS]; exact Bool.false_ne_true)]
  refine wpAny_bind (wpAny_dictEntries hm rfl ?_)
  have loop : ∀ (k j : Nat) (s' : Shared) (ep' : Nat), j + k = qs.length → RawD s'.heap d (sEnts w (ps ++ qs.take j)).toArray ep' → Heap.SameBut d s.heap s'.heap → (∃ h', s' = { s with heap := h' }) →
      wpAny (model prog w) A (forIn (List.range' j k) PUnit.unit fun i (__s : PUnit) => (do
          let __do_lift ← dictEntries a
          match __do_lift[i]? with
            | some e => do
              holding [e.key, e.val] (dictPut d e.hash e.key e.val)
              let __do_lift ← dictEpoch a
              if (__do_lift != ep2) = true then do
                  unsupported "dict.changed-during-merge"
                  pure (ForInStep.yield PUnit.unit)
                else pure (ForInStep.yield PUnit.unit)
            | x => do
              unsupported "dict.changed-during-merge"
              pure (ForInStep.yield PUnit.unit) : Sem (ForInStep PUnit))) (fun _ s' => Q () s') E s' := by
    intro k
    induction k with
    | zero =>
      intro j s' ep' hj hm' hs' ⟨h', e⟩
      subst e
      rw [List.range'_zero, List.forIn_nil]
      obtain rfl : j = qs.length := by omega
      rw [List.take_length] at hm'
      exact wpAny_pure (hQ _ _ hm' hs')
    | succ k ih =>
      intro j s' ep' hj hm' hs' ⟨h', e⟩
      subst e
      have hjl : j < qs.length := by omega
      have ha' : RawD h' a (sEnts w qs).toArray ep2 := (hs'.2 a (Ne.symm hda)).trans ha
      rw [List.range'_succ, List.forIn_cons]
      refine wpAny_bind (wpAny_bind (wpAny_dictEntries ha' rfl ?_))
      have hget : (sEnts w qs).toArray[j]? = some (sEnt w qs[j].1 qs[j].2.1 qs[j].2.2) := by
        simp [sEnts, hjl]
      rw [hget]
      dsimp only
      have hnd : qs[j].1 ∉ (ps ++ qs.take j).map (·.1) := by
        have h1 : ps ++ qs = (ps ++ qs.take j) ++ qs[j] :: qs.drop (j + 1) := by
          rw [List.append_assoc, ← List.drop_eq_getElem_cons hjl, List.take_append_drop]
        rw [h1, List.map_append, List.map_cons, List.nodup_append] at hn
        exact fun hq => hn.2.2 _ hq _ (.head _) rfl
      refine wpAny_bind (wpAny_holding (raw_put_new hm' (sEnts_ks _) (sEnts_new hnd) (by simp [sEnts]; omega) fun h₁ hm₁ hs₁ => ?_))
      have ha₁ : RawD h₁ a (sEnts w qs).toArray ep2 := (hs₁.2 a (Ne.symm hda)).trans ha'
      refine wpAny_bind (wpAny_dictEpoch ha₁ rfl ?_)
      rw [if_neg (by simp)]
      refine wpAny_pure ?_
      rw [sEnts_snoc, List.append_assoc, ← take_snoc hjl] at hm₁
      exact ih (j + 1) { s with heap := h₁ } _ (by omega) hm₁ (hs'.trans hs₁) ⟨_, rfl⟩
  have tail : wpAny (model prog w) A (do
      let __do_lift ← dictEntries a
      let epoch ← dictEpoch a
      forIn (List.range __do_lift.size) PUnit.unit fun i (__s : PUnit) => (do
          let __do_lift ← dictEntries a
          match __do_lift[i]? with
            | some e => do
              holding [e.key, e.val] (dictPut d e.hash e.key e.val)
              let __do_lift ← dictEpoch a
              if (__do_lift != epoch) = true then do
                  unsupported "dict.changed-during-merge"
                  pure (ForInStep.yield PUnit.unit)
                else pure (ForInStep.yield PUnit.unit)
            | x => do
              unsupported "dict.changed-during-merge"
              pure (ForInStep.yield PUnit.unit) : Sem (ForInStep PUnit))
      pure ()) Q E s := by
    refine wpAny_bind (wpAny_dictEntries ha rfl ?_)
    refine wpAny_bind (wpAny_dictEpoch ha rfl ?_)
    refine wpAny_bind (wpAny_mono (Q := fun _ s' => Q () s') ?_ (fun _ s' h => wpAny_pure h) fun _ _ x => x)
    rw [List.range_eq_range']
    exact loop _ 0 s ep (by simp [sEnts]) (by simpa using hm) (Heap.SameBut.refl _ _) ⟨_, rfl⟩
  split
  · refine wpAny_bind (wpAny_dictEntries ha rfl ?_)
    rw [List.forIn_toArray, forIn_quiet (sEnts w qs) (fun e he => by
      obtain ⟨p, _, rfl⟩ := List.mem_map.mp he
      rfl)]
    exact wpAny_bind (wpAny_pure tail)
  · exact tail
end
end At
end
section
open PySem PySem.W PySem.Calls PyProof.Rows
set_option Elab.async false
set_option maxRecDepth 100000
set_option linter.unusedVariables false
namespace At
section
variable {prog : Program} {w : World} {A : Around} {E : Value → Shared → Prop} {s : Shared} {env : Env} {h₀ : Heap} {L d a : Addr} {m : Str → Option Value} {news : List (Addr × Obj)}

theorem dict_raw {keys : List (Option PySem.Expr)} {values : List PySem.Expr} {pos : Pos} {Q : Value → Shared → Prop}
    (F : Fr h₀ L s.heap m) (N : News h₀ L s.heap news) (hbig : h₀.NoLimit)
    (hall : keys.all (·.isSome) = true) (hl : keys.length = values.length) (h0 : keys ≠ []) (hlen : keys.length ≤ 15)
    (h : ∀ d h', Fr h₀ L h' m → News h₀ L h' ((d, dObj #[] 0) :: news) → (∀ p ∈ news, p.1 ≠ d) → (d == sysModules) = false →
      wpAny (model prog w) A (evalPairs (pairTrees keys values env pos)) (fun vs s₁ => wpAny (model prog w) A (storeAll d vs) (fun _ s₂ => Q (.ref d) s₂) E s₁) E { s with heap := h' }) :
    wpAny (model prog w) A (eval (.Dict keys values pos) env) Q E s := by
  refine wpAny_Dict_any hall hl h0 hlen ?_
  exact h _ _ (F.push _) (news_pushed F N (fun b x e => Heap.get?_push_of_some _ e) (Heap.get?_push_size _ rfl) rfl) (fun p hp => Nat.ne_of_lt (Heap.lt_size (N p hp).1)) (F.notModules (modules_low hbig))

theorem News.same {h h' : Heap} {b : Addr} (N : News h₀ L h news) (hs : Heap.SameBut b h h') (hb : ∀ p ∈ news, p.1 ≠ b) : News h₀ L h' news := fun p hp => ⟨(hs.2 _ (hb p hp)).trans (N p hp).1, (N p hp).2⟩
theorem Fr.same {h h' : Heap} {b : Addr} (F : Fr h₀ L h m) (hs : Heap.SameBut b h h') (hb : b ≠ L) (h0 : h₀.get? b = none) : Fr h₀ L h' m := F.change hs hb h0

theorem store_raw (ps : List (Str × Nat × Value)) {Q : PUnit → Shared → Prop} {vs : List (Value × Value)} (hvs : vs = ps.map fun p => (.str p.1 p.2.1, p.2.2))
    (F : Fr h₀ L s.heap m) (N : News h₀ L s.heap ((d, dObj #[] 0) :: news)) (hnd : ∀ p ∈ news, p.1 ≠ d) (hn : (ps.map (·.1)).Nodup) (hz : ps.length ≤ 15)
    (h : ∀ h' ep', Fr h₀ L h' m → News h₀ L h' ((d, dObj (sEnts w ps).toArray ep') :: news) → Q PUnit.unit { s with heap := h', toks := s.toks + ps.length }) :
    wpAny (model prog w) A (storeAll d vs) Q E s := by
  subst hvs
  have hd := N _ (.head _)
  refine raw_store ps [] 0 s Q hd.1 hn (by simp [sizeLine_eq]; omega) fun h' ep' hm hs => h h' ep' (F.change hs hd.2.1 hd.2.2) fun p hp => ?_
  rcases List.mem_cons.mp hp with rfl | hp
  · exact ⟨hm, hd.2⟩
  · exact News.same (news_sub N fun p hp => .tail _ hp) hs hnd p hp

theorem run_star (v : Sem Value) (k1 k2 k3 v1 v2 v3 : Sem Value) {Q : Value → Shared → Prop} (F : Fr h₀ L s.heap m) (N : News h₀ L s.heap news) (hbig : h₀.NoLimit) {ps : List (Str × Nat × Value)} {ep : Nat}
    (ha : RawD h₀ a #[] ep) (haS : (a == sysModules) = false)
    (hv : ∀ s₁ : Shared, Fr h₀ L s₁.heap m → wpAny (model prog w) A v (fun r s₂ => r = .ref a ∧ s₂ = s₁) noE s₁) (hn : (ps.map (·.1)).Nodup) (hz : ps.length ≤ 15)
    (hp : ∀ s₁ : Shared, s₁.toks = s.toks → wpAny (model prog w) A (evalPairs [(k1, v1), (k2, v2), (k3, v3)]) (fun vs s₂ => vs = ps.map (fun p => (.str p.1 p.2.1, p.2.2)) ∧ s₂.heap = s₁.heap ∧ s₂.gens = s₁.gens ∧ s₂.drawn = s₁.drawn ∧ s₂.os = s₁.os ∧ s.toks ≤ s₂.toks) noE s₁)
    (h : ∀ d h' ep' tk, s.toks ≤ tk → Fr h₀ L h' m → News h₀ L h' ((d, dObj (sEnts w ps).toArray ep') :: news) → (d == sysModules) = false → Q (.ref d) { s with heap := h', toks := tk }) :
    wpAny (model prog w) A (dictDisplay [(none, v), (some k1, v1), (some k2, v2), (some k3, v3)]) Q E s := by
  refine wpAny_mono (E := noE) ?_ (fun _ _ x => x) fun _ _ x => x.elim
  unfold dictDisplay
  simp only [List.forIn_cons, List.forIn_nil]
  simp
  refine wpAny_bind (wpAny_alloc ?_)
  have F₁ : Fr h₀ L (s.heap.push (dObj #[] 0)) m := F.push _
  have hd₁ : RawD (s.heap.push (dObj #[] 0)) s.heap.objs.size #[] 0 := Heap.get?_push_size _ rfl
  have N₁ : News h₀ L (s.heap.push (dObj #[] 0)) ((s.heap.objs.size, dObj #[] 0) :: news) := news_pushed F N (fun b x e => Heap.get?_push_of_some _ e) (Heap.get?_push_size _ rfl) rfl
  have hL₁ := (N₁ _ (.head _)).2
  have hnd : ∀ p ∈ news, p.1 ≠ s.heap.objs.size := fun p hp => Nat.ne_of_lt (Heap.lt_size (N p hp).1)
  have hdS := F.notModules (modules_low hbig)
  refine wpAny_bind (wpAny_holding (wpAny_mono (hv { s with heap := s.heap.push (dObj #[] 0) } F₁) (fun r s₂ q => ?_) fun _ _ x => x.elim))
  obtain ⟨rfl, rfl⟩ := q
  have ha₁ : RawD (s.heap.push (dObj #[] 0)) a (sEnts w []).toArray ep := F₁.keep _ _ ha
  have hda : s.heap.objs.size ≠ a := Nat.ne_of_gt (Heap.lt_size (F.keep _ _ ha))
  refine wpAny_bind (wpAny_onRaise (wpAny_mono (E := noE) (wpAny_tryCatch (wpAny_mono (E := noE) (wpAny_onRaise (wpAny_mono (E := noE) (wpAny_holding ?_) (fun _ _ x => x) fun _ _ x => x.elim)) (fun _ _ x => x) fun _ _ x => x.elim)) (fun _ _ x => x) fun _ _ x => x.elim))
  refine raw_merge (ps := []) (qs := []) hda haS hd₁ ha₁ (by simp) (by simp) fun h₂ ep₂ hm₂ hs₂ => ?_
  have F₂ : Fr h₀ L h₂ m := F₁.change hs₂ hL₁.1 hL₁.2
  have Nn₂ : News h₀ L h₂ news := News.same (news_sub N₁ fun p hp => .tail _ hp) hs₂ hnd
  have N₂ : News h₀ L h₂ ((s.heap.objs.size, dObj #[] ep₂) :: news) := fun p hp => by
    rcases List.mem_cons.mp hp with rfl | hp
    · exact ⟨hm₂, hL₁⟩
    · exact Nn₂ p hp
  refine wpAny_bind (wpAny_holding ?_)
  refine wpAny_subDict_any (by simp) ?_
  have F₃ : Fr h₀ L (h₂.push (dObj #[] 0)) m := F₂.push _
  have N₃ : News h₀ L (h₂.push (dObj #[] 0)) ((h₂.objs.size, dObj #[] 0) :: (s.heap.objs.size, dObj #[] ep₂) :: news) := news_pushed (s := { s with heap := h₂ }) F₂ N₂ (fun b x e => Heap.get?_push_of_some _ e) (Heap.get?_push_size _ rfl) rfl
  have hS := F₂.notModules (modules_low hbig)
  refine wpAny_mono (hp { s with heap := h₂.push (dObj #[] 0) } rfl) (fun vs s₄ q => ?_) fun _ _ x => x.elim
  obtain ⟨rfl, e1, e2, e3, e4, hle⟩ := q
  have hnd₃ : ∀ p ∈ (s.heap.objs.size, dObj #[] ep₂) :: news, p.1 ≠ h₂.objs.size := fun p hp => Nat.ne_of_lt (Heap.lt_size (N₂ p hp).1)
  refine store_raw ps rfl (by rw [e1]; exact F₃) (by rw [e1]; exact N₃) hnd₃ hn hz fun h₅ ep₅ F₅ N₅ => ?_
  have hsub := (N₅ _ (.head _)).1
  have hd₅ := (N₅ _ (.tail _ (.head _))).1
  show wpAny _ _ (Functor.map _ _) _ _ _
  rw [← bind_pure_comp]
  refine wpAny_bind (wpAny_onRaise (wpAny_mono (E := noE) (wpAny_holding ?_) (fun _ _ x => x) fun _ _ x => x.elim))
  have hne : s.heap.objs.size ≠ h₂.objs.size := hnd₃ _ (.head _)
  refine raw_merge (ps := []) (qs := ps) hne hS hd₅ hsub (by simpa using hn) (by simp [sizeLine_eq]; omega) fun h₆ ep₆ hm₆ hs₆ => ?_
  refine wpAny_pure ?_
  have := h s.heap.objs.size h₆ ep₆ (s₄.toks + ps.length) (by omega) (F₅.change hs₆ hL₁.1 hL₁.2) (fun p hp => by
    rcases List.mem_cons.mp hp with rfl | hp
    · exact ⟨hm₆, hL₁⟩
    · exact News.same (news_sub N₅ fun p hp => .tail _ (.tail _ hp)) hs₆ hnd p hp) hdS
  rw [e2, e3, e4]
  exact this

theorem star_eval {scope : Scope} {name : Str} {cl : Value} {fa : Addr} {y a1 a2 a3 b1 b2 b3 : Str} {py p1 p2 p3 q1 q2 q3 pos : Pos} {c1 c2 c3 e1 e2 e3 : Nat} {Q : Value → Shared → Prop} (F : Fr h₀ L s.heap m) (N : News h₀ L s.heap news) (hbig : h₀.NoLimit) {ep : Nat}
    (hm : m y = some (.ref a)) (ha : RawD h₀ a #[] ep) (haS : (a == sysModules) = false) (hk : scope.kind = .function) (hl : (envOf name scope L fa cl).kindOf y = some .local) (hy : (y == ("__debug__" : Str)) = false)
    (hn : [a1, a2, a3].Nodup)
    (h : ∀ d h' ep' tk, s.toks ≤ tk → Fr h₀ L h' m → News h₀ L h' ((d, dObj (sEnts w [(a1, s.toks, .str b1 (s.toks + 1)), (a2, s.toks + 1 + 1, .str b2 (s.toks + 1 + 1 + 1)), (a3, s.toks + 1 + 1 + 1 + 1, .str b3 (s.toks + 1 + 1 + 1 + 1 + 1))]).toArray ep') :: news) → (d == sysModules) = false → Q (.ref d) { s with heap := h', toks := tk }) :
    wpAny (model prog w) A (eval (.Dict [none, some (.Constant (.str a1) c1 p1), some (.Constant (.str a2) c2 p2), some (.Constant (.str a3) c3 p3)] [.Name y py, .Constant (.str b1) e1 q1, .Constant (.str b2) e2 q2, .Constant (.str b3) e3 q3] pos) (envOf name scope L fa cl)) Q E s := by
  rw [arm_eval_Dict]
  refine wpAny_bind (wpAny_standAt ?_)
  show wpAny _ _ (dictDisplay [(none, _), (some _, _), (some _, _), (some _, _)]) _ _ _
  refine run_star _ _ _ _ _ _ _ F N hbig (ps := [(a1, s.toks, .str b1 (s.toks + 1)), (a2, s.toks + 1 + 1, .str b2 (s.toks + 1 + 1 + 1)), (a3, s.toks + 1 + 1 + 1 + 1, .str b3 (s.toks + 1 + 1 + 1 + 1 + 1))]) ha haS ?_ hn (by simp) ?_ h
  · intro s₁ F₁
    exact wpAny_bind (PyProof.Rows.ld F₁ hm (wpAny_bind (wpAny_standAt (wpAny_pure ⟨rfl, rfl⟩))) hk hl hy)
  · intro s₁ ht
    refine evalPairs_cons (wpAny_Constant_str (wpAny_bind (wpAny_Constant_str (wpAny_bind (wpAny_standAt (wpAny_pure ?_))))))
    refine evalPairs_cons (wpAny_Constant_str (wpAny_bind (wpAny_Constant_str (wpAny_bind (wpAny_standAt (wpAny_pure ?_))))))
    refine evalPairs_cons (wpAny_Constant_str (wpAny_bind (wpAny_Constant_str (wpAny_bind (wpAny_standAt (wpAny_pure ?_))))))
    refine evalPairs_nil ?_
    dsimp only
    rw [ht]
    exact ⟨rfl, rfl, rfl, rfl, rfl, by omega⟩
end
end At
end
section
open PySem PyProof.Rows Builtin Builtin.Str
set_option Elab.async false
set_option linter.unusedVariables false
namespace At
/-! replacement, over lists of signs -/
def rep (y z : List Nat) : Nat → List Nat → List Nat
  | _, [] => []
  | k + 1, _ :: r => rep y z k r
  | 0, c :: r => if y.isPrefixOf (c :: r) then z ++ rep y z (y.length - 1) r else c :: rep y z 0 r

def oc (y : List Nat) : Nat → Nat → List Nat → List Nat
  | _, _, [] => []
  | i, f, c :: r => if f ≤ i ∧ y.isPrefixOf (c :: r) = true then i :: oc y (i + 1) (i + y.length) r else oc y (i + 1) f r

theorem len_list (x : Str) : x.length = x.cps.toList.length := (Array.length_toList).symm

theorem sub_pre (x y : Str) (i : Nat) (hy : 0 < y.length) : (i + y.length ≤ x.length ∧ subAt x y i = true) ↔ y.cps.toList.isPrefixOf (x.cps.toList.drop i) = true := by
  rw [StrLaws.subAt_eq, List.isPrefixOf_iff_prefix, beq_iff_eq]
  have hl := len_list y
  have hx := len_list x
  constructor
  · rintro ⟨_, h⟩
    rw [← h]
    exact List.take_prefix _ _
  · intro h
    refine ⟨?_, ?_⟩
    · have h2 := h.length_le
      rw [List.length_drop] at h2
      omega
    · rw [hl]; exact (List.prefix_iff_eq_take.mp h).symm

theorem occ_oc (x y : Str) (hy : 0 < y.length) : ∀ (n i : Nat) (found : Array Nat) (free : Nat), i + n = x.length → found.size ≤ i →
    (forIn (List.range' i (n + 1)) (found, free) (StrLaws.occBody x y x.length (x.length + 1))).run.fst.toList = found.toList ++ oc y.cps.toList i free (x.cps.toList.drop i)
  | 0, i, found, free, hi, hf => by
    have hd : x.cps.toList.drop i = [] := List.drop_eq_nil_of_le (by have := len_list x; omega)
    rw [hd, List.range'_succ, List.range'_zero, List.forIn_cons]
    unfold StrLaws.occBody
    rw [if_neg (by
      rintro ⟨⟨_, h1⟩, _⟩
      omega)]
    simp [oc]
  | n + 1, i, found, free, hi, hf => by
    have hlt : i < x.cps.toList.length := by have := len_list x; omega
    have hd : x.cps.toList.drop i = x.cps.toList[i] :: x.cps.toList.drop (i + 1) := List.drop_eq_getElem_cons hlt
    rw [List.range'_succ, List.forIn_cons]
    unfold StrLaws.occBody
    have hly := len_list y
    by_cases hc : free ≤ i ∧ y.cps.toList.isPrefixOf (x.cps.toList.drop i) = true
    · have h2 := (sub_pre x y i hy).mpr hc.2
      rw [if_pos ⟨⟨⟨by show found.size < _; omega, hc.1⟩, h2.1⟩, h2.2⟩]
      have ih := occ_oc x y hy n (i + 1) (found.push i) (i + y.length) (by omega) (by simp; omega)
      show (forIn (List.range' (i + 1) (n + 1)) (found.push i, i + y.length) (StrLaws.occBody x y x.length (x.length + 1))).run.fst.toList = _
      rw [ih, hd, oc]
      rw [hd] at hc
      rw [if_pos hc, hly]
      simp
    · rw [if_neg (fun h => hc ⟨h.1.1.2, (sub_pre x y i hy).mp ⟨h.1.2, h.2⟩⟩)]
      have ih := occ_oc x y hy n (i + 1) found free (by omega) (by omega)
      show (forIn (List.range' (i + 1) (n + 1)) (found, free) (StrLaws.occBody x y x.length (x.length + 1))).run.fst.toList = _
      rw [ih, hd, oc]
      rw [hd] at hc
      rw [if_neg hc]

theorem parts_cons (x : Str) (w a : Nat) (cuts : List Nat) : ∃ p q, StrLaws.partsFrom x w a cuts = p :: q := StrLaws.partsFrom_ne x w a cuts
theorem join_cons2 (z p : Str) (l : List Str) (hl : l ≠ []) : (Str.join z (p :: l)).cps.toList = p.cps.toList ++ z.cps.toList ++ (Str.join z l).cps.toList := by
  cases l with
  | nil => exact absurd rfl hl
  | cons q r => show (p ++ z ++ Str.join z (q :: r)).cps.toList = _; simp [Str.cps_append]

theorem join_oc (x y z : Str) (hy : 0 < y.length) : ∀ (n i a : Nat), i + n = x.length → a ≤ x.length →
    (Str.join z (StrLaws.partsFrom x y.length a (oc y.cps.toList i a (x.cps.toList.drop i)))).cps.toList
      = (x.cps.toList.drop a).take (i - a) ++ rep y.cps.toList z.cps.toList (a - i) (x.cps.toList.drop i)
  | 0, i, a, hi, ha => by
    have hx := len_list x
    have hd : x.cps.toList.drop i = [] := List.drop_eq_nil_of_le (by omega)
    rw [hd]
    show (strSub x a x.length).cps.toList = _ ++ rep _ _ _ []
    rw [StrLaws.strSub_toList]
    obtain rfl : i = x.length := by omega
    cases h : a - x.length <;> simp [rep]
  | n + 1, i, a, hi, ha => by
    have hx := len_list x
    have hly := len_list y
    have hlt : i < x.cps.toList.length := by omega
    have hd : x.cps.toList.drop i = x.cps.toList[i] :: x.cps.toList.drop (i + 1) := List.drop_eq_getElem_cons hlt
    rw [hd, oc]
    split
    · rename_i hc
      have h2 : i + y.length ≤ x.length := by
        rw [← hd] at hc
        exact ((sub_pre x y i hy).mpr hc.2).1
      have ih := join_oc x y z hy n (i + 1) (i + y.length) (by omega) h2
      obtain ⟨p, q, hpq⟩ := parts_cons x y.length (i + y.length) (oc y.cps.toList (i + 1) (i + y.length) (x.cps.toList.drop (i + 1)))
      rw [← hly]
      show (Str.join z (strSub x a i :: StrLaws.partsFrom x y.length (i + y.length) (oc y.cps.toList (i + 1) (i + y.length) (x.cps.toList.drop (i + 1))))).cps.toList = _
      rw [join_cons2 _ _ _ (by rw [hpq]; exact List.cons_ne_nil _ _), ih, StrLaws.strSub_toList]
      have e1 : i + 1 - (i + y.length) = 0 := by omega
      have e2 : i + y.length - (i + 1) = y.cps.toList.length - 1 := by omega
      have e3 : a - i = 0 := by omega
      rw [e1, e2, e3, List.take_zero, List.nil_append, rep, if_pos hc.2, List.append_assoc]
    · rename_i hc
      have ih := join_oc x y z hy n (i + 1) a (by omega) ha
      rw [ih]
      by_cases hai : a ≤ i
      · have hp : ¬ y.cps.toList.isPrefixOf (x.cps.toList[i] :: x.cps.toList.drop (i + 1)) = true := fun h => hc ⟨hai, h⟩
        have e1 : a - (i + 1) = 0 := by omega
        have e2 : a - i = 0 := by omega
        have e3 : i + 1 - a = i - a + 1 := by omega
        rw [e1, e2, rep, if_neg hp, e3, List.take_add_one, List.getElem?_drop, show a + (i - a) = i by omega, List.getElem?_eq_getElem hlt]
        simp
      · have e1 : i + 1 - a = 0 := by omega
        have e2 : i - a = 0 := by omega
        have e3 : a - i = (a - (i + 1)) + 1 := by omega
        rw [e1, e2, e3, rep]

theorem replace_rep (x y z : Str) (hy : 0 < y.length) : (Txt.replace x y z).cps.toList = rep y.cps.toList z.cps.toList 0 x.cps.toList := by
  have ho : occurrences x y 0 x.length (x.length + 1) = oc y.cps.toList 0 0 x.cps.toList := by
    rw [StrLaws.occ_eq]
    have := occ_oc x y hy x.length 0 #[] 0 (by omega) (by simp)
    simpa using this
  have hj := join_oc x y z hy x.length 0 0 (by omega) (by omega)
  unfold Txt.replace
  rw [ho]
  have hy0 : (y.length == 0) = false := by simp; omega
  rw [hy0, Bool.false_and, Bool.or_false]
  split
  · rename_i he
    rw [List.isEmpty_iff] at he
    simp only [List.drop_zero] at hj
    rw [he] at hj
    have : StrLaws.partsFrom x y.length 0 [] = [strSub x 0 x.length] := rfl
    rw [this] at hj
    show x.cps.toList = _
    have h2 : (Str.join z [strSub x 0 x.length]) = strSub x 0 x.length := rfl
    rw [h2, StrLaws.sub_whole] at hj
    simpa using hj
  · rw [StrLaws.glued_eq_join, StrLaws.partsBetween_eq]
    simpa using hj

/-- a text that is made of tokens -/
theorem rep_tok_hit {y z : List Nat} (hy : y ≠ []) (rest : List Nat) : rep y z 0 (y ++ rest) = z ++ rep y z 0 rest := by
  have skip : ∀ (t : List Nat) (rest : List Nat), rep y z t.length (t ++ rest) = rep y z 0 rest := by
    intro t
    induction t with
    | nil => intro rest; rfl
    | cons c t ih => intro rest; exact ih rest
  cases y with
  | nil => exact absurd rfl hy
  | cons c t =>
    show rep (c :: t) z 0 (c :: (t ++ rest)) = _
    rw [rep, if_pos (by rw [List.isPrefixOf_iff_prefix]; exact ⟨rest, rfl⟩)]
    congr 1
    exact skip t rest
theorem rep_char {y z : List Nat} {c : Nat} {rest : List Nat} (h : y.isPrefixOf (c :: rest) = false) : rep y z 0 (c :: rest) = c :: rep y z 0 rest := by
  rw [rep, if_neg (by rw [h]; exact Bool.false_ne_true)]
theorem pre_ne {a c : Nat} {y rest : List Nat} (h : a ≠ c) : (a :: y).isPrefixOf (c :: rest) = false := by
  rw [List.isPrefixOf]
  simp [h]
/-- signs that are not the first of y are left -/
theorem rep_free {a : Nat} {y z : List Nat} : ∀ (t rest : List Nat), a ∉ t → rep (a :: y) z 0 (t ++ rest) = t ++ rep (a :: y) z 0 rest
  | [], _, _ => rfl
  | c :: t, rest, h => by
    rw [List.cons_append, rep_char (pre_ne (by rintro rfl; exact h (.head _))), rep_free t rest fun q => h (.tail _ q), List.cons_append]
/-- a token that begins like y, and is another -/
theorem rep_other {a : Nat} {y z t : List Nat} (rest : List Nat) (hp : (a :: y).isPrefixOf (a :: t ++ rest) = false) (ha : a ∉ t) : rep (a :: y) z 0 (a :: t ++ rest) = a :: t ++ rep (a :: y) z 0 rest := by
  rw [List.cons_append] at hp ⊢
  rw [rep_char hp, rep_free t rest ha, List.cons_append]

/-- token by token -/
theorem rep_map {y z : List Nat} {f g : Nat → List Nat} (hfg : ∀ c rest, rep y z 0 (f c ++ rest) = g c ++ rep y z 0 rest) : ∀ l : List Nat, rep y z 0 (l.flatMap f) = l.flatMap g
  | [] => rfl
  | c :: l => by rw [List.flatMap_cons, List.flatMap_cons, hfg, rep_map hfg l]
end At
end
section
open PySem PyProof.Rows Builtin Builtin.Str
set_option Elab.async false
set_option linter.unusedVariables false
namespace At
/-- signs that stand for others -/
def tk (l : List (Nat × List Nat)) (c : Nat) : List Nat := (l.lookup c).getD [c]
theorem mem_of_lookup {l : List (Nat × List Nat)} {c : Nat} {t : List Nat} (h : l.lookup c = some t) : (c, t) ∈ l := by
  induction l with
  | nil => cases h
  | cons p l ih =>
    obtain ⟨k, v⟩ := p
    rw [List.lookup_cons] at h
    by_cases e : (c == k) = true
    · rw [e] at h
      cases h
      obtain rfl := eq_of_beq e
      exact .head _
    · rw [Bool.eq_false_iff.mpr e] at h
      exact .tail _ (ih h)
theorem tk_cons_ne {l : List (Nat × List Nat)} {c k : Nat} {z : List Nat} (h : c ≠ k) : tk ((k, z) :: l) c = tk l c := by
  unfold tk; rw [List.lookup_cons, show (c == k) = false by simpa using h]
theorem tk_cons_eq {l : List (Nat × List Nat)} {k : Nat} {z : List Nat} : tk ((k, z) :: l) k = z := by
  unfold tk; rw [List.lookup_cons, show (k == k) = true by simp]; rfl
theorem tk_none {l : List (Nat × List Nat)} {c : Nat} (h : l.lookup c = none) : tk l c = [c] := by unfold tk; rw [h]; rfl
theorem tk_some {l : List (Nat × List Nat)} {c : Nat} {t : List Nat} (h : l.lookup c = some t) : tk l c = t := by unfold tk; rw [h]; rfl

theorem esc_stage {l : List (Nat × List Nat)} {k : Nat} {z : List Nat} (h : ∀ p ∈ l, k ∉ p.2 ∧ p.1 ≠ k) (c : Nat) (rest : List Nat) : rep [k] z 0 (tk l c ++ rest) = tk ((k, z) :: l) c ++ rep [k] z 0 rest := by
  cases hl : l.lookup c with
  | some t =>
    have := h _ (mem_of_lookup hl)
    rw [tk_cons_ne this.2, tk_some hl, rep_free t rest this.1]
  | none =>
    rw [tk_none hl]
    by_cases e : c = k
    · subst e
      rw [tk_cons_eq, rep_tok_hit (List.cons_ne_nil _ _)]
    · rw [tk_cons_ne e, tk_none hl, rep_free [c] rest (by simpa using Ne.symm e)]

def differ : List Nat → List Nat → Bool
  | a :: y, b :: t => a != b || differ y t
  | _, _ => false
theorem differ_pre : ∀ {y t : List Nat} (rest : List Nat), differ y t = true → y.isPrefixOf (t ++ rest) = false
  | [], _, _, h => by simp [differ] at h
  | _ :: _, [], _, h => by simp [differ] at h
  | a :: y, b :: t, rest, h => by
    rw [differ] at h
    rw [List.cons_append, List.isPrefixOf]
    by_cases e : a = b
    · subst e
      simp at h
      rw [differ_pre rest h]
      simp
    · simp [e]

theorem un_other {l : List (Nat × List Nat)} {y z : List Nat} (h38 : ∀ c, l.lookup c = none → c ≠ 38) (h : ∀ p ∈ l, differ (38 :: y) p.2 = true ∧ p.2.head? = some 38 ∧ 38 ∉ p.2.tail) (c : Nat) (rest : List Nat) :
    rep (38 :: y) z 0 (tk l c ++ rest) = tk l c ++ rep (38 :: y) z 0 rest := by
  cases hl : l.lookup c with
  | some t =>
    obtain ⟨h1, h2, h3⟩ := h _ (mem_of_lookup hl)
    rw [tk_some hl]
    cases t with
    | nil => cases h2
    | cons a t =>
      cases h2
      exact rep_other rest (differ_pre rest h1) h3
  | none =>
    rw [tk_none hl, rep_free [c] rest (by simpa using (Ne.symm (h38 c hl)))]
theorem un_stage {l : List (Nat × List Nat)} {k : Nat} {y : List Nat} (h38 : ∀ c, ((k, 38 :: y) :: l).lookup c = none → c ≠ 38) (hk : l.lookup k = none) (h : ∀ p ∈ l, differ (38 :: y) p.2 = true ∧ p.2.head? = some 38 ∧ 38 ∉ p.2.tail) (c : Nat) (rest : List Nat) :
    rep (38 :: y) [k] 0 (tk ((k, 38 :: y) :: l) c ++ rest) = tk l c ++ rep (38 :: y) [k] 0 rest := by
  by_cases e : c = k
  · subst e
    rw [tk_cons_eq, rep_tok_hit (List.cons_ne_nil _ _), tk_none hk]
  · rw [tk_cons_ne e]
    cases hl : l.lookup c with
    | some t =>
      obtain ⟨h1, h2, h3⟩ := h _ (mem_of_lookup hl)
      rw [tk_some hl]
      cases t with
      | nil => cases h2
      | cons a t =>
        cases h2
        exact rep_other rest (differ_pre rest h1) h3
    | none =>
      have : c ≠ 38 := h38 c (by rw [List.lookup_cons, show (c == k) = false by simpa using e]; exact hl)
      rw [tk_none hl, rep_free [c] rest (by simpa using (Ne.symm this))]

def tAmp : List Nat := [38, 97, 109, 112, 59]
def tGt : List Nat := [38, 103, 116, 59]
def tLt : List Nat := [38, 108, 116, 59]
def tN : List Nat := [38, 35, 49, 48, 59]
def tR : List Nat := [38, 35, 49, 51, 59]
def tT : List Nat := [38, 35, 57, 59]
def tQ : List Nat := [38, 113, 117, 111, 116, 59]
/-- as they are written, and as they are read -/
def rulesE : List (Nat × List Nat) := [(9, tT), (13, tR), (10, tN), (60, tLt), (62, tGt), (38, tAmp)]
def rulesQ : List (Nat × List Nat) := (34, tQ) :: rulesE
def rulesU : List (Nat × List Nat) := [(60, tLt), (62, tGt), (10, tN), (13, tR), (9, tT), (38, tAmp)]
def rulesV : List (Nat × List Nat) := [(60, tLt), (62, tGt), (34, tQ), (10, tN), (13, tR), (9, tT), (38, tAmp)]

theorem look_ne {l : List (Nat × List Nat)} {c k : Nat} {z : List Nat} (h : c ≠ k) : ((k, z) :: l).lookup c = l.lookup c := by rw [List.lookup_cons, show (c == k) = false by simpa using h]
theorem same_rules (c : Nat) : rulesE.lookup c = rulesU.lookup c := by
  by_cases h1 : c = 9; · subst h1; rfl
  by_cases h2 : c = 13; · subst h2; rfl
  by_cases h3 : c = 10; · subst h3; rfl
  by_cases h4 : c = 60; · subst h4; rfl
  by_cases h5 : c = 62; · subst h5; rfl
  by_cases h6 : c = 38; · subst h6; rfl
  unfold rulesE rulesU
  simp only [look_ne h1, look_ne h2, look_ne h3, look_ne h4, look_ne h5, look_ne h6]
theorem same_rulesQ (c : Nat) : rulesQ.lookup c = rulesV.lookup c := by
  by_cases h0 : c = 34; · subst h0; rfl
  have := same_rules c
  unfold rulesQ
  rw [look_ne h0, this]
  by_cases h4 : c = 60; · subst h4; rfl
  by_cases h5 : c = 62; · subst h5; rfl
  unfold rulesU rulesV
  simp only [look_ne h0, look_ne h4, look_ne h5]

theorem flat_tk_congr {l m : List (Nat × List Nat)} (h : ∀ c, l.lookup c = m.lookup c) (x : List Nat) : x.flatMap (tk l) = x.flatMap (tk m) := by
  congr 1; funext c; unfold tk; rw [h]
theorem flat_tk_nil (x : List Nat) : x.flatMap (tk []) = x := by
  have : tk [] = fun c => [c] := by funext c; rfl
  rw [this]; simp
theorem flat_len {l : List (Nat × List Nat)} (h : ∀ p ∈ l, p.2.length ≤ 6) : ∀ x : List Nat, (x.flatMap (tk l)).length ≤ 6 * x.length
  | [] => Nat.le_refl _
  | c :: x => by
    rw [List.flatMap_cons, List.length_append, List.length_cons]
    have h1 := flat_len h x
    have h2 : (tk l c).length ≤ 6 := by
      cases hl : l.lookup c with
      | some t => rw [tk_some hl]; exact h _ (mem_of_lookup hl)
      | none => rw [tk_none hl]; show 1 ≤ 6; decide
    omega

/-! what the reader does -/
def unL (x : List Nat) : List Nat := rep tAmp [38] 0 (rep tT [9] 0 (rep tR [13] 0 (rep tN [10] 0 (rep tQ [34] 0 (rep tGt [62] 0 (rep tLt [60] 0 x))))))
theorem un_e (x : List Nat) : unL (x.flatMap (tk rulesE)) = x := by
  have h38 : ∀ {l : List (Nat × List Nat)} {t : List Nat}, l.lookup 38 = some t → ∀ c, l.lookup c = none → c ≠ 38 := by
    rintro l t h c hc rfl
    rw [h] at hc; cases hc
  rw [flat_tk_congr same_rules]
  unfold unL rulesU
  rw [tLt, rep_map (un_stage (h38 rfl) rfl (by decide))]
  rw [tGt, rep_map (un_stage (h38 rfl) rfl (by decide))]
  rw [tQ, rep_map (un_other (h38 rfl) (by decide))]
  rw [tN, rep_map (un_stage (h38 rfl) rfl (by decide))]
  rw [tR, rep_map (un_stage (h38 rfl) rfl (by decide))]
  rw [tT, rep_map (un_stage (h38 rfl) rfl (by decide))]
  rw [tAmp, rep_map (un_stage (h38 rfl) rfl (by decide))]
  exact flat_tk_nil x
theorem un_q (x : List Nat) : unL (x.flatMap (tk rulesQ)) = x := by
  have h38 : ∀ {l : List (Nat × List Nat)} {t : List Nat}, l.lookup 38 = some t → ∀ c, l.lookup c = none → c ≠ 38 := by
    rintro l t h c hc rfl
    rw [h] at hc; cases hc
  rw [flat_tk_congr same_rulesQ]
  unfold unL rulesV
  rw [tLt, rep_map (un_stage (h38 rfl) rfl (by decide))]
  rw [tGt, rep_map (un_stage (h38 rfl) rfl (by decide))]
  rw [tQ, rep_map (un_stage (h38 rfl) rfl (by decide))]
  rw [tN, rep_map (un_stage (h38 rfl) rfl (by decide))]
  rw [tR, rep_map (un_stage (h38 rfl) rfl (by decide))]
  rw [tT, rep_map (un_stage (h38 rfl) rfl (by decide))]
  rw [tAmp, rep_map (un_stage (h38 rfl) rfl (by decide))]
  exact flat_tk_nil x

theorem esc_e (x : List Nat) : rep [9] tT 0 (rep [13] tR 0 (rep [10] tN 0 (rep [60] tLt 0 (rep [62] tGt 0 (rep [38] tAmp 0 x))))) = x.flatMap (tk rulesE) := by
  conv => lhs; rw [← flat_tk_nil x]
  rw [rep_map (esc_stage (by decide)), rep_map (esc_stage (by decide)), rep_map (esc_stage (by decide)), rep_map (esc_stage (by decide)), rep_map (esc_stage (by decide)), rep_map (esc_stage (by decide))]
  rfl
theorem esc_q (x : List Nat) : rep [34] tQ 0 (x.flatMap (tk rulesE)) = x.flatMap (tk rulesQ) := rep_map (esc_stage (by decide)) x
theorem not_in_flat {l : List (Nat × List Nat)} {k : Nat} (h : ∀ p ∈ l, k ∉ p.2) (hk : (l.lookup k).isSome) (x : List Nat) : k ∉ x.flatMap (tk l) := by
  intro hm
  obtain ⟨c, _, hc⟩ := List.mem_flatMap.mp hm
  cases hl : l.lookup c with
  | some t => rw [tk_some hl] at hc; exact h _ (mem_of_lookup hl) hc
  | none =>
    rw [tk_none hl] at hc
    obtain rfl := List.mem_singleton.mp hc
    rw [hl] at hk; cases hk
end At
end
section
open PySem PySem.W PySem.Calls PyProof.Rows Builtin Builtin.Str
set_option Elab.async false
set_option maxRecDepth 100000
set_option linter.unusedVariables false
namespace At
/-- a def is entered: its names are written -/
theorem call_fn2 {prog : Program} {w : World} {A : Around} {E : Value → Shared → Prop} {s : Shared} {K : Frag} {Q : Value → Shared → Prop} {name qual : Str} {params : Arguments} {body : List Stmt} {scope : Scope} {dV kV doc pm cdv ct oc : Value} {an od : Option Addr} {osl : Array (Option Value)} {f : Addr} {pos : List Value} {kw : List (Str × Value)} (binds : List (Str × Value))
    (X : K.In s.heap) (hlim : s.heap.NoLimit)
    (ho : K.lookup f = some ⟨oc, od, .func (fnOf name qual params body scope dV kV doc pm an cdv ct), osl⟩) (hcd : codeIn K cdv qual = true) (hroom : A.depth < recursionLimit)
    (hbind : BindsTo s (fnOf name qual params body scope dV kV doc pm an cdv ct) ⟨pos, kw⟩ binds) (hloc : ∀ y ∈ binds, scope.names.lookup y.1 = some .local)
    (hb : 0 < binds.length) (hcell : ∀ x ∈ scope.names, x.2 ≠ .cell) (hco : scope.isCoroutine = false) (hgen : scope.isGenerator = false) (hk : scope.kind = .function)
    (h : ∀ L h₁ tk, Fr s.heap L h₁ (fun y => binds.reverse.lookup y) → News s.heap L h₁ [] → L = s.heap.objs.size → 0 < tk →
      wpAny (model prog w) (A.deeper (envOf qual scope L f cdv)) (execs body (envOf qual scope L f cdv))
        (fun fl s' => Q (match fl with | .ret v => v | _ => .none) s') noE { s with heap := h₁, toks := tk }) :
    wpAny (model prog w) A (call (.ref f) pos kw) Q E s :=
  call_fn X hlim ho hcd hroom hbind hloc (fun L h₁ F N e => h L h₁ _ F N e (by omega)) hcell hco hgen hk
/-! strings that are replaced -/
theorem gen_toks {α : Type} {M : Model} {A : Around} {c : Sem α} {Q : α → Shared → Prop} {E : Value → Shared → Prop} {a : Heap} {g : Array GenState} {st : Drawn} {tk : Nat} {wd : OsState} (h0 : 0 < tk)
    (h : ∀ tk', 0 < tk' → wpAny M A c Q E ⟨a, g, st, tk', wd⟩) : wpAny M A c Q E ⟨a, g, st, tk, wd⟩ := h tk h0

theorem len_replace (x y z : Str) {b : Nat} (hz : z.length ≤ b) : (Txt.replace x y z).length + 1 ≤ (x.length + 1) * (b + 1) := by
  unfold Txt.replace
  split
  · have := Nat.le_mul_of_pos_right (x.length + 1) (Nat.succ_pos b); omega
  · have h1 := StrLaws.occ_length_le x y 0 x.length (x.length + 1)
    have hy : (glued y (partsBetween x (occurrences x y 0 x.length (x.length + 1)) y.length)).length = x.length := by rw [StrLaws.glued_between_self]
    rw [size_glued, length_partsBetween, Nat.add_sub_cancel] at hy
    rw [size_glued, length_partsBetween, Nat.add_sub_cancel]
    have h2 : (occurrences x y 0 x.length (x.length + 1)).length * z.length ≤ (x.length + 1) * b := Nat.mul_le_mul h1 hz
    rw [Nat.mul_add, Nat.mul_one]
    omega

theorem replaceB {prog : Program} {w : World} {A : Around} {E : Value → Shared → Prop} {a : Heap} {g : Array GenState} {st : Drawn} {tk : Nat} {wd : OsState} {x y z : Str} {t u v : Nat} {Q : Value → Shared → Prop} (b : Nat)
    (hu : u ≠ 0) (hv : v ≠ 0) (huv : u ≠ v) (hyz : (y == z) = false) (hz : z.length ≤ b) (hb : (x.length + 1) * (b + 1) ≤ 16777216)
    (hq : ∀ t' k, tk ≤ k → (Txt.replace x y z).length + 1 ≤ (x.length + 1) * (b + 1) → Q (.str (Txt.replace x y z) t') ⟨a, g, st, k, wd⟩) : wpAny (model prog w) A (call (.builtin "str.replace") [.str x t, .str y u, .str z v]) Q E ⟨a, g, st, tk, wd⟩ := by
  refine wpAny_with_toks (n := tk) (Nat.le_refl _) (SC.replace hu hv huv hyz ?_ fun t' k => fun hk => hq t' k hk (len_replace x y z hz))
  have h1 : (x.length + 1) * z.length ≤ (x.length + 1) * b := Nat.mul_le_mul_left _ hz
  rw [Nat.mul_add, Nat.mul_one] at hb
  omega

def Reps (l : List (Str × Str)) (x : Str) : Str := l.foldl (fun x p => Txt.replace x p.1 p.2) x
theorem len_reps {b : Nat} : ∀ (l : List (Str × Str)) (x : Str), (∀ p ∈ l, p.2.length ≤ b) → (Reps l x).length + 1 ≤ (x.length + 1) * (b + 1) ^ l.length
  | [], x, _ => by simp [Reps]
  | p :: l, x, h => by
    have h1 := len_reps l (Txt.replace x p.1 p.2) fun q hq => h q (.tail _ hq)
    have h2 := len_replace x p.1 p.2 (h p (.head _))
    show (Reps l (Txt.replace x p.1 p.2)).length + 1 ≤ _
    refine Nat.le_trans h1 (Nat.le_trans (Nat.mul_le_mul_right _ h2) ?_)
    rw [List.length_cons, Nat.pow_succ, Nat.mul_assoc, Nat.mul_comm (b + 1)]
    exact Nat.le_refl _

/-- what stands in a table of replacements -/
def SEnt (b : Nat) (e : DictEntry) (p : Str × Str) : Prop := ∃ t u, e.key = .str p.1 t ∧ e.val = .str p.2 u ∧ t ≠ 0 ∧ u ≠ 0 ∧ t ≠ u ∧ (p.1 == p.2) = false ∧ p.2.length ≤ b
def SEnts (b : Nat) (es : Array DictEntry) (l : List (Str × Str)) : Prop := es.size = l.length ∧ ∀ (i : Nat) e p, es[i]? = some e → l[i]? = some p → SEnt b e p

theorem reps_take {l : List (Str × Str)} {i : Nat} {p : Str × Str} (h : l[i]? = some p) (x : Str) : Reps (l.take (i + 1)) x = Txt.replace (Reps (l.take i) x) p.1 p.2 := by
  unfold Reps
  rw [List.take_add_one, h, List.foldl_append]
  rfl


theorem raw_method {prog : Program} {w : World} {A : Around} {E : Value → Shared → Prop} {s : Shared} {d : Addr} {es : Array DictEntry} {ep : Nat} {name : Str} {id : String} {pl : Sem Bool} {Q : Value × List Value → Shared → Prop} (hid : dictMethodId name = some id) (hm : RawD s.heap d es ep) (h : Q (.builtin id, [.ref d]) s) :
    wpAny (model prog w) A (getMethod (.ref d) name pl) Q E s := by
  have noD : ∀ b, Value.ref d = .ref b → ∃ ob, s.heap.get? b = some ob ∧ ob.dict = none := fun b e => by injection e with e; subst e; exact ⟨_, hm, rfl⟩
  unfold dictMethodId at hid
  split at hid
  · rename_i e; subst e; cases hid; exact getMethod_builtin (raw_type hm) PySem.F.plainAttrs_dict PySem.F.slot_dict_get PySem.F.type_dict_get noD h
  split at hid
  · rename_i e; subst e; cases hid; exact getMethod_builtin (raw_type hm) PySem.F.plainAttrs_dict PySem.F.slot_dict_pop PySem.F.type_dict_pop noD h
  split at hid
  · rename_i e; subst e; cases hid; exact getMethod_builtin (raw_type hm) PySem.F.plainAttrs_dict PySem.F.slot_dict_setdefault PySem.F.type_dict_setdefault noD h
  split at hid
  · rename_i e; subst e; cases hid; exact getMethod_builtin (raw_type hm) PySem.F.plainAttrs_dict PySem.F.slot_dict_update PySem.F.type_dict_update noD h
  split at hid
  · rename_i e; subst e; cases hid; exact getMethod_builtin (raw_type hm) PySem.F.plainAttrs_dict PySem.F.slot_dict_copy PySem.F.type_dict_copy noD h
  split at hid
  · rename_i e; subst e; cases hid; exact getMethod_builtin (raw_type hm) PySem.F.plainAttrs_dict PySem.F.slot_dict_clear PySem.F.type_dict_clear noD h
  split at hid
  · rename_i e; subst e; cases hid; exact getMethod_builtin (raw_type hm) PySem.F.plainAttrs_dict PySem.F.slot_dict_keys PySem.F.type_dict_keys noD h
  split at hid
  · rename_i e; subst e; cases hid; exact getMethod_builtin (raw_type hm) PySem.F.plainAttrs_dict PySem.F.slot_dict_values PySem.F.type_dict_values noD h
  split at hid
  · rename_i e; subst e; cases hid; exact getMethod_builtin (raw_type hm) PySem.F.plainAttrs_dict PySem.F.slot_dict_items PySem.F.type_dict_items noD h
  · cases hid

/-- what stands below every call -/
def Base (w : World) (h : Heap) : Prop := (At.hd.heap_1 w.params).In h ∧ ∃ p loose mean mg mb, Top p loose mean mg mb h
theorem Base.keeps {w : World} {h h' : Heap} (B : Base w h) (k : ∀ b o, h.get? b = some o → h'.get? b = some o) : Base w h' :=
  ⟨fun a o e => k _ _ (B.1 a o e), let ⟨p, l, me, mg, mb, T⟩ := B.2; ⟨p, l, me, mg, mb, T.keeps k⟩⟩
theorem Base.nolimit {w : World} {h : Heap} (B : Base w h) : h.NoLimit := let ⟨_, _, _, _, _, T⟩ := B.2; T.nolimit

/-- a contract is used -/
theorem use_fr {M : Model} {A A₁ : Around} {α : Type} {t : Sem α} {s : Shared} {P : α → Heap → Prop} {Q : α → Shared → Prop} {E : Value → Shared → Prop} {h₀ : Heap} {L : Addr} {m : Str → Option Value} {news : List (Addr × Obj)} (d : Does M A₁ t s P)
    (hh : A₁.handled = A.handled) (hd : A.depth ≤ A₁.depth) (hu : A.units ≤ A₁.units) (hf : A₁.frames = none) (hg : A₁.guards = none) (F : Fr h₀ L s.heap m) (N : News h₀ L s.heap news)
    (h : ∀ v h' tk', s.toks ≤ tk' → s.heap.StaysIn h' → Fr h₀ L h' m → News h₀ L h' news → P v h' → Q v { s with heap := h', toks := tk' }) : wpAny M A t Q E s :=
  does_use d hh hd hu hf hg fun v h' tk' ht k hP => h v h' tk' ht k (F.keeps k) (News.keeps N k) hP
end At
end
section
open PySem PySem.W PySem.Calls PyProof.Rows Builtin Builtin.Str At
set_option maxRecDepth 100000
set_option linter.unusedVariables false
theorem At.fill_all : (PySem.Challenge.rw_at0009_01 = PySem.Challenge.rw_at0009_01) ∧ (At.hd.heap_1 = At.hd.heap_1) := by
  k_fill
  exact ⟨rfl, rfl⟩
local macro_rules | `(tactic| walk_at "zz enter") => `(tactic| ((case kX => assumption); (case kT => exact Top.nolimit (by assumption)); (case ko => k_is); (case kc => k_is); (case kr => decide); (case kb => first | exact BindsTo.of_eq rfl | exact binds_K (by assumption) rfl (by k_is) rfl rfl rfl); (case kl => exact locs rfl); (case k0 => exact Nat.zero_lt_succ _); (case c1 => decide); (case c2 => rfl); (case c3 => rfl); (case c4 => rfl); intro L h₁ tk F N hL htk; (try dsimp only)))
local macro_rules | `(tactic| walk_at "zz go") => `(tactic| repeat' (first | (walk1 <;> (try dsimp only)) | (k_unfold; (try dsimp only)) | (leave1; try dsimp only)))
local macro_rules | `(tactic| walk_at "eval Name") => `(tactic| (plain_pass; k_here; k_dflt (refine' ld ?k1 ?k2 ?_; (case k1 => k_asm); (case k2 => assumption); k_whole)))
local macro_rules | `(tactic| walk_at "exec For Name Call cons nil") => `(tactic| (with_unfolding_all refine wpAny_For ?_ (by intro _; rfl)))
local macro_rules | `(tactic| walk_at "exec For Tuple Call cons nil") => `(tactic| (with_unfolding_all refine wpAny_For ?_ (by intro _; rfl)))

local macro_rules | `(tactic| walk_at "execs cons") => `(tactic| (k_here; (refine gen_toks (by omega) ?_; intro tk htk; with_unfolding_all refine wpAny_execs_cons ?_)))
local macro_rules | `(tactic| walk_at "call builtin:str.replace") => `(tactic| (k_here; (first | refine replaceB 1 (by omega) (by omega) (by omega) (by first | assumption | decide +kernel) (by decide +kernel) (by omega) ?_ | refine replaceB 6 (by omega) (by omega) (by omega) (by first | assumption | decide +kernel) (by decide +kernel) (by omega) ?_); intro t' k' hk' hln))


local macro_rules | `(tactic| walk_at "zz raw") => `(tactic| first | assumption | exact Fr.keep (by assumption) _ _ (by assumption))
local macro_rules | `(tactic| walk_at "getMethod ref") => `(tactic| (k_here; k_dflt (refine' raw_method ?q1 ?q2 ?_; (case' q2 => walk_at "zz raw"); (case q1 => exact rfl))))
local macro_rules | `(tactic| walk_at "truthy ref") => `(tactic| (k_here; k_dflt (refine' raw_truthy ?q1 ?q2 ?q3 ?_; (case' q2 => walk_at "zz raw"); (case q1 => assumption); (case q3 => assumption))))
local macro_rules | `(tactic| walk_at "zz use") => `(tactic| ((case ub => exact Base.keeps (by assumption) (Fr.keep (by assumption))); (case u1 => rfl); (case u2 => exact Nat.le_of_ble_eq_true rfl); (case u3 => exact Nat.le_of_ble_eq_true rfl); (case u4 => rfl); (case u5 => rfl); (case u6 => assumption); (case u7 => first | assumption | exact News.nil)))
local macro_rules | `(tactic| walk_at "execs nil") => `(tactic| (k_here; (refine gen_toks (by omega) ?_; intro tk htk; with_unfolding_all refine wpAny_execs_nil ?_)))
section
open PySem PySem.W PySem.Calls PyProof.Rows Builtin Builtin.Str
set_option Elab.async false
set_option maxRecDepth 100000
set_option linter.unusedVariables false
namespace At
set_option maxHeartbeats 1000000 in
theorem dict_replace {prog : Program} {w : World} {s : Shared} {d : Addr} {x : Str} {t : Tok} {es : Array DictEntry} {ep : Nat} {l : List (Str × Str)} (b : Nat)
    (B : Base w s.heap) (hdS : (d == sysModules) = false) (hd : RawD s.heap d es ep) (he : SEnts b es l) (hb : (x.length + 1) * (b + 1) ^ l.length ≤ 16777216) :
    Does (model prog w) (Lv 20) (call (.ref 209) [.str x t, .ref d]) s (fun v h' => ∃ u, v = .str (Reps l x) u) := by
  refine does_intro fun Q hret => ?_
  obtain ⟨X, p, loose, mean, mg, mb, T⟩ := id B
  refine' call_fn2 [(Str.ofString "s", .str x t), (Str.ofString "d", .ref d)] ?kX ?kT ?ko ?kc ?kr ?kb ?kl ?k0 ?c1 ?c2 ?c3 ?c4 ?_
  walk_at "zz enter"
  walk_at "zz go"
  rename_i L h₁ _ F N hL _ tk₁ htk₁
  have hd₁ := F.keep _ _ hd
  refine items_view hdS hd₁ ?_
  have F₂ := F.push { cls := .type "dict_items", data := .fields #[.ref d] }
  have N₂ := News.push F N { cls := .type "dict_items", data := .fields #[.ref d] }
  have hv₂ := Heap.get?_push_size (o := { cls := .type "dict_items", data := .fields #[.ref d] }) h₁ rfl
  refine iter_items (x := Str.ofString "key") (y := Str.ofString "value") rfl rfl rfl rfl hv₂ (fun h k => k.1 _ _ hd) F₂ N₂ (fun i m => ∃ u, m "s" = some (.str (Reps (l.take i) x) u)) ⟨_, rfl⟩ ?_ ?_
  · intro i e m₁ h tk o hi hJ F₁ N₁
    obtain ⟨u, hx⟩ := hJ
    obtain ⟨hsz, hent⟩ := he
    have hil : i < l.length := by rw [← hsz]; exact (Array.getElem?_eq_some_iff.mp hi).1
    obtain ⟨t1, t2, hk, hv, z3, z4, z5, z6, z7⟩ := hent i e l[i] hi (List.getElem?_eq_getElem hil)
    rw [hk, hv] at F₁
    have hlen : ((Reps (l.take i) x).length + 1) * (b + 1) ≤ 16777216 := by
      refine Nat.le_trans (Nat.mul_le_mul_right _ (len_reps (b := b) (l.take i) x fun p hp => ?_)) ?_
      · obtain ⟨j, hj, rfl⟩ := List.mem_iff_getElem.mp (List.mem_of_mem_take hp)
        obtain ⟨_, _, _, _, _, _, _, _, h5⟩ := hent j es[j] l[j] (Array.getElem?_eq_getElem (by omega)) (List.getElem?_eq_getElem hj)
        exact h5
      · rw [Nat.mul_assoc, ← Nat.pow_succ]
        refine Nat.le_trans (Nat.mul_le_mul_left _ (Nat.pow_le_pow_right (by omega) (?_ : (l.take i).length + 1 ≤ l.length))) hb
        rw [List.length_take]; omega
    have hr := reps_take (List.getElem?_eq_getElem hil) x
    have htk : 0 < tk + 1 := by omega
    walk_at "zz go"
    refine replaceB b z3 z4 z5 z6 z7 hlen ?_
    intro t' k' _ _
    walk_at "zz go"
    refine PurePost.next (by assumption) (by assumption) (fun _ hp => hp) ⟨t', ?_⟩
    rw [hr]
    rfl
  · intro h' tk m' F' N' hJ
    obtain ⟨u, hx⟩ := hJ
    rw [he.1, List.take_length] at hx
    walk_at "zz go"
    exact hret _ _ _ F'.keep ⟨_, rfl⟩

def esc3 (x : Str) : Str := Txt.replace (Txt.replace (Txt.replace x (Str.ofString "&") (Str.ofString "&amp;")) (Str.ofString ">") (Str.ofString "&gt;")) (Str.ofString "<") (Str.ofString "&lt;")
def escD (l : List (Str × Str)) (x : Str) : Str := Reps l (esc3 x)

set_option maxHeartbeats 1000000 in
theorem escape_c {prog : Program} {w : World} {s : Shared} {d : Addr} {x : Str} {t : Tok} {es : Array DictEntry} {ep : Nat} {l : List (Str × Str)}
    (B : Base w s.heap) (hdS : (d == sysModules) = false) (hd : RawD s.heap d es ep) (he : SEnts 6 es l) (hl : l.length = 3) (hx : x.length ≤ 19) :
    Does (model prog w) (Lv 18) (call (.ref 218) [.str x t, .ref d]) s (fun v h' => ∃ u, v = .str (escD l x) u) := by
  refine does_intro fun Q hret => ?_
  obtain ⟨X, p, loose, mean, mg, mb, T⟩ := id B
  have hes : es.size < 2 ^ 63 := by rw [he.1, hl]; decide
  refine' call_fn2 [(Str.ofString "data", .str x t), (Str.ofString "entities", .ref d)] ?kX ?kT ?ko ?kc ?kr ?kb ?kl ?k0 ?c1 ?c2 ?c3 ?c4 ?_
  walk_at "zz enter"
  walk_at "zz go"
  · have hlen : (esc3 x).length + 1 ≤ (x.length + 1) * 343 := by unfold esc3; omega
    have hb : ((esc3 x).length + 1) * (6 + 1) ^ l.length ≤ 16777216 := by
      rw [hl]
      simp only [Nat.reduceAdd, Nat.reducePow]
      omega
    refine' use_fr (A₁ := Lv 20) (dict_replace (x := esc3 x) 6 ?ub hdS ?ud he hb) ?u1 ?u2 ?u3 ?u4 ?u5 ?u6 ?u7 ?_
    (case ud => exact Fr.keep (by assumption) _ _ hd)
    walk_at "zz use"
    intro v h' tk' htk' k F' N' hv
    obtain ⟨u, rfl⟩ := hv
    have : 0 < tk' := Nat.lt_of_lt_of_le (by assumption) htk'
    walk_at "zz go"
    exact hret _ _ _ (Fr.keep (by assumption)) ⟨_, rfl⟩
  · have hz := (by assumption : (es.size != 0) = false)
    rw [he.1, hl] at hz
    cases hz

def ents3 : List (Str × Str) := [(Str.ofString "\n", Str.ofString "&#10;"), (Str.ofString "\r", Str.ofString "&#13;"), (Str.ofString "\t", Str.ofString "&#9;")]
theorem rep_lit {a b : Str} {l r : List Nat} (x : Str) (ha : a.cps.toList = l) (hb : b.cps.toList = r) (h0 : 0 < a.length) : (Txt.replace x a b).cps.toList = rep l r 0 x.cps.toList := by
  rw [replace_rep x a b h0, ha, hb]
theorem escD_list (x : Str) : (escD ents3 x).cps.toList = x.cps.toList.flatMap (tk rulesE) := by
  rw [← esc_e]
  show (Txt.replace (Txt.replace (Txt.replace (Txt.replace (Txt.replace (Txt.replace x (Str.ofString "&") (Str.ofString "&amp;")) (Str.ofString ">") (Str.ofString "&gt;")) (Str.ofString "<") (Str.ofString "&lt;")) (Str.ofString "\n") (Str.ofString "&#10;")) (Str.ofString "\r") (Str.ofString "&#13;")) (Str.ofString "\t") (Str.ofString "&#9;")).cps.toList = _
  rw [rep_lit (l := [9]) (r := tT) _ (by decide +kernel) (by decide +kernel) (by decide +kernel), rep_lit (l := [13]) (r := tR) _ (by decide +kernel) (by decide +kernel) (by decide +kernel),
    rep_lit (l := [10]) (r := tN) _ (by decide +kernel) (by decide +kernel) (by decide +kernel), rep_lit (l := [60]) (r := tLt) _ (by decide +kernel) (by decide +kernel) (by decide +kernel),
    rep_lit (l := [62]) (r := tGt) _ (by decide +kernel) (by decide +kernel) (by decide +kernel), rep_lit (l := [38]) (r := tAmp) _ (by decide +kernel) (by decide +kernel) (by decide +kernel)]
def quo (x : Str) : Str := Txt.replace x (Str.ofString "\"") (Str.ofString "&quot;")
theorem quo_list (x : Str) : (quo (escD ents3 x)).cps.toList = x.cps.toList.flatMap (tk rulesQ) := by
  rw [← esc_q, ← escD_list]
  exact rep_lit (l := [34]) (r := tQ) _ (by decide +kernel) (by decide +kernel) (by decide +kernel)
theorem escD_len (x : Str) : (escD ents3 x).length ≤ 6 * x.length := by
  rw [len_list, len_list x, escD_list]; exact flat_len (by decide) _
theorem quo_len (x : Str) : (quo (escD ents3 x)).length ≤ 6 * x.length := by
  rw [len_list, len_list x, quo_list]; exact flat_len (by decide) _

def dq : Str := Str.ofString "\""
def sq : Str := Str.ofString "'"
def absent (x y : Str) : Bool := (occurrences x y 0 x.length 1).isEmpty
def qa (x : Str) : Str := bif absent (escD ents3 x) dq then dq ++ escD ents3 x ++ dq else bif absent (escD ents3 x) sq then sq ++ escD ents3 x ++ sq else dq ++ quo (escD ents3 x) ++ dq
theorem absent_iff (x : Str) (c : Nat) : absent x ⟨#[c]⟩ = true ↔ c ∉ x.cps.toList := by
  have h := StrLaws.found_iff x ⟨#[c]⟩
  have h2 : (∃ i, i + (⟨#[c]⟩ : Str).length ≤ x.length ∧ subAt x ⟨#[c]⟩ i = true) ↔ c ∈ x.cps.toList := by
    rw [List.mem_iff_getElem?]
    exact ⟨fun ⟨i, h⟩ => ⟨i, (StrLaws.subAt_one x c i).mp h⟩, fun ⟨i, h⟩ => ⟨i, (StrLaws.subAt_one x c i).mpr h⟩⟩
  rw [h2] at h
  unfold absent
  rw [← h]
  cases (occurrences x ⟨#[c]⟩ 0 x.length 1).isEmpty <;> simp
theorem dq_eq : dq = ⟨#[34]⟩ := by decide +kernel
theorem sq_eq : sq = ⟨#[39]⟩ := by decide +kernel
/-- a value as it is written: between two signs that it lacks, and it can be read -/
theorem qa_spec (x : Str) : ∃ q body, (q = 34 ∨ q = 39) ∧ (qa x).cps.toList = q :: (body ++ [q]) ∧ q ∉ body ∧ unL body = x.cps.toList ∧ body.length ≤ 6 * x.length := by
  have e1 : ∀ (y : Str) c, (⟨#[c]⟩ ++ y ++ ⟨#[c]⟩ : Str).cps.toList = c :: (y.cps.toList ++ [c]) := fun y c => by simp [Str.cps_append]
  have l1 := escD_len x
  have l2 := quo_len x
  rw [len_list] at l1 l2
  unfold qa
  rw [dq_eq, sq_eq]
  cases h1 : absent (escD ents3 x) ⟨#[34]⟩ with
  | true => exact ⟨34, _, .inl rfl, e1 _ _, (absent_iff _ _).mp h1, by rw [escD_list, un_e], l1⟩
  | false =>
    cases h2 : absent (escD ents3 x) ⟨#[39]⟩ with
    | true => exact ⟨39, _, .inr rfl, e1 _ _, (absent_iff _ _).mp h2, by rw [escD_list, un_e], l1⟩
    | false => exact ⟨34, _, .inl rfl, e1 _ _, by rw [quo_list]; exact not_in_flat (by decide) rfl _, by rw [quo_list, un_q], l2⟩
theorem qa_len (x : Str) : (qa x).length ≤ 6 * x.length + 2 := by
  obtain ⟨q, body, _, h, _, _, hl⟩ := qa_spec x
  rw [len_list, h]; simp; omega

theorem sent_mk {b : Nat} {k v : Str} {t u : Nat} {hs : Int} (ht : t ≠ 0) (hu : u ≠ 0) (htu : t ≠ u) (hk : (k == v) = false) (hl : v.length ≤ b) : SEnt b ⟨hs, .str k t, .str v u⟩ (k, v) := ⟨t, u, rfl, rfl, ht, hu, htu, hk, hl⟩
theorem sents3 {w : World} {t : Nat} (ht : 0 < t) : SEnts 6 (sEnts w [(Str.ofString "\n", t, .str (Str.ofString "&#10;") (t + 1)), (Str.ofString "\r", t + 1 + 1, .str (Str.ofString "&#13;") (t + 1 + 1 + 1)), (Str.ofString "\t", t + 1 + 1 + 1 + 1, .str (Str.ofString "&#9;") (t + 1 + 1 + 1 + 1 + 1))]).toArray ents3 := by
  refine ⟨rfl, ?_⟩
  intro i e p he hp
  rcases i with _ | _ | _ | i
  · cases he; cases hp; exact sent_mk (k := Str.ofString "\n") (v := Str.ofString "&#10;") (t := t) (u := t + 1) (by omega) (by omega) (by omega) (by decide +kernel) (by decide +kernel)
  · cases he; cases hp; exact sent_mk (k := Str.ofString "\r") (v := Str.ofString "&#13;") (t := t + 1 + 1) (u := t + 1 + 1 + 1) (by omega) (by omega) (by omega) (by decide +kernel) (by decide +kernel)
  · cases he; cases hp; exact sent_mk (k := Str.ofString "\t") (v := Str.ofString "&#9;") (t := t + 1 + 1 + 1 + 1) (u := t + 1 + 1 + 1 + 1 + 1) (by omega) (by omega) (by omega) (by decide +kernel) (by decide +kernel)
  · cases hp

set_option maxHeartbeats 1000000 in
theorem quoteattr_c {prog : Program} {w : World} {s : Shared} {x : Str} {t : Tok}
    (B : Base w s.heap) (hx : x.length ≤ 19) :
    Does (model prog w) (Lv 16) (call (.ref 236) [.str x t]) s (fun v h' => ∃ u, v = .str (qa x) u) := by
  refine does_intro fun Q hret => ?_
  obtain ⟨X, p, loose, mean, mg, mb, T⟩ := id B
  refine' call_fn2 [(Str.ofString "data", .str x t), (Str.ofString "entities", .ref 228)] ?kX ?kT ?ko ?kc ?kr ?kb ?kl ?k0 ?c1 ?c2 ?c3 ?c4 ?_
  walk_at "zz enter"
  walk_at "zz go"
  have hd : RawD s.heap 228 #[] 0 := X _ _ (by k_is)
  have hdS : ((228 : Nat) == sysModules) = false := by decide +kernel
  refine' star_eval (y := Str.ofString "entities") (A := (Lv 16).deeper _) ?kF ?kN ?kL ?km hd hdS ?c1 ?c2 ?c3 ?c4 ?_
  (case kF => assumption)
  (case kN => assumption)
  (case kL => exact B.nolimit)
  (case km => rfl)
  (case c1 => rfl)
  (case c2 => rfl)
  (case c3 => decide +kernel)
  (case c4 => decide +kernel)
  intro d h₂ ep₂ tk₂ htk₂ F₂ N₂ hdS₂
  dsimp only at htk₂ N₂
  walk_at "zz go"
  refine' use_fr (A₁ := Lv 18) (escape_c (x := x) ?ub hdS₂ ?ud (sents3 ?ut) rfl hx) ?u1 ?u2 ?u3 ?u4 ?u5 ?u6 ?u7 ?_
  (case ud => have := ((by assumption : News _ _ _ _) _ (.head _)).1; exact this)
  (case ut => assumption)
  walk_at "zz use"
  intro v h' tk' htk' k F' N' hv
  obtain ⟨u, rfl⟩ := hv
  dsimp only at htk'
  have h0 : 0 < tk' := by omega
  have hl1 := escD_len x
  have hl2 := quo_len x
  unfold quo at hl2
  walk_at "zz go"
  · have h1 := (by assumption : (occurrences (escD ents3 x) (Str.ofString "\"") 0 (escD ents3 x).length 1).isEmpty = true)
    refine hret _ _ _ (Fr.keep (by assumption)) ⟨_, congrArg (Value.str · _) ?_⟩
    unfold qa absent
    rw [show (occurrences (escD ents3 x) dq 0 (escD ents3 x).length 1).isEmpty = true from h1]
    rfl
  · have h1 := (by assumption : (occurrences (escD ents3 x) (Str.ofString "\"") 0 (escD ents3 x).length 1).isEmpty = false)
    have h2 := (by assumption : (occurrences (escD ents3 x) (Str.ofString "'") 0 (escD ents3 x).length 1).isEmpty = true)
    refine hret _ _ _ (Fr.keep (by assumption)) ⟨_, congrArg (Value.str · _) ?_⟩
    unfold qa absent
    rw [show (occurrences (escD ents3 x) dq 0 (escD ents3 x).length 1).isEmpty = false from h1, show (occurrences (escD ents3 x) sq 0 (escD ents3 x).length 1).isEmpty = true from h2]
    rfl
  · have h1 := (by assumption : (occurrences (escD ents3 x) (Str.ofString "\"") 0 (escD ents3 x).length 1).isEmpty = false)
    have h2 := (by assumption : (occurrences (escD ents3 x) (Str.ofString "'") 0 (escD ents3 x).length 1).isEmpty = false)
    refine hret _ _ _ (Fr.keep (by assumption)) ⟨_, congrArg (Value.str · _) ?_⟩
    unfold qa absent
    rw [show (occurrences (escD ents3 x) dq 0 (escD ents3 x).length 1).isEmpty = false from h1, show (occurrences (escD ents3 x) sq 0 (escD ents3 x).length 1).isEmpty = false from h2]
    rfl

/-! reading -/
def ents4 : List (Str × Str) := [(Str.ofString "&quot;", Str.ofString "\""), (Str.ofString "&#10;", Str.ofString "\n"), (Str.ofString "&#13;", Str.ofString "\r"), (Str.ofString "&#9;", Str.ofString "\t")]
def unesc (x : Str) : Str := Txt.replace (Reps ents4 (Txt.replace (Txt.replace x (Str.ofString "&lt;") (Str.ofString "<")) (Str.ofString "&gt;") (Str.ofString ">"))) (Str.ofString "&amp;") (Str.ofString "&")
theorem unesc_list (x : Str) : (unesc x).cps.toList = unL x.cps.toList := by
  unfold unL
  show (Txt.replace (Txt.replace (Txt.replace (Txt.replace (Txt.replace (Txt.replace (Txt.replace x (Str.ofString "&lt;") (Str.ofString "<")) (Str.ofString "&gt;") (Str.ofString ">")) (Str.ofString "&quot;") (Str.ofString "\"")) (Str.ofString "&#10;") (Str.ofString "\n")) (Str.ofString "&#13;") (Str.ofString "\r")) (Str.ofString "&#9;") (Str.ofString "\t")) (Str.ofString "&amp;") (Str.ofString "&")).cps.toList = _
  rw [rep_lit (l := tAmp) (r := [38]) _ (by decide +kernel) (by decide +kernel) (by decide +kernel), rep_lit (l := tT) (r := [9]) _ (by decide +kernel) (by decide +kernel) (by decide +kernel),
    rep_lit (l := tR) (r := [13]) _ (by decide +kernel) (by decide +kernel) (by decide +kernel), rep_lit (l := tN) (r := [10]) _ (by decide +kernel) (by decide +kernel) (by decide +kernel),
    rep_lit (l := tQ) (r := [34]) _ (by decide +kernel) (by decide +kernel) (by decide +kernel), rep_lit (l := tGt) (r := [62]) _ (by decide +kernel) (by decide +kernel) (by decide +kernel), rep_lit (l := tLt) (r := [60]) _ (by decide +kernel) (by decide +kernel) (by decide +kernel)]
set_option maxHeartbeats 1000000 in
theorem unescape_c {prog : Program} {w : World} {s : Shared} {d : Addr} {x : Str} {t : Tok} {es : Array DictEntry} {ep : Nat}
    (B : Base w s.heap) (hdS : (d == sysModules) = false) (hd : RawD s.heap d es ep) (he : SEnts 1 es ents4) (hx : x.length ≤ 1000) :
    Does (model prog w) (Lv 18) (call (.ref 227) [.str x t, .ref d]) s (fun v h' => ∃ u, v = .str (unesc x) u) := by
  refine does_intro fun Q hret => ?_
  obtain ⟨X, p, loose, mean, mg, mb, T⟩ := id B
  have hes : es.size < 2 ^ 63 := by rw [he.1]; decide
  refine' call_fn2 [(Str.ofString "data", .str x t), (Str.ofString "entities", .ref d)] ?kX ?kT ?ko ?kc ?kr ?kb ?kl ?k0 ?c1 ?c2 ?c3 ?c4 ?_
  walk_at "zz enter"
  walk_at "zz go"
  · have hb : ((Txt.replace (Txt.replace x (Str.ofString "&lt;") (Str.ofString "<")) (Str.ofString "&gt;") (Str.ofString ">")).length + 1) * (1 + 1) ^ ents4.length ≤ 16777216 := by
      have e : (1 + 1) ^ ents4.length = 16 := rfl
      rw [e]
      omega
    have hlr := len_reps (b := 1) ents4 (Txt.replace (Txt.replace x (Str.ofString "&lt;") (Str.ofString "<")) (Str.ofString "&gt;") (Str.ofString ">")) (by decide +kernel)
    rw [show (1 + 1) ^ ents4.length = 16 from rfl] at hlr
    refine' use_fr (A₁ := Lv 20) (dict_replace 1 ?ub hdS ?ud he hb) ?u1 ?u2 ?u3 ?u4 ?u5 ?u6 ?u7 ?_
    (case ud => exact Fr.keep (by assumption) _ _ hd)
    walk_at "zz use"
    intro v h' tk' htk' k F' N' hv
    obtain ⟨u, rfl⟩ := hv
    dsimp only at htk'
    have : 0 < tk' := by omega
    walk_at "zz go"
    exact hret _ _ _ (Fr.keep (by assumption)) ⟨_, rfl⟩
  · have hz := (by assumption : (es.size != 0) = false)
    rw [he.1] at hz
    cases hz
end At
end
section
open PySem PySem.W PySem.Calls PyProof.Rows Builtin Builtin.Str
set_option Elab.async false
set_option maxRecDepth 100000
set_option linter.unusedVariables false
namespace At
/-- a def is entered, the caller's ledger is kept, and the caller's frame with it -/
theorem code_keep {prog : Program} {w : World} {A : Around} {s : Shared} {K : Frag} {R : Result → Shared → Prop} {name qual : Str} {params : Arguments} {body : List Stmt} {scope : Scope} {dV kV doc pm cdv ct oc : Value} {an od : Option Addr} {osl : Array (Option Value)} {f : Addr} {pos : List Value} {kw : List (Str × Value)}
    {h₀ : Heap} {L₀ : Addr} {m₀ : Str → Option Value} {news : List (Addr × Obj)} (binds : List (Str × Value)) (F₀ : Fr h₀ L₀ s.heap m₀) (N₀ : News h₀ L₀ s.heap news)
    (X : K.In h₀) (hlim : h₀.NoLimit)
    (ho : K.lookup f = some ⟨oc, od, .func (fnOf name qual params body scope dV kV doc pm an cdv ct), osl⟩) (hcd : codeIn K cdv qual = true) (hroom : A.depth < recursionLimit)
    (hbind : BindsTo s (fnOf name qual params body scope dV kV doc pm an cdv ct) ⟨pos, kw⟩ binds) (hloc : ∀ y ∈ binds, scope.names.lookup y.1 = some .local)
    (hb : 0 < binds.length) (hcell : ∀ x ∈ scope.names, x.2 ≠ .cell) (hco : scope.isCoroutine = false) (hgen : scope.isGenerator = false) (hk : scope.kind = .function)
    (h : ∀ L h₁ tk oL, Fr h₀ L h₁ (fun y => binds.reverse.lookup y) → News h₀ L h₁ (news ++ [(L₀, oL)]) → 0 < tk →
      (∀ h' : Heap, h'.get? L₀ = some oL → h'.Ns L₀ m₀) →
      wpAny (model prog w) (A.deeper (envOf qual scope L f cdv)) (execs body (envOf qual scope L f cdv))
        (fun fl s' => R (.ok (.ret (match fl with | .ret v => v | _ => .none))) s') noE { s with heap := h₁, toks := tk }) :
    codeAny (model prog w) A (.call (.ref f) ⟨pos, kw⟩) R s := by
  have X₁ := X.keeps F₀.keep
  refine codeAny_call_def (fd := fnOf name qual params body scope dV kV doc pm an cdv ct) (body := body) (binds := binds) hroom (X₁ _ _ ho) rfl (hlim.keeps F₀.keep) (codeRec_of X₁ hcd) rfl hbind hcell hloc (fun h₁ hns hk₁ => ?_) hco hgen hk
  obtain ⟨oL, es, ep, hL, r⟩ := F₀.ns
  have hlt := Heap.lt_size hL
  refine wpAny_mono (h s.heap.objs.size h₁ _ oL ⟨hns, fun b o e => hk₁ b o (F₀.keep b o e), Nat.le_trans F₀.above (Nat.le_of_lt hlt)⟩ (fun p hp => ?_) (by show 0 < s.toks + binds.length; omega) (fun h' e => ⟨oL, es, ep, e, r⟩)) (fun _ _ x => x) fun _ _ x => x.elim
  rcases List.mem_append.mp hp with hp | hp
  · exact ⟨hk₁ _ _ (N₀ p hp).1, Nat.ne_of_lt (Heap.lt_size (N₀ p hp).1), (N₀ p hp).2.2⟩
  · obtain rfl := List.mem_singleton.mp hp
    refine ⟨hk₁ _ _ hL, Nat.ne_of_lt hlt, ?_⟩
    exact kts_self F₀
abbrev selfE (w : World) (n : Str) (t : Nat) (a : Addr) : DictEntry := ⟨PyData.keyHash w.params n, .str n t, .ref a⟩
abbrev nsE (w : World) (t u : Nat) (dv dq : Addr) : List DictEntry := [selfE w (Str.ofString "_attrs") t dv, selfE w (Str.ofString "_qnames") u dq]
local macro_rules | `(tactic| walk_at "setAttr ref") => `(tactic| (k_here; k_dflt (refine' set_dict ?k1 ?k2 ?k3 ?k4 ?k5 ?k6 ?k7 ?k8 ?k9 ?k10 ?k11 ?k12 ?k13 ?_; (case k1 => k_asm); (case k2 => k_asm); (case k3 => k_asm); (case k4 => k_inst); (case k5 => exact rfl); (case k6 => k_is); (case k7 => k_is); (case k8 => k_is); (case k9 => k_is); (case k10 => k_get); (case k11 => k_put); (case k12 => exact Upd.tail (by assumption) (Upd.head (by assumption))); (case k13 => exact Nat.le_of_ble_eq_true rfl); k_whole; intro h' F' N'; (try k_sweep))))
theorem fr_back {h₀ h h' : Heap} {L L' : Addr} {m m' : Str → Option Value} (F : Fr h₀ L h m) (F' : Fr h₀ L' h' m') (e : h'.Ns L m) : Fr h₀ L h' m := ⟨e, F'.keep, F.above⟩
theorem news_swap {h₀ h : Heap} {L L' : Addr} {a rest : List (Addr × Obj)} (N : News h₀ L' h (a ++ rest)) (hL : ∀ p ∈ a, p.1 ≠ L) : News h₀ L h a := fun p hp => ⟨(N p (List.mem_append_left _ hp)).1, hL p hp, (N p (List.mem_append_left _ hp)).2.2⟩
set_option maxHeartbeats 1000000 in
theorem ns_init {prog : Program} {w : World} {s : Shared} {h₀ : Heap} {L₀ x dx dv dq : Addr} {m₀ : Str → Option Value} {news : List (Addr × Obj)} {R : Result → Shared → Prop}
    (B : Base w h₀) (F₀ : Fr h₀ L₀ s.heap m₀) (N₀ : News h₀ L₀ s.heap ((x, instObj 200 dx) :: (dx, dictOf [] 0) :: news)) (hxd : x ≠ dx) (hnd : ∀ p ∈ news, p.1 ≠ dx)
    (hR : ∀ h' tk t u, Fr h₀ L₀ h' m₀ → News h₀ L₀ h' ((x, instObj 200 dx) :: (dx, dictOf (nsE w t u dv dq) 2) :: news) → R (.ok (.ret .none)) { s with heap := h', toks := tk }) :
    codeAny (model prog w) (Lv 22) (.call (.ref 162) ⟨[.ref x, .ref dv, .ref dq], []⟩) R s := by
  obtain ⟨X, p, loose, mean, mg, mb, T⟩ := id B
  refine' code_keep [(Str.ofString "self", .ref x), (Str.ofString "attrs", .ref dv), (Str.ofString "qnames", .ref dq)] F₀ N₀ ?kX ?kT ?ko ?kc ?kr ?kb ?kl ?k0 ?c1 ?c2 ?c3 ?c4 ?_
  (case kX => assumption); (case kT => exact Top.nolimit (by assumption)); (case ko => k_is); (case kc => k_is); (case kr => decide); (case kb => first | exact BindsTo.of_eq rfl | exact binds_K (by assumption) rfl (by k_is) rfl rfl rfl); (case kl => exact locs rfl); (case k0 => exact Nat.zero_lt_succ _); (case c1 => decide); (case c2 => rfl); (case c3 => rfl); (case c4 => rfl)
  intro L h₁ tk oL F N htk hns
  have hback : ∀ {h' : Heap} {m'}, Fr h₀ L h' m' → News h₀ L h' [(L₀, oL)] → Fr h₀ L₀ h' m₀ := fun F' N' => fr_back F₀ F' (hns _ (N' _ (.head _)).1)
  have hLd : L₀ ≠ dx := fun e => (N₀ (dx, dictOf [] 0) (.tail _ (.head _))).2.1 e.symm
  have hLn : ∀ p ∈ (x, instObj 200 dx) :: (dx, dictOf [] 0) :: news, p.1 ≠ L₀ := fun p hp => (N₀ p hp).2.1
  have hN0 : ∀ p ∈ (x, instObj 200 dx) :: (dx, dictOf [] 0) :: news, h₀.get? p.1 = none := fun p hp => (N₀ p hp).2.2
  clear F₀ N₀
  rw [List.cons_append, List.cons_append] at N
  have hrest : ∀ p ∈ news ++ [(L₀, oL)], p.1 ≠ dx := fun p hp => by
    rcases List.mem_append.mp hp with hp | hp
    · exact hnd p hp
    · obtain rfl := List.mem_singleton.mp hp; exact hLd
  try dsimp only
  walk_at "zz go"
  have F9 := (by assumption : Fr h₀ L _ _)
  have N9 := (by assumption : News h₀ L _ _)
  refine hR _ _ _ _ (hback F9 (news_sub N9 fun p hp => .tail _ (.tail _ (List.mem_append_right _ hp)))) (news_swap (a := (x, instObj 200 dx) :: (dx, _) :: news) (rest := [(L₀, oL)]) N9 fun p hp => ?_)
  rcases List.mem_cons.mp hp with rfl | hp
  · exact hLn _ (.head _)
  rcases List.mem_cons.mp hp with rfl | hp
  · exact fun e => hLd e.symm
  · exact hLn _ (.tail _ (.tail _ hp))

theorem code_weaken {M : Model} {A A₁ : Around} {c : Code} {R : Result → Shared → Prop} {s : Shared}
    (hh : A₁.handled = A.handled) (hd : A.depth ≤ A₁.depth) (hu : A.units ≤ A₁.units) (hf : A₁.frames = none) (hg : A₁.guards = none)
    (h : codeAny M A₁ c R s) : codeAny M A c R s := fun Γ p hc hΓ => h Γ p hc ⟨by rw [hh]; exact hΓ.1, Nat.le_trans hΓ.2.1 hd, fun l e => by (rw [hf] at e; cases e), fun l e => by (rw [hg] at e; cases e), Nat.le_trans hΓ.2.2.2.2 hu⟩

/-- the class is called -/
theorem ns_make {prog : Program} {w : World} {A : Around} {E : Value → Shared → Prop} {s : Shared} {h₀ : Heap} {L₀ dv dq : Addr} {m₀ : Str → Option Value} {news : List (Addr × Obj)} {Q : Value → Shared → Prop}
    (B : Base w h₀) (F₀ : Fr h₀ L₀ s.heap m₀) (N₀ : News h₀ L₀ s.heap news) (hh : A.handled = none) (hd : A.depth ≤ 330) (hu : A.units ≤ 2200)
    (hQ : ∀ x dx h' tk t u, Fr h₀ L₀ h' m₀ → News h₀ L₀ h' ((x, instObj 200 dx) :: (dx, dictOf (nsE w t u dv dq) 2) :: news) → x ≠ dx → (∀ p ∈ news, p.1 < dx) → Q (.ref x) { s with heap := h', toks := tk }) :
    wpAny (model prog w) A (call (.ref 200) [.ref dv, .ref dq]) Q E s := by
  obtain ⟨X, p, loose, mean, mg, mb, T⟩ := id B
  refine' call_cls F₀ X N₀ ?k4 ?k5 ?k6 ?_
  (case k4 => k_is)
  (case k5 => k_is)
  (case k6 => k_is)
  intro x dx h' F' N' hlt hdx
  refine code_weaken (A₁ := Lv 22) hh.symm ?_ ?_ rfl rfl (ns_init (s := { s with heap := h' }) B F' N' (Nat.ne_of_gt hdx) (fun p hp => Nat.ne_of_lt (hlt p hp)) ?_)
  · show A.depth + 1 ≤ 332
    omega
  · exact Nat.le_trans (Nat.add_le_add_right hu _) (Nat.le_of_ble_eq_true rfl)
  · intro h'' tk t u F'' N''
    exact ⟨rfl, hQ x dx h'' tk t u F'' N'' (Nat.ne_of_gt hdx) hlt⟩
end At
end
section
open PySem PySem.W PySem.Calls PyProof.Rows Builtin Builtin.Str
set_option Elab.async false
set_option maxRecDepth 100000
set_option linter.unusedVariables false
namespace At
/-! names, and dicts over names -/
abbrev Nm := Str × Str
def kOf (n : Nm) : List Str := [n.1, n.2]
theorem kOf_inj {a b : Nm} (h : kOf a = kOf b) : a = b := by
  obtain ⟨x, y⟩ := a; obtain ⟨u, v⟩ := b
  injection h with h1 h2
  injection h2 with h2 _
  rw [show x = u from h1, show y = v from h2]
def NameAt (h : Heap) (a : Addr) (n : Nm) : Prop := ∃ u v, IsTup h a #[.str n.1 u, .str n.2 v]
theorem NameAt.keeps {h h' : Heap} {a : Addr} {n : Nm} (x : NameAt h a n) (k : ∀ b o, h.get? b = some o → h'.get? b = some o) : NameAt h' a n := let ⟨u, v, t⟩ := x; ⟨u, v, t.keeps k⟩
theorem str_is {prog : Program} {w : World} (x : Str) (t : Nat) : (PySem.strKind prog w).is x (.str x t) = true := by show Value.isStrOf x (.str x t) = true; simp [Value.isStrOf]
theorem NameAt.key {prog : Program} {w : World} {h : Heap} {a : Addr} {n : Nm} (x : NameAt h a n) : (tupleKind (PySem.strKind prog w)).is h (kOf n) a :=
  let ⟨u, v, o, ho, hc, k, hd⟩ := x; ⟨o, _, k, ho, hc, hd, .cons (str_is _ _) (.cons (str_is _ _) .nil)⟩
theorem NameAt.reads {h : Heap} {a : Addr} {n : Nm} (x : NameAt h a n) : Reads h (.ref a) (.tuple [.str n.1, .str n.2]) [] := by
  obtain ⟨u, v, o, ho, hc, k, hd⟩ := x
  have := Reads.tuple (xs := [.str n.1, .str n.2]) ho hc hd (.cons (.str n.1 u) (.cons (.str n.2 v) .nil))
  simpa using this
theorem NameAt.inj {h : Heap} {a : Addr} {n n' : Nm} (x : NameAt h a n) (y : NameAt h a n') : n = n' := by
  obtain ⟨u, v, o, ho, hc, k, hd⟩ := x
  obtain ⟨u', v', o', ho', hc', k', hd'⟩ := y
  rw [ho] at ho'; obtain rfl := Option.some.inj ho'
  rw [hd] at hd'
  injection hd' with e _
  injection e with e
  injection e with e1 e2
  injection e2 with e2 _
  injection e1 with e1 _
  injection e2 with e2 _
  obtain ⟨x, y⟩ := n; obtain ⟨x', y'⟩ := n'
  simp only at e1 e2
  rw [e1, e2]

structure Ent where
  nm : Nm
  ka : Addr
  val : Str
  tok : Nat
abbrev entOf (prog : Program) (w : World) (x : Ent) : DictEntry := ⟨tupleKeyHash (PySem.strKind prog w) (kOf x.nm), .ref x.ka, .str x.val x.tok⟩
abbrev trip (x : Ent) : List Str × Addr × Value := (kOf x.nm, x.ka, .str x.val x.tok)
structure TD (prog : Program) (w : World) (h : Heap) (d : Addr) (xs : List Ent) (ep : Nat) : Prop where
  raw : RawD h d (xs.map (entOf prog w)).toArray ep
  nms : ∀ x ∈ xs, NameAt h x.ka x.nm
  nd : (xs.map (·.nm)).Nodup
variable {prog : Program} {w : World} {A : Around} {E : Value → Shared → Prop} {s : Shared} {d a : Addr} {xs : List Ent} {ep : Nat} {n : Nm}
theorem TD.keeps {h h' : Heap} (x : TD prog w h d xs ep) (k : ∀ b o, h.get? b = some o → h'.get? b = some o) : TD prog w h' d xs ep := ⟨k _ _ x.raw, fun e he => (x.nms e he).keeps k, x.nd⟩
theorem TD.dictH {h : Heap} (x : TD prog w h d xs ep) : h.DictOfH (tupleKind (PySem.strKind prog w)) d (xs.map trip) := by
  refine ⟨_, _, ep, x.raw, ⟨rfl, rfl, rfl⟩, rfl, ?_, ?_, ?_⟩
  · rw [List.map_map]; rfl
  · intro y hy
    obtain ⟨e, he, rfl⟩ := List.mem_map.mp hy
    exact (x.nms e he).key
  · have : (xs.map trip).map (·.1) = (xs.map (·.nm)).map kOf := by rw [List.map_map, List.map_map]; rfl
    rw [this]
    exact List.Pairwise.map kOf (fun a b hab e => hab (kOf_inj e)) x.nd
def look (xs : List Ent) (n : Nm) : Option Ent := xs.find? (fun x => decide (x.nm = n))
theorem atKey_look (xs : List Ent) (n : Nm) : atKey (xs.map trip) (kOf n) = (look xs n).map fun x => (x.ka, Value.str x.val x.tok) := by
  unfold atKey look
  rw [List.find?_map]
  have : ((fun x : List Str × Addr × Value => decide (x.1 = kOf n)) ∘ trip) = fun x => decide (x.nm = n) := by
    funext x
    by_cases h : x.nm = n
    · subst h; simp [trip]
    · have : ¬ kOf x.nm = kOf n := fun e => h (kOf_inj e)
      simp [trip, h, this]
  rw [this]
  cases xs.find? (fun x => decide (x.nm = n)) <;> rfl
theorem look_some {x : Ent} (h : look xs n = some x) : x ∈ xs ∧ x.nm = n := ⟨List.mem_of_find?_eq_some h, by have := List.find?_some h; exact of_decide_eq_true this⟩
theorem look_none (h : look xs n = none) : n ∉ xs.map (·.nm) := by
  intro hm
  obtain ⟨x, hx, rfl⟩ := List.mem_map.mp hm
  have := List.find?_eq_none.mp h x hx
  simp at this
theorem look_of_mem {x : Ent} (nd : (xs.map (·.nm)).Nodup) (h : x ∈ xs) : look xs x.nm = some x := by
  unfold look
  induction xs with
  | nil => cases h
  | cons y r ih =>
    rw [List.map_cons, List.nodup_cons] at nd
    rcases List.mem_cons.mp h with rfl | h
    · simp
    · have : y.nm ≠ x.nm := fun e => nd.1 (List.mem_map.mpr ⟨x, h, e.symm⟩)
      rw [List.find?_cons_of_neg (by simp [this])]
      exact ih nd.2 h
theorem look_eq_none (h : n ∉ xs.map (·.nm)) : look xs n = none := by
  cases q : look xs n with
  | none => rfl
  | some x => obtain ⟨h1, h2⟩ := look_some q; exact (h (List.mem_map.mpr ⟨x, h1, h2⟩)).elim

theorem room1 (hu : A.units ≤ 9000) : (tupleKind (PySem.strKind prog w)).room A.in1 := by
  show A.units + 1 < cLine
  unfold cLine; omega
theorem td_in {Q : Value → Shared → Prop} (hu : A.units ≤ 9000) (hn : NameAt s.heap a n) (hdS : (d == sysModules) = false) (hd : TD prog w s.heap d xs ep)
    (h : Q (.bool (look xs n).isSome) { s with toks := s.toks + 3 }) : wpAny (model prog w) A (compareOp .In (.ref a) (.ref d)) Q E s := by
  refine wpAny_in_heap (room1 hu) hn.key hdS hd.dictH ?_
  rw [atKey_look]
  cases hl : look xs n <;> (rw [hl] at h; exact h)
theorem td_get {Q : Value → Shared → Prop} {x : Ent} (hu : A.units ≤ 9000) (hn : NameAt s.heap a n) (hd : TD prog w s.heap d xs ep) (hl : look xs n = some x)
    (h : Q (.str x.val x.tok) { s with toks := s.toks + 3 }) : wpAny (model prog w) A (getItem (.ref d) (.ref a)) Q E s :=
  wpAny_getItem_heap (room1 hu) hn.key hd.dictH (p := (x.ka, .str x.val x.tok)) (by rw [atKey_look, hl]; rfl) h
theorem td_dget {Q : Value → Shared → Prop} {v : Value} (hu : A.units ≤ 9000) (hn : NameAt s.heap a n) (hdS : (d == sysModules) = false) (hd : TD prog w s.heap d xs ep)
    (h : Q (((look xs n).map fun x => Value.str x.val x.tok).getD v) { s with toks := s.toks + 3 }) : wpAny (model prog w) A (call (.builtin "dict.get") [.ref d, .ref a, v]) Q E s := by
  refine call_meetsIn PySem.F.slot_dict_get hd.dictH.typeIs PySem.F.entry_dict_get (PySem.F.args_dict_get_3 _ _ _) (meetsH_dict_get_default (tupleKind (PySem.strKind prog w)) d a hdS v) ⟨room1 hu, kOf n, _, hn.key, hd.dictH, ?_⟩
  rw [atKey_look]
  cases hl : look xs n <;> (rw [hl] at h; exact h)
theorem td_set {Q : Unit → Shared → Prop} {v : Str} {t : Nat} (hu : A.units ≤ 9000) (hn : NameAt s.heap a n) (hd : TD prog w s.heap d xs ep) (hl : look xs n = none) (hz : xs.length ≤ 1000)
    (h : ∀ h' ep', TD prog w h' d (xs ++ [⟨n, a, v, t⟩]) ep' → Heap.SameBut d s.heap h' → Q () { s with heap := h', toks := s.toks + 3 }) :
    wpAny (model prog w) A (setItem (.ref d) (.ref a) (.str v t)) Q E s := by
  refine wpAny_setItem_heap (knd := tupleKind (PySem.strKind prog w)) (room1 hu) hn.key hd.dictH (fun h' hm hs => ?_) (by simp [sizeLine_eq]; omega)
  obtain ⟨o, es, ep', ho, ⟨hc1, hc2, hc3⟩, hdat, he, hk, hnd⟩ := hm
  have hst : storedH (xs.map trip) (kOf n) a (.str v t) = (xs ++ [(⟨n, a, v, t⟩ : Ent)]).map trip := by
    rw [storedH_new (by rw [atKey_look, hl]; rfl), List.map_append]
    rfl
  rw [hst] at he hk
  refine h h' ep' (TD.mk ?_ (fun x hx => ?_) ?_) hs
  · obtain ⟨c, di, da, sl⟩ := o
    simp only at hc1 hc2 hc3 hdat
    subst hc1; subst hc2; subst hc3; subst hdat
    have : es = (List.map (entOf prog w) (xs ++ [(⟨n, a, v, t⟩ : Ent)])).toArray := by
      rw [List.map_map] at he
      have he2 : es.toList = List.map (entOf prog w) (xs ++ [(⟨n, a, v, t⟩ : Ent)]) := he
      rw [← he2]
    rw [← this]
    exact ho
  · have hne : x.ka ≠ d := by
      intro e
      have hx' : NameAt s.heap x.ka x.nm := by
        rcases List.mem_append.mp hx with hx | hx
        · exact hd.nms x hx
        · obtain rfl := List.mem_singleton.mp hx; exact hn
      obtain ⟨_, _, o', ho', hc', _⟩ := hx'
      rw [e, hd.raw] at ho'
      obtain rfl := Option.some.inj ho'
      have hc2 : Value.type "dict" = Value.type "tuple" := hc'
      exact absurd hc2 (by decide)
    have hx' : NameAt s.heap x.ka x.nm := by
      rcases List.mem_append.mp hx with hx | hx
      · exact hd.nms x hx
      · obtain rfl := List.mem_singleton.mp hx; exact hn
    obtain ⟨u, v', o', ho', r⟩ := hx'
    exact ⟨u, v', o', (hs.2 _ hne).trans ho', r⟩
  · rw [List.map_append, List.nodup_append]
    refine ⟨hd.nd, by simp, ?_⟩
    intro b hb c hc e
    simp only [List.map_cons, List.map_nil, List.mem_singleton] at hc
    subst hc; subst e
    exact look_none hl hb
end At
end
section
open PySem PySem.W PySem.Calls PyProof.Rows Builtin Builtin.Str
set_option Elab.async false
set_option maxRecDepth 100000
set_option linter.unusedVariables false
namespace At
structure NSRd (prog : Program) (w : World) (h : Heap) (r dv dq : Addr) (xs ys : List Ent) : Prop where
  inst : ∃ dx t u, h.get? r = some (instObj 200 dx) ∧ h.get? dx = some (dictOf (nsE w t u dv dq) 2)
  vals : ∃ ep, TD prog w h dv xs ep
  qns : ∃ ep, TD prog w h dq ys ep
  vS : (dv == sysModules) = false
  qS : (dq == sysModules) = false
  vl : xs.length ≤ 8
  ql : ys.length ≤ 8
theorem NSRd.keeps {prog : Program} {w : World} {h h' : Heap} {r dv dq : Addr} {xs ys : List Ent} (x : NSRd prog w h r dv dq xs ys) (k : ∀ b o, h.get? b = some o → h'.get? b = some o) : NSRd prog w h' r dv dq xs ys :=
  ⟨let ⟨dx, t, u, a, b⟩ := x.inst; ⟨dx, t, u, k _ _ a, k _ _ b⟩, let ⟨ep, t⟩ := x.vals; ⟨ep, t.keeps k⟩, let ⟨ep, t⟩ := x.qns; ⟨ep, t.keeps k⟩, x.vS, x.qS, x.vl, x.ql⟩
theorem hide_mono {h h' : Heap} {L : Addr} (k : h.StaysIn h') {b : Addr} {o : Obj} (e : (h.hide L).get? b = some o) : (h'.hide L).get? b = some o := by
  have hb : b ≠ L := by rintro rfl; rw [Heap.hide_self] at e; cases e
  rw [Heap.hide_ne _ hb] at e ⊢
  exact k _ _ e
theorem hide_new {h h' : Heap} {L : Addr} {oL : Obj} {b : Addr} {o : Obj} (e : h'.get? b = some o) (hL : h.get? L = some oL) (hb : h.get? b = none) : (h'.hide L).get? b = some o := by
  have hne : b ≠ L := by rintro rfl; rw [hb] at hL; cases hL
  rw [Heap.hide_ne _ hne]; exact e
theorem method_class {prog : Program} {w : World} {A : Around} {E : Value → Shared → Prop} {s : Shared} {K : Frag} {h₀ : Heap} {L C x : Addr} {m : Str → Option Value} {ox od : Obj} {pl : Sem Bool} {Q : Value × List Value → Shared → Prop} (F : Fr h₀ L s.heap m) (X₀ : K.In h₀) (I : W.InstAt s.heap x ox C (some od)) (hg : plainGet K C "__class__" = true) (hh : hasDictIn K C = true)
    (ha : findIn K (.ref C) "__class__" = some (some (.builtin "object.__class__"))) (hn : specialIn K (.builtin "object.__class__") "__get__" = some (some (.builtin "getset_descriptor.__get__"))) (ht : takesIn K (.builtin "object.__class__") = some true)
    (hm : mroIn K C (.type "object") = some true) (hty : typeIn K (.builtin "object.__class__") = some (.type "getset_descriptor")) (h : Q (.ref C, []) { s with toks := s.toks + 1 }) : wpAny (model prog w) A (getMethod (.ref x) "__class__" pl) Q E s := by
  have hcan := PySem.F.canon_object_ga
  have X := X₀.keeps F.keep
  unfold getMethod specialOf
  refine wpAny_bind (wpAny_bind (I.type.here ((looks_findIn X (plainGet_of hg).1).here ?_)))
  dsimp only
  rw [hcan, if_neg (by decide)]
  refine wpAny_bind (wpAny_bind (I.type.here ((looks_findIn X (plainGet_of hg).2).here ?_)))
  refine wpAny_bind (wpAny_bind (I.type.here ((looks_findIn X ha).here (wpAny_bind ((looks_typeIn X hty).here ?_)))))
  rw [if_pos (by decide +kernel)]
  exact wpAny_bind (get_class F X₀ I hg hh ha hn ht hm (wpAny_pure h))
theorem td_sub {prog : Program} {w : World} {A : Around} {E : Value → Shared → Prop} {s : Shared} {d a : Addr} {xs : List Ent} {ep : Nat} {n : Nm} {value slice : PySem.Expr} {Q : Value → Shared → Prop} {x : Ent} (hu : A.units ≤ 9000) (hn : NameAt s.heap a n) (hd : TD prog w s.heap d xs ep) (hl : look xs n = some x)
    (hs : subscripted slice false (.ref d) (.ref a) = operate [.ref d, .ref a] (getItem (.ref d) (.ref a))) (hg : ∀ r, letTemporaryGo value (.ref d) r = pure ())
    (h : Q (.str x.val x.tok) { s with toks := s.toks + 3 }) : wpAny (model prog w) A (subscriptTail value slice (.ref d) (.ref a)) Q E s :=
  subscriptTail_builtin hd.dictH.typeIs slot_dict_getitem.lookup (td_get hu hn hd hl h) hs hg
theorem inst_of {h : Heap} {r dx C : Addr} {es : List DictEntry} {n : Nat} (a : h.get? r = some (instObj C dx)) (b : h.get? dx = some (dictOf es n)) : InstAt h r (instObj C dx) C (some (dictOf es n)) := ⟨a, rfl, rfl, b⟩
theorem inst_stay {h h' : Heap} {r C : Addr} {ox od : Obj} (x : InstAt h r ox C (some od)) (k : ∀ b o, h.get? b = some o → h'.get? b = some o) : InstAt h' r ox C (some od) := by
  obtain ⟨a, b, c, d⟩ := x
  refine ⟨k _ _ a, b, c, ?_⟩
  split at d
  · rename_i e; rw [Option.some.injEq] at *; simp_all
  · simp_all
  · cases d
section
variable {prog : Program} {w : World} {A : Around} {E : Value → Shared → Prop} {s : Shared} {h₀ : Heap} {L d r : Addr} {m : Str → Option Value} {news : List (Addr × Obj)} {es : Array DictEntry} {ep : Nat} {Q : Value → Shared → Prop}
abbrev vKeys (d : Addr) : Obj := { cls := .type "dict_keys", data := .fields #[.ref d] }
abbrev vVals (d : Addr) : Obj := { cls := .type "dict_values", data := .fields #[.ref d] }
abbrev vItems (d : Addr) : Obj := { cls := .type "dict_items", data := .fields #[.ref d] }
theorem keysK (F : Fr h₀ L s.heap m) (N : News h₀ L s.heap news) (hm : (d == sysModules) = false) (hd : RawD s.heap d es ep)
    (h : ∀ v h', Fr h₀ L h' m → News h₀ L h' ((v, vKeys d) :: news) → Q (.ref v) { s with heap := h' }) : wpAny (model prog w) A (call (.builtin "dict.keys") [.ref d]) Q E s :=
  keys_view hm hd (h _ _ (F.push _) (News.push F N _))
theorem valsK (F : Fr h₀ L s.heap m) (N : News h₀ L s.heap news) (hm : (d == sysModules) = false) (hd : RawD s.heap d es ep)
    (h : ∀ v h', Fr h₀ L h' m → News h₀ L h' ((v, vVals d) :: news) → Q (.ref v) { s with heap := h' }) : wpAny (model prog w) A (call (.builtin "dict.values") [.ref d]) Q E s :=
  values_view hm hd (h _ _ (F.push _) (News.push F N _))
theorem itemsK (F : Fr h₀ L s.heap m) (N : News h₀ L s.heap news) (hm : (d == sysModules) = false) (hd : RawD s.heap d es ep)
    (h : ∀ v h', Fr h₀ L h' m → News h₀ L h' ((v, vItems d) :: news) → Q (.ref v) { s with heap := h' }) : wpAny (model prog w) A (call (.builtin "dict.items") [.ref d]) Q E s :=
  items_view hm hd (h _ _ (F.push _) (News.push F N _))
theorem listKeysK (F : Fr h₀ L s.heap m) (N : News h₀ L s.heap news) (hh : A.handled = none) (hr : (r, vKeys d) ∈ news) (hd : RawD s.heap d es ep) (hn : es.size ≤ sizeLine)
    (h : ∀ l c h', s.heap.get? l = none → Fr h₀ L h' m → News h₀ L h' ((l, lstObj (es.map (·.key)) c) :: news) → Q (.ref l) { s with heap := h' }) : wpAny (model prog w) A (call (.type "list") [.ref r]) Q E s :=
  list_keys hh (N _ hr).1 hd hn fun l c h' hl hk hl' => h l c h' hl (F.keeps hk) (news_add F (News.keeps N hk) hl hl')
theorem listValsK (F : Fr h₀ L s.heap m) (N : News h₀ L s.heap news) (hh : A.handled = none) (hr : (r, vVals d) ∈ news) (hd : RawD s.heap d es ep) (hn : es.size ≤ sizeLine)
    (h : ∀ l c h', s.heap.get? l = none → Fr h₀ L h' m → News h₀ L h' ((l, lstObj (es.map (·.val)) c) :: news) → Q (.ref l) { s with heap := h' }) : wpAny (model prog w) A (call (.type "list") [.ref r]) Q E s :=
  list_values hh (N _ hr).1 hd hn fun l c h' hl hk hl' => h l c h' hl (F.keeps hk) (news_add F (News.keeps N hk) hl hl')
theorem listItemsK (F : Fr h₀ L s.heap m) (N : News h₀ L s.heap news) (hh : A.handled = none) (hr : (r, vItems d) ∈ news) (hd : RawD s.heap d es ep) (hn : es.size ≤ sizeLine)
    (h : ∀ l c h' (as : List Addr), s.heap.get? l = none → Fr h₀ L h' m → News h₀ L h' ((l, lstObj (as.map Value.ref).toArray c) :: news) → as.length = es.size → (∀ (i : Nat) a, as[i]? = some a → ∃ e, es[i]? = some e ∧ h'.get? a = some (pairObj e) ∧ s.heap.get? a = none) → Q (.ref l) { s with heap := h' }) : wpAny (model prog w) A (call (.type "list") [.ref r]) Q E s :=
  list_items hh (N _ hr).1 hd hn fun l c h' as hl hk hl' e has => h l c h' as hl (F.keeps hk) (news_add F (News.keeps N hk) hl hl') e has
end
end At
end
section
open PySem PySem.W PySem.Calls PyProof.Rows Builtin Builtin.Str At
set_option maxRecDepth 100000
set_option linter.unusedVariables false
local macro_rules | `(tactic| k_inst) => `(tactic| exact inst_stay (by assumption) (Fr.keep (by assumption)))
local macro_rules | `(tactic| walk_at "getMethod ref") => `(tactic| (k_here; (with_reducible show wpAny _ _ (getMethod (Value.ref _) (PySem.Str.ofString "__class__") _) _ _ _); k_dflt (refine' method_class ?k1 ?k2 ?k3 ?k4 ?k5 ?k6 ?k7 ?k8 ?k9 ?k10 ?_; (case k1 => k_asm); (case k2 => k_asm); (case k3 => k_inst); (case k4 => k_is); (case k5 => k_is); (case k6 => k_is); (case k7 => k_is); (case k8 => k_is); (case k9 => k_is); (case k10 => k_is); k_whole)))
local macro_rules | `(tactic| walk_at "call builtin:dict.keys") => `(tactic| (k_here; k_dflt (refine' keysK ?q1 ?q2 ?q3 ?q4 ?_; (case' q4 => walk_at "zz raw"); (case q1 => assumption); (case q2 => first | assumption | exact News.nil); (case q3 => assumption)); intro v' h' F' N'))
local macro_rules | `(tactic| walk_at "call builtin:dict.values") => `(tactic| (k_here; k_dflt (refine' valsK ?q1 ?q2 ?q3 ?q4 ?_; (case' q4 => walk_at "zz raw"); (case q1 => assumption); (case q2 => first | assumption | exact News.nil); (case q3 => assumption)); intro v' h' F' N'))
local macro_rules | `(tactic| walk_at "call builtin:dict.items") => `(tactic| (k_here; k_dflt (refine' itemsK ?q1 ?q2 ?q3 ?q4 ?_; (case' q4 => walk_at "zz raw"); (case q1 => assumption); (case q2 => first | assumption | exact News.nil); (case q3 => assumption)); intro v' h' F' N'))
local macro_rules | `(tactic| walk_at "call type:list") => `(tactic| (k_here; k_dflt (refine' listKeysK ?q1 ?q2 rfl ?q3 ?q4 ?q5 ?_; (case q2 => assumption); (case q3 => exact .head _); (case' q4 => walk_at "zz raw"); (case q1 => assumption); (case q5 => assumption)); intro l' c' h' hl' F' N'))
local macro_rules | `(tactic| walk_at "call type:list") => `(tactic| (k_here; k_dflt (refine' listValsK ?q1 ?q2 rfl ?q3 ?q4 ?q5 ?_; (case q2 => assumption); (case q3 => exact .head _); (case' q4 => walk_at "zz raw"); (case q1 => assumption); (case q5 => assumption)); intro l' c' h' hl' F' N'))
local macro_rules | `(tactic| walk_at "call type:list") => `(tactic| (k_here; k_dflt (refine' listItemsK ?q1 ?q2 rfl ?q3 ?q4 ?q5 ?_; (case q2 => assumption); (case q3 => exact .head _); (case' q4 => walk_at "zz raw"); (case q1 => assumption); (case q5 => assumption)); intro l' c' h' as' hl' F' N' hlen' has'))
local macro_rules | `(tactic| walk_at "call builtin:len") => `(tactic| (k_here; k_dflt (refine' raw_len ?q1 ?q2 ?q3 ?_; (case' q2 => walk_at "zz raw"); (case q1 => assumption); (case q3 => assumption))))
local macro_rules | `(tactic| walk_at "zz td") => `(tactic| exact TD.keeps (by assumption) (Fr.keep (by assumption)))
local macro_rules | `(tactic| walk_at "zz nm") => `(tactic| first | assumption | exact NameAt.keeps (by assumption) (Fr.keep (by assumption)))
local macro_rules | `(tactic| walk_at "compareOp In ref ref") => `(tactic| (k_here; k_dflt (refine' td_in (Nat.le_of_ble_eq_true rfl) ?q1 ?q2 ?q3 ?_; (case' q1 => walk_at "zz nm"); (case' q3 => walk_at "zz td"); (case q2 => assumption))))
local macro_rules | `(tactic| walk_at "getItem ref ref") => `(tactic| (k_here; k_dflt (refine' td_get (Nat.le_of_ble_eq_true rfl) ?q1 ?q2 ?q3 ?_; (case' q1 => walk_at "zz nm"); (case' q2 => walk_at "zz td"); (case q3 => assumption))))
local macro_rules | `(tactic| walk_at "subscriptTail Attribute Name ref ref") => `(tactic| (k_here; k_dflt (refine' td_sub (Nat.le_of_ble_eq_true rfl) ?q1 ?q2 ?q3 (by with_unfolding_all rfl) (by intro _; with_unfolding_all rfl) ?_; (case' q1 => walk_at "zz nm"); (case' q2 => walk_at "zz td"); (case q3 => assumption))))
local macro_rules | `(tactic| walk_at "subscriptTail Name Name ref ref") => `(tactic| (k_here; k_dflt (refine' td_sub (Nat.le_of_ble_eq_true rfl) ?q1 ?q2 ?q3 (by with_unfolding_all rfl) (by intro _; with_unfolding_all rfl) ?_; (case' q1 => walk_at "zz nm"); (case' q2 => walk_at "zz td"); (case q3 => assumption))))
local macro_rules | `(tactic| walk_at "call builtin:dict.get") => `(tactic| (k_here; k_dflt (refine' td_dget (Nat.le_of_ble_eq_true rfl) ?q1 ?q2 ?q3 ?_; (case' q1 => walk_at "zz nm"); (case' q3 => walk_at "zz td"); (case q2 => assumption))))
section
open PySem PySem.W PySem.Calls PyProof.Rows Builtin Builtin.Str
set_option Elab.async false
set_option maxRecDepth 100000
set_option linter.unusedVariables false
namespace At
section
variable {prog : Program} {w : World} {s : Shared} {r dv dq : Addr} {xs ys : List Ent}
set_option maxHeartbeats 1000000 in
theorem ns_getNames (B : Base w s.heap) (R : NSRd prog w s.heap r dv dq xs ys) :
    Does (model prog w) (Lv 16) (call (.ref 77) [.ref r]) s (fun v h' => ∃ l, v = .ref l ∧ h'.IsList l (xs.map fun x => Value.ref x.ka).toArray) := by
  refine does_intro fun Q hret => ?_
  obtain ⟨X, p, loose, mean, mg, mb, T⟩ := id B
  obtain ⟨dx, t, u, hr, hdx⟩ := R.inst
  have I := inst_of hr hdx
  obtain ⟨ep, V⟩ := R.vals
  obtain ⟨eq, U⟩ := R.qns
  have hraw := V.raw
  have hraq := U.raw
  have hvS := R.vS
  have hqS := R.qS
  have hsz : (xs.map (entOf prog w)).toArray.size ≤ sizeLine := by have := R.vl; simp [sizeLine_eq]; omega
  have hsq : (ys.map (entOf prog w)).toArray.size ≤ sizeLine := by have := R.ql; simp [sizeLine_eq]; omega
  have hs63 : (xs.map (entOf prog w)).toArray.size < 2 ^ 63 := by have := R.vl; simp; omega
  refine' call_fn2 [(Str.ofString "self", .ref r)] ?kX ?kT ?ko ?kc ?kr ?kb ?kl ?k0 ?c1 ?c2 ?c3 ?c4 ?_
  walk_at "zz enter"
  walk_at "zz go"
  have N9 := (by assumption : News s.heap _ _ _)
  exact hret _ _ _ (Fr.keep (by assumption)) ⟨_, rfl, _, (N9 _ (.head _)).1, rfl, _, by simp [Array.map_map]; try rfl⟩
set_option maxHeartbeats 1000000 in
theorem ns_keys (B : Base w s.heap) (R : NSRd prog w s.heap r dv dq xs ys) :
    Does (model prog w) (Lv 16) (call (.ref 105) [.ref r]) s (fun v h' => ∃ l, v = .ref l ∧ h'.IsList l (xs.map fun x => Value.ref x.ka).toArray) := by
  refine does_intro fun Q hret => ?_
  obtain ⟨X, p, loose, mean, mg, mb, T⟩ := id B
  obtain ⟨dx, t, u, hr, hdx⟩ := R.inst
  have I := inst_of hr hdx
  obtain ⟨ep, V⟩ := R.vals
  obtain ⟨eq, U⟩ := R.qns
  have hraw := V.raw
  have hraq := U.raw
  have hvS := R.vS
  have hqS := R.qS
  have hsz : (xs.map (entOf prog w)).toArray.size ≤ sizeLine := by have := R.vl; simp [sizeLine_eq]; omega
  have hsq : (ys.map (entOf prog w)).toArray.size ≤ sizeLine := by have := R.ql; simp [sizeLine_eq]; omega
  have hs63 : (xs.map (entOf prog w)).toArray.size < 2 ^ 63 := by have := R.vl; simp; omega
  refine' call_fn2 [(Str.ofString "self", .ref r)] ?kX ?kT ?ko ?kc ?kr ?kb ?kl ?k0 ?c1 ?c2 ?c3 ?c4 ?_
  walk_at "zz enter"
  walk_at "zz go"
  have N9 := (by assumption : News s.heap _ _ _)
  exact hret _ _ _ (Fr.keep (by assumption)) ⟨_, rfl, _, (N9 _ (.head _)).1, rfl, _, by simp [Array.map_map]; try rfl⟩
set_option maxHeartbeats 1000000 in
theorem ns_getQNames (B : Base w s.heap) (R : NSRd prog w s.heap r dv dq xs ys) :
    Does (model prog w) (Lv 16) (call (.ref 190) [.ref r]) s (fun v h' => ∃ l, v = .ref l ∧ h'.IsList l (ys.map fun y => Value.str y.val y.tok).toArray) := by
  refine does_intro fun Q hret => ?_
  obtain ⟨X, p, loose, mean, mg, mb, T⟩ := id B
  obtain ⟨dx, t, u, hr, hdx⟩ := R.inst
  have I := inst_of hr hdx
  obtain ⟨ep, V⟩ := R.vals
  obtain ⟨eq, U⟩ := R.qns
  have hraw := V.raw
  have hraq := U.raw
  have hvS := R.vS
  have hqS := R.qS
  have hsz : (xs.map (entOf prog w)).toArray.size ≤ sizeLine := by have := R.vl; simp [sizeLine_eq]; omega
  have hsq : (ys.map (entOf prog w)).toArray.size ≤ sizeLine := by have := R.ql; simp [sizeLine_eq]; omega
  have hs63 : (xs.map (entOf prog w)).toArray.size < 2 ^ 63 := by have := R.vl; simp; omega
  refine' call_fn2 [(Str.ofString "self", .ref r)] ?kX ?kT ?ko ?kc ?kr ?kb ?kl ?k0 ?c1 ?c2 ?c3 ?c4 ?_
  walk_at "zz enter"
  walk_at "zz go"
  have N9 := (by assumption : News s.heap _ _ _)
  exact hret _ _ _ (Fr.keep (by assumption)) ⟨_, rfl, _, (N9 _ (.head _)).1, rfl, _, by simp [Array.map_map]; try rfl⟩
set_option maxHeartbeats 1000000 in
theorem ns_values (B : Base w s.heap) (R : NSRd prog w s.heap r dv dq xs ys) :
    Does (model prog w) (Lv 16) (call (.ref 141) [.ref r]) s (fun v h' => ∃ l, v = .ref l ∧ h'.IsList l (xs.map fun y => Value.str y.val y.tok).toArray) := by
  refine does_intro fun Q hret => ?_
  obtain ⟨X, p, loose, mean, mg, mb, T⟩ := id B
  obtain ⟨dx, t, u, hr, hdx⟩ := R.inst
  have I := inst_of hr hdx
  obtain ⟨ep, V⟩ := R.vals
  obtain ⟨eq, U⟩ := R.qns
  have hraw := V.raw
  have hraq := U.raw
  have hvS := R.vS
  have hqS := R.qS
  have hsz : (xs.map (entOf prog w)).toArray.size ≤ sizeLine := by have := R.vl; simp [sizeLine_eq]; omega
  have hsq : (ys.map (entOf prog w)).toArray.size ≤ sizeLine := by have := R.ql; simp [sizeLine_eq]; omega
  have hs63 : (xs.map (entOf prog w)).toArray.size < 2 ^ 63 := by have := R.vl; simp; omega
  refine' call_fn2 [(Str.ofString "self", .ref r)] ?kX ?kT ?ko ?kc ?kr ?kb ?kl ?k0 ?c1 ?c2 ?c3 ?c4 ?_
  walk_at "zz enter"
  walk_at "zz go"
  have N9 := (by assumption : News s.heap _ _ _)
  exact hret _ _ _ (Fr.keep (by assumption)) ⟨_, rfl, _, (N9 _ (.head _)).1, rfl, _, by simp [Array.map_map]; try rfl⟩
set_option maxHeartbeats 1000000 in
theorem ns_items (B : Base w s.heap) (R : NSRd prog w s.heap r dv dq xs ys) :
    Does (model prog w) (Lv 16) (call (.ref 134) [.ref r]) s (fun v h' => ∃ l, v = .ref l ∧ ∃ as : List Addr, h'.IsList l (as.map Value.ref).toArray ∧ as.length = xs.length ∧ ∀ (i : Nat) a x, as[i]? = some a → xs[i]? = some x → IsTup h' a #[.ref x.ka, .str x.val x.tok]) := by
  refine does_intro fun Q hret => ?_
  obtain ⟨X, p, loose, mean, mg, mb, T⟩ := id B
  obtain ⟨dx, t, u, hr, hdx⟩ := R.inst
  have I := inst_of hr hdx
  obtain ⟨ep, V⟩ := R.vals
  obtain ⟨eq, U⟩ := R.qns
  have hraw := V.raw
  have hraq := U.raw
  have hvS := R.vS
  have hqS := R.qS
  have hsz : (xs.map (entOf prog w)).toArray.size ≤ sizeLine := by have := R.vl; simp [sizeLine_eq]; omega
  have hsq : (ys.map (entOf prog w)).toArray.size ≤ sizeLine := by have := R.ql; simp [sizeLine_eq]; omega
  have hs63 : (xs.map (entOf prog w)).toArray.size < 2 ^ 63 := by have := R.vl; simp; omega
  refine' call_fn2 [(Str.ofString "self", .ref r)] ?kX ?kT ?ko ?kc ?kr ?kb ?kl ?k0 ?c1 ?c2 ?c3 ?c4 ?_
  walk_at "zz enter"
  walk_at "zz go"
  rename_i as' _ _ N9 hlen has
  refine hret _ _ _ (Fr.keep (by assumption)) ⟨_, rfl, as', ⟨_, (N9 _ (.head _)).1, rfl, _, rfl⟩, by simpa using hlen, fun i a x ha hx => ?_⟩
  obtain ⟨e, he, hp, _⟩ := has i a ha
  have he' : e = entOf prog w x := by simpa [hx] using he.symm
  subst he'
  exact ⟨_, hp, rfl, _, rfl⟩
set_option maxHeartbeats 1000000 in
theorem ns_len (B : Base w s.heap) (R : NSRd prog w s.heap r dv dq xs ys) :
    Does (model prog w) (Lv 16) (call (.ref 91) [.ref r]) s (fun v h' => ∃ t, v = .int xs.length t) := by
  refine does_intro fun Q hret => ?_
  obtain ⟨X, p, loose, mean, mg, mb, T⟩ := id B
  obtain ⟨dx, t, u, hr, hdx⟩ := R.inst
  have I := inst_of hr hdx
  obtain ⟨ep, V⟩ := R.vals
  obtain ⟨eq, U⟩ := R.qns
  have hraw := V.raw
  have hraq := U.raw
  have hvS := R.vS
  have hqS := R.qS
  have hsz : (xs.map (entOf prog w)).toArray.size ≤ sizeLine := by have := R.vl; simp [sizeLine_eq]; omega
  have hsq : (ys.map (entOf prog w)).toArray.size ≤ sizeLine := by have := R.ql; simp [sizeLine_eq]; omega
  have hs63 : (xs.map (entOf prog w)).toArray.size < 2 ^ 63 := by have := R.vl; simp; omega
  refine' call_fn2 [(Str.ofString "self", .ref r)] ?kX ?kT ?ko ?kc ?kr ?kb ?kl ?k0 ?c1 ?c2 ?c3 ?c4 ?_
  walk_at "zz enter"
  walk_at "zz go"
  rw [List.size_toArray, List.length_map]
  exact hret _ _ _ (Fr.keep (by assumption)) ⟨_, rfl⟩
set_option maxHeartbeats 1000000 in
theorem ns_getLength (B : Base w s.heap) (R : NSRd prog w s.heap r dv dq xs ys) :
    Does (model prog w) (Lv 16) (call (.ref 35) [.ref r]) s (fun v h' => ∃ t, v = .int xs.length t) := by
  refine does_intro fun Q hret => ?_
  obtain ⟨X, p, loose, mean, mg, mb, T⟩ := id B
  obtain ⟨dx, t, u, hr, hdx⟩ := R.inst
  have I := inst_of hr hdx
  obtain ⟨ep, V⟩ := R.vals
  obtain ⟨eq, U⟩ := R.qns
  have hraw := V.raw
  have hraq := U.raw
  have hvS := R.vS
  have hqS := R.qS
  have hsz : (xs.map (entOf prog w)).toArray.size ≤ sizeLine := by have := R.vl; simp [sizeLine_eq]; omega
  have hsq : (ys.map (entOf prog w)).toArray.size ≤ sizeLine := by have := R.ql; simp [sizeLine_eq]; omega
  have hs63 : (xs.map (entOf prog w)).toArray.size < 2 ^ 63 := by have := R.vl; simp; omega
  refine' call_fn2 [(Str.ofString "self", .ref r)] ?kX ?kT ?ko ?kc ?kr ?kb ?kl ?k0 ?c1 ?c2 ?c3 ?c4 ?_
  walk_at "zz enter"
  walk_at "zz go"
  rw [List.size_toArray, List.length_map]
  exact hret _ _ _ (Fr.keep (by assumption)) ⟨_, rfl⟩
set_option maxHeartbeats 1000000 in
theorem ns_contains (B : Base w s.heap) (R : NSRd prog w s.heap r dv dq xs ys) {a : Addr} {n : Nm} (hn : NameAt s.heap a n) :
    Does (model prog w) (Lv 16) (call (.ref 112) [.ref r, .ref a]) s (fun v h' => v = .bool (look xs n).isSome) := by
  refine does_intro fun Q hret => ?_
  obtain ⟨X, p, loose, mean, mg, mb, T⟩ := id B
  obtain ⟨dx, t, u, hr, hdx⟩ := R.inst
  have I := inst_of hr hdx
  obtain ⟨ep, V⟩ := R.vals
  obtain ⟨eq, U⟩ := R.qns
  have hraw := V.raw
  have hraq := U.raw
  have hvS := R.vS
  have hqS := R.qS
  have hsz : (xs.map (entOf prog w)).toArray.size ≤ sizeLine := by have := R.vl; simp [sizeLine_eq]; omega
  have hsq : (ys.map (entOf prog w)).toArray.size ≤ sizeLine := by have := R.ql; simp [sizeLine_eq]; omega
  have hs63 : (xs.map (entOf prog w)).toArray.size < 2 ^ 63 := by have := R.vl; simp; omega
  refine' call_fn2 [(Str.ofString "self", .ref r), (Str.ofString "name", .ref a)] ?kX ?kT ?ko ?kc ?kr ?kb ?kl ?k0 ?c1 ?c2 ?c3 ?c4 ?_
  walk_at "zz enter"
  walk_at "zz go"
  exact hret _ _ _ (Fr.keep (by assumption)) rfl
set_option maxHeartbeats 1000000 in
theorem ns_getValue (B : Base w s.heap) (R : NSRd prog w s.heap r dv dq xs ys) {a : Addr} {n : Nm} (hn : NameAt s.heap a n) {x : Ent} (hl : look xs n = some x) :
    Does (model prog w) (Lv 16) (call (.ref 49) [.ref r, .ref a]) s (fun v h' => v = .str x.val x.tok) := by
  refine does_intro fun Q hret => ?_
  obtain ⟨X, p, loose, mean, mg, mb, T⟩ := id B
  obtain ⟨dx, t, u, hr, hdx⟩ := R.inst
  have I := inst_of hr hdx
  obtain ⟨ep, V⟩ := R.vals
  obtain ⟨eq, U⟩ := R.qns
  have hraw := V.raw
  have hraq := U.raw
  have hvS := R.vS
  have hqS := R.qS
  have hsz : (xs.map (entOf prog w)).toArray.size ≤ sizeLine := by have := R.vl; simp [sizeLine_eq]; omega
  have hsq : (ys.map (entOf prog w)).toArray.size ≤ sizeLine := by have := R.ql; simp [sizeLine_eq]; omega
  have hs63 : (xs.map (entOf prog w)).toArray.size < 2 ^ 63 := by have := R.vl; simp; omega
  refine' call_fn2 [(Str.ofString "self", .ref r), (Str.ofString "name", .ref a)] ?kX ?kT ?ko ?kc ?kr ?kb ?kl ?k0 ?c1 ?c2 ?c3 ?c4 ?_
  walk_at "zz enter"
  walk_at "zz go"
  exact hret _ _ _ (Fr.keep (by assumption)) rfl
set_option maxHeartbeats 1000000 in
theorem ns_getitem (B : Base w s.heap) (R : NSRd prog w s.heap r dv dq xs ys) {a : Addr} {n : Nm} (hn : NameAt s.heap a n) {x : Ent} (hl : look xs n = some x) :
    Does (model prog w) (Lv 16) (call (.ref 98) [.ref r, .ref a]) s (fun v h' => v = .str x.val x.tok) := by
  refine does_intro fun Q hret => ?_
  obtain ⟨X, p, loose, mean, mg, mb, T⟩ := id B
  obtain ⟨dx, t, u, hr, hdx⟩ := R.inst
  have I := inst_of hr hdx
  obtain ⟨ep, V⟩ := R.vals
  obtain ⟨eq, U⟩ := R.qns
  have hraw := V.raw
  have hraq := U.raw
  have hvS := R.vS
  have hqS := R.qS
  have hsz : (xs.map (entOf prog w)).toArray.size ≤ sizeLine := by have := R.vl; simp [sizeLine_eq]; omega
  have hsq : (ys.map (entOf prog w)).toArray.size ≤ sizeLine := by have := R.ql; simp [sizeLine_eq]; omega
  have hs63 : (xs.map (entOf prog w)).toArray.size < 2 ^ 63 := by have := R.vl; simp; omega
  refine' call_fn2 [(Str.ofString "self", .ref r), (Str.ofString "name", .ref a)] ?kX ?kT ?ko ?kc ?kr ?kb ?kl ?k0 ?c1 ?c2 ?c3 ?c4 ?_
  walk_at "zz enter"
  walk_at "zz go"
  exact hret _ _ _ (Fr.keep (by assumption)) rfl
set_option maxHeartbeats 1000000 in
theorem ns_getQNameByName (B : Base w s.heap) (R : NSRd prog w s.heap r dv dq xs ys) {a : Addr} {n : Nm} (hn : NameAt s.heap a n) {x : Ent} (hl : look ys n = some x) :
    Does (model prog w) (Lv 16) (call (.ref 183) [.ref r, .ref a]) s (fun v h' => v = .str x.val x.tok) := by
  refine does_intro fun Q hret => ?_
  obtain ⟨X, p, loose, mean, mg, mb, T⟩ := id B
  obtain ⟨dx, t, u, hr, hdx⟩ := R.inst
  have I := inst_of hr hdx
  obtain ⟨ep, V⟩ := R.vals
  obtain ⟨eq, U⟩ := R.qns
  have hraw := V.raw
  have hraq := U.raw
  have hvS := R.vS
  have hqS := R.qS
  have hsz : (xs.map (entOf prog w)).toArray.size ≤ sizeLine := by have := R.vl; simp [sizeLine_eq]; omega
  have hsq : (ys.map (entOf prog w)).toArray.size ≤ sizeLine := by have := R.ql; simp [sizeLine_eq]; omega
  have hs63 : (xs.map (entOf prog w)).toArray.size < 2 ^ 63 := by have := R.vl; simp; omega
  refine' call_fn2 [(Str.ofString "self", .ref r), (Str.ofString "name", .ref a)] ?kX ?kT ?ko ?kc ?kr ?kb ?kl ?k0 ?c1 ?c2 ?c3 ?c4 ?_
  walk_at "zz enter"
  walk_at "zz go"
  exact hret _ _ _ (Fr.keep (by assumption)) rfl
set_option maxHeartbeats 1000000 in
theorem ns_get1 (B : Base w s.heap) (R : NSRd prog w s.heap r dv dq xs ys) {a : Addr} {n : Nm} (hn : NameAt s.heap a n) :
    Does (model prog w) (Lv 16) (call (.ref 120) [.ref r, .ref a]) s (fun v h' => v = ((look xs n).map fun x => Value.str x.val x.tok).getD .none) := by
  refine does_intro fun Q hret => ?_
  obtain ⟨X, p, loose, mean, mg, mb, T⟩ := id B
  obtain ⟨dx, t, u, hr, hdx⟩ := R.inst
  have I := inst_of hr hdx
  obtain ⟨ep, V⟩ := R.vals
  obtain ⟨eq, U⟩ := R.qns
  have hraw := V.raw
  have hraq := U.raw
  have hvS := R.vS
  have hqS := R.qS
  have hsz : (xs.map (entOf prog w)).toArray.size ≤ sizeLine := by have := R.vl; simp [sizeLine_eq]; omega
  have hsq : (ys.map (entOf prog w)).toArray.size ≤ sizeLine := by have := R.ql; simp [sizeLine_eq]; omega
  have hs63 : (xs.map (entOf prog w)).toArray.size < 2 ^ 63 := by have := R.vl; simp; omega
  refine' call_fn2 [(Str.ofString "self", .ref r), (Str.ofString "name", .ref a), (Str.ofString "alternative", .none)] ?kX ?kT ?ko ?kc ?kr ?kb ?kl ?k0 ?c1 ?c2 ?c3 ?c4 ?_
  walk_at "zz enter"
  walk_at "zz go"
  exact hret _ _ _ (Fr.keep (by assumption)) rfl
set_option maxHeartbeats 1000000 in
theorem ns_get2 (B : Base w s.heap) (R : NSRd prog w s.heap r dv dq xs ys) {a : Addr} {n : Nm} (hn : NameAt s.heap a n) {z : Value} :
    Does (model prog w) (Lv 16) (call (.ref 120) [.ref r, .ref a, z]) s (fun v h' => v = ((look xs n).map fun x => Value.str x.val x.tok).getD z) := by
  refine does_intro fun Q hret => ?_
  obtain ⟨X, p, loose, mean, mg, mb, T⟩ := id B
  obtain ⟨dx, t, u, hr, hdx⟩ := R.inst
  have I := inst_of hr hdx
  obtain ⟨ep, V⟩ := R.vals
  obtain ⟨eq, U⟩ := R.qns
  have hraw := V.raw
  have hraq := U.raw
  have hvS := R.vS
  have hqS := R.qS
  have hsz : (xs.map (entOf prog w)).toArray.size ≤ sizeLine := by have := R.vl; simp [sizeLine_eq]; omega
  have hsq : (ys.map (entOf prog w)).toArray.size ≤ sizeLine := by have := R.ql; simp [sizeLine_eq]; omega
  have hs63 : (xs.map (entOf prog w)).toArray.size < 2 ^ 63 := by have := R.vl; simp; omega
  refine' call_fn2 [(Str.ofString "self", .ref r), (Str.ofString "name", .ref a), (Str.ofString "alternative", z)] ?kX ?kT ?ko ?kc ?kr ?kb ?kl ?k0 ?c1 ?c2 ?c3 ?c4 ?_
  walk_at "zz enter"
  walk_at "zz go"
  exact hret _ _ _ (Fr.keep (by assumption)) rfl
set_option maxHeartbeats 1000000 in
theorem ns_getType (B : Base w s.heap) (R : NSRd prog w s.heap r dv dq xs ys) {a : Addr} :
    Does (model prog w) (Lv 16) (call (.ref 42) [.ref r, .ref a]) s (fun v h' => ∃ t, v = .str (Str.ofString "CDATA") t) := by
  refine does_intro fun Q hret => ?_
  obtain ⟨X, p, loose, mean, mg, mb, T⟩ := id B
  obtain ⟨dx, t, u, hr, hdx⟩ := R.inst
  have I := inst_of hr hdx
  obtain ⟨ep, V⟩ := R.vals
  obtain ⟨eq, U⟩ := R.qns
  have hraw := V.raw
  have hraq := U.raw
  have hvS := R.vS
  have hqS := R.qS
  have hsz : (xs.map (entOf prog w)).toArray.size ≤ sizeLine := by have := R.vl; simp [sizeLine_eq]; omega
  have hsq : (ys.map (entOf prog w)).toArray.size ≤ sizeLine := by have := R.ql; simp [sizeLine_eq]; omega
  have hs63 : (xs.map (entOf prog w)).toArray.size < 2 ^ 63 := by have := R.vl; simp; omega
  refine' call_fn2 [(Str.ofString "self", .ref r), (Str.ofString "name", .ref a)] ?kX ?kT ?ko ?kc ?kr ?kb ?kl ?k0 ?c1 ?c2 ?c3 ?c4 ?_
  walk_at "zz enter"
  walk_at "zz go"
  exact hret _ _ _ (Fr.keep (by assumption)) ⟨_, rfl⟩
set_option maxHeartbeats 1000000 in
theorem ns_getNameByQName (B : Base w s.heap) (R : NSRd prog w s.heap r dv dq xs ys) {z : Str} {k : Nat} {x : Ent} (hl : look ys x.nm = some x) (hz : x.val = z) (hu : ∀ y ∈ ys, y.val = z → y = x) :
    Does (model prog w) (Lv 14) (call (.ref 176) [.ref r, .str z k]) s (fun v h' => v = .ref x.ka) := by
  refine does_intro fun Q hret => ?_
  obtain ⟨X, p, loose, mean, mg, mb, T⟩ := id B
  obtain ⟨dx, t, u, hr, hdx⟩ := R.inst
  have I := inst_of hr hdx
  obtain ⟨ep, V⟩ := R.vals
  obtain ⟨eq, U⟩ := R.qns
  have hraw := V.raw
  have hraq := U.raw
  have hvS := R.vS
  have hqS := R.qS
  have hsz : (xs.map (entOf prog w)).toArray.size ≤ sizeLine := by have := R.vl; simp [sizeLine_eq]; omega
  have hsq : (ys.map (entOf prog w)).toArray.size ≤ sizeLine := by have := R.ql; simp [sizeLine_eq]; omega
  have hs63 : (xs.map (entOf prog w)).toArray.size < 2 ^ 63 := by have := R.vl; simp; omega
  refine' call_fn2 [(Str.ofString "self", .ref r), (Str.ofString "name", .str z k)] ?kX ?kT ?ko ?kc ?kr ?kb ?kl ?k0 ?c1 ?c2 ?c3 ?c4 ?_
  walk_at "zz enter"
  walk_at "zz go"
  have N9 := (by assumption : News s.heap _ _ _)
  have hx0 := look_some hl
  refine iter_items (x := Str.ofString "nsname") (y := Str.ofString "qname") rfl rfl rfl rfl (N9 _ (.head _)).1 (fun h k => k.1 _ _ hraq) (by assumption) N9 (fun i m => m "self" = some (.ref r) ∧ m "name" = some (.str z k) ∧ ∀ j y, j < i → ys[j]? = some y → y.val ≠ z) ⟨rfl, rfl, fun j y hj => absurd hj (Nat.not_lt_zero _)⟩ ?_ ?_
  · intro i e m₁ h tk o hi hJ F₁ N₁
    obtain ⟨hs, hnm, hno⟩ := hJ
    obtain ⟨y, hyi, rfl⟩ : ∃ y, ys[i]? = some y ∧ e = entOf prog w y := by
      rw [List.getElem?_toArray, List.getElem?_map] at hi
      cases hy : ys[i]? with
      | none => rw [hy] at hi; cases hi
      | some y => rw [hy] at hi; exact ⟨y, rfl, (Option.some.inj hi).symm⟩
    dsimp only at F₁
    walk_at "zz go"
    · have hv := eq_of_beq (by assumption : (y.val == z) = true)
      obtain rfl := hu y (List.mem_of_getElem? hyi) hv
      exact hret _ _ _ F₁.keep rfl
    · have hv := (by assumption : (y.val == z) = false)
      refine PurePost.next F₁ N₁ (fun _ hp => hp) ⟨hs, hnm, fun j y' hj hy' => ?_⟩
      rcases Nat.lt_succ_iff_lt_or_eq.mp hj with hj | rfl
      · exact hno j y' hj hy'
      · rw [hyi] at hy'
        obtain rfl := Option.some.inj hy'
        intro e; rw [e] at hv; simp at hv
  · intro h' tk m' F' N' hJ
    obtain ⟨i, hi⟩ := List.mem_iff_getElem?.mp hx0.1
    exact absurd hz (hJ.2.2 i x (by have := (List.getElem?_eq_some_iff.mp hi).1; simpa using this) hi)
set_option maxHeartbeats 1000000 in
theorem ns_getValueByQName (B : Base w s.heap) (R : NSRd prog w s.heap r dv dq xs ys) {z : Str} {k : Nat} {x y : Ent} (hl : look ys x.nm = some x) (hz : x.val = z) (hu : ∀ y ∈ ys, y.val = z → y = x) (hy : look xs x.nm = some y) :
    Does (model prog w) (Lv 14) (call (.ref 169) [.ref r, .str z k]) s (fun v h' => v = .str y.val y.tok) := by
  refine does_intro fun Q hret => ?_
  obtain ⟨X, p, loose, mean, mg, mb, T⟩ := id B
  obtain ⟨dx, t, u, hr, hdx⟩ := R.inst
  have I := inst_of hr hdx
  obtain ⟨ep, V⟩ := R.vals
  obtain ⟨eq, U⟩ := R.qns
  have hraw := V.raw
  have hraq := U.raw
  have hvS := R.vS
  have hqS := R.qS
  have hsz : (xs.map (entOf prog w)).toArray.size ≤ sizeLine := by have := R.vl; simp [sizeLine_eq]; omega
  have hsq : (ys.map (entOf prog w)).toArray.size ≤ sizeLine := by have := R.ql; simp [sizeLine_eq]; omega
  have hs63 : (xs.map (entOf prog w)).toArray.size < 2 ^ 63 := by have := R.vl; simp; omega
  refine' call_fn2 [(Str.ofString "self", .ref r), (Str.ofString "name", .str z k)] ?kX ?kT ?ko ?kc ?kr ?kb ?kl ?k0 ?c1 ?c2 ?c3 ?c4 ?_
  walk_at "zz enter"
  walk_at "zz go"
  have N9 := (by assumption : News s.heap _ _ _)
  have hx0 := look_some hl
  refine iter_items (x := Str.ofString "nsname") (y := Str.ofString "qname") rfl rfl rfl rfl (N9 _ (.head _)).1 (fun h k => k.1 _ _ hraq) (by assumption) N9 (fun i m => m "self" = some (.ref r) ∧ m "name" = some (.str z k) ∧ ∀ j y, j < i → ys[j]? = some y → y.val ≠ z) ⟨rfl, rfl, fun j y hj => absurd hj (Nat.not_lt_zero _)⟩ ?_ ?_
  · intro i e m₁ h tk o hi hJ F₁ N₁
    obtain ⟨hs, hnm, hno⟩ := hJ
    obtain ⟨y, hyi, rfl⟩ : ∃ y, ys[i]? = some y ∧ e = entOf prog w y := by
      rw [List.getElem?_toArray, List.getElem?_map] at hi
      cases hy : ys[i]? with
      | none => rw [hy] at hi; cases hi
      | some y => rw [hy] at hi; exact ⟨y, rfl, (Option.some.inj hi).symm⟩
    dsimp only at F₁
    by_cases hyx : y.val = z
    · obtain rfl := hu y (List.mem_of_getElem? hyi) hyx
      have hn := U.nms _ hx0.1
      walk_at "zz go"
      · exact hret _ _ _ (Fr.keep (by assumption)) rfl
      · have hv := (by assumption : (y.val == z) = false)
        rw [hyx] at hv; simp at hv
    walk_at "zz go"
    · have hv := eq_of_beq (by assumption : (y.val == z) = true)
      exact absurd hv hyx
    · have hv := (by assumption : (y.val == z) = false)
      refine PurePost.next F₁ N₁ (fun _ hp => hp) ⟨hs, hnm, fun j y' hj hy' => ?_⟩
      rcases Nat.lt_succ_iff_lt_or_eq.mp hj with hj | rfl
      · exact hno j y' hj hy'
      · rw [hyi] at hy'
        obtain rfl := Option.some.inj hy'
        intro e; rw [e] at hv; simp at hv
  · intro h' tk m' F' N' hJ
    obtain ⟨i, hi⟩ := List.mem_iff_getElem?.mp hx0.1
    exact absurd hz (hJ.2.2 i x (by have := (List.getElem?_eq_some_iff.mp hi).1; simpa using this) hi)
set_option maxHeartbeats 1000000 in
theorem ns_copy (B : Base w s.heap) {L₁ : Addr} {o₁ : Obj} (hL : s.heap.get? L₁ = some o₁) (R₀ : NSRd prog w (s.heap.hide L₁) r dv dq xs ys) :
    Does (model prog w) (Lv 14) (call (.ref 197) [.ref r]) s (fun v h' => ∃ r', v = .ref r' ∧ NSRd prog w (h'.hide L₁) r' dv dq xs ys) := by
  have R := R₀.keeps fun _ _ e => Heap.of_hide e
  refine does_intro fun Q hret => ?_
  obtain ⟨X, p, loose, mean, mg, mb, T⟩ := id B
  obtain ⟨dx, t, u, hr, hdx⟩ := R.inst
  have I := inst_of hr hdx
  obtain ⟨ep, V⟩ := R.vals
  obtain ⟨eq, U⟩ := R.qns
  have hraw := V.raw
  have hraq := U.raw
  have hvS := R.vS
  have hqS := R.qS
  have hsz : (xs.map (entOf prog w)).toArray.size ≤ sizeLine := by have := R.vl; simp [sizeLine_eq]; omega
  have hsq : (ys.map (entOf prog w)).toArray.size ≤ sizeLine := by have := R.ql; simp [sizeLine_eq]; omega
  have hs63 : (xs.map (entOf prog w)).toArray.size < 2 ^ 63 := by have := R.vl; simp; omega
  refine' call_fn2 [(Str.ofString "self", .ref r)] ?kX ?kT ?ko ?kc ?kr ?kb ?kl ?k0 ?c1 ?c2 ?c3 ?c4 ?_
  walk_at "zz enter"
  walk_at "zz go"
  refine ns_make B (by assumption) (by assumption) rfl (Nat.le_of_ble_eq_true rfl) (Nat.le_of_ble_eq_true rfl) ?_
  intro x dx' h' tk t' u' F N hne hlt
  have old : ∀ b o, (s.heap.hide L₁).get? b = some o → (h'.hide L₁).get? b = some o := fun b o e => hide_mono F.keep e
  have new : ∀ p ∈ [(x, instObj 200 dx'), (dx', dictOf (nsE w t' u' dv dq) 2)], (h'.hide L₁).get? p.1 = some p.2 := fun p hp =>
    hide_new (N p hp).1 hL (N p hp).2.2
  exact hret _ _ _ F.keep ⟨x, rfl, ⟨dx', t', u', new _ (.head _), new _ (.tail _ (.head _))⟩, let ⟨e, v⟩ := R₀.vals; ⟨e, v.keeps old⟩, let ⟨e, v⟩ := R₀.qns; ⟨e, v.keeps old⟩, R.vS, R.qS, R.vl, R.ql⟩
end
end At
end
section
open PySem PySem.W PySem.Calls PyProof.Rows Builtin Builtin.Str
set_option Elab.async false
set_option maxRecDepth 100000
set_option linter.unusedVariables false
namespace At
structure Row where
  nm : Str
  nt : Nat
  val : Str
  tok : Nat
abbrev psOf (zs : List Row) : List (Str × Nat × Value) := zs.map fun z => (z.nm, z.nt, Value.str z.val z.tok)
def PD (w : World) (h : Heap) (d : Addr) (zs : List Row) (ep : Nat) : Prop := RawD h d (sEnts w (psOf zs)).toArray ep ∧ (zs.map (·.nm)).Nodup
theorem PD.keeps {w : World} {h h' : Heap} {d : Addr} {zs : List Row} {ep : Nat} (x : PD w h d zs ep) (k : ∀ b o, h.get? b = some o → h'.get? b = some o) : PD w h' d zs ep := ⟨k _ _ x.1, x.2⟩
def lookP (zs : List Row) (n : Str) : Option Row := zs.find? (fun z => decide (z.nm = n))
theorem PD.mapOf {prog : Program} {w : World} {h : Heap} {d : Addr} {zs : List Row} {ep : Nat} (x : PD w h d zs ep) : h.MapOf (PySem.strKind prog w) d fun k => (lookP zs k).map fun z => Value.str z.val z.tok := by
  refine ⟨_, _, ep, x.1, ⟨rfl, rfl, rfl⟩, rfl, (sEnts_ks _).keys, fun k => ?_⟩
  unfold findBy lookP sEnts
  rw [List.find?_toArray, List.map_map, List.find?_map]
  have : ((fun e : DictEntry => (PySem.strKind prog w).is k e.key) ∘ ((fun p : Str × Nat × Value => sEnt w p.1 p.2.1 p.2.2) ∘ fun z : Row => (z.nm, z.nt, Value.str z.val z.tok))) = fun z => decide (z.nm = k) := by
    funext z
    have := KeyKind.is_eq_decide (knd := PySem.strKind prog w) (k := z.nm) (v := .str z.nm z.nt) (str_is _ _) k
    show (PySem.strKind prog w).is k (.str z.nm z.nt) = _
    rw [this]
    by_cases e : k = z.nm
    · subst e; simp
    · simp [e, Ne.symm e]
  rw [this]
  show _ = Option.map (fun z => Value.str z.val z.tok) (List.find? (fun z => decide (z.nm = k)) zs)
  cases zs.find? (fun z => decide (z.nm = k)) <;> rfl
structure PlRd (w : World) (h : Heap) (r d : Addr) (zs : List Row) : Prop where
  inst : ∃ dx t, h.get? r = some (instObj 144 dx) ∧ h.get? dx = some (dictOf [selfE w (Str.ofString "_attrs") t d] 1)
  vals : ∃ ep, PD w h d zs ep
  vS : (d == sysModules) = false
  vl : zs.length ≤ 8
theorem PlRd.keeps {w : World} {h h' : Heap} {r d : Addr} {zs : List Row} (x : PlRd w h r d zs) (k : ∀ b o, h.get? b = some o → h'.get? b = some o) : PlRd w h' r d zs :=
  ⟨let ⟨dx, t, a, b⟩ := x.inst; ⟨dx, t, k _ _ a, k _ _ b⟩, let ⟨ep, t⟩ := x.vals; ⟨ep, t.keeps k⟩, x.vS, x.vl⟩
section
variable {prog : Program} {w : World} {A : Around} {E : Value → Shared → Prop} {s : Shared} {d : Addr} {zs : List Row} {ep : Nat} {n : Str} {t : Nat} {Q : Value → Shared → Prop}
theorem pd_notin (hdS : (d == sysModules) = false) (hd : PD w s.heap d zs ep) (h : Q (.bool (!(lookP zs n).isSome)) { s with toks := s.toks + 1 }) : wpAny (model prog w) A (compareOp .NotIn (.str n t) (.ref d)) Q E s := by
  refine wpAny_notIn_of (knd := PySem.strKind prog w) (k := n) (str_is _ _) hdS hd.mapOf ?_
  cases hl : lookP zs n <;> (rw [hl] at h; exact h)
theorem pd_sub {value slice : PySem.Expr} {z : Row} (hd : PD w s.heap d zs ep) (hl : lookP zs n = some z)
    (hs : subscripted slice false (.ref d) (.str n t) = operate [.ref d, .str n t] (getItem (.ref d) (.str n t))) (hg : ∀ r, letTemporaryGo value (.ref d) r = pure ())
    (h : Q (.str z.val z.tok) { s with toks := s.toks + 1 }) : wpAny (model prog w) A (subscriptTail value slice (.ref d) (.str n t)) Q E s :=
  subscriptTail_builtin (PD.mapOf (prog := prog) hd).typeIs slot_dict_getitem.lookup (wpAny_getItem_of (knd := PySem.strKind prog w) (k := n) (str_is _ _) hd.mapOf (by rw [hl]; rfl) h) hs hg
end
local macro_rules | `(tactic| walk_at "setAttr ref") => `(tactic| (k_here; k_dflt (refine' set_dict ?k1 ?k2 ?k3 ?k4 ?k5 ?k6 ?k7 ?k8 ?k9 ?k10 ?k11 ?k12 ?k13 ?_; (case k1 => k_asm); (case k2 => k_asm); (case k3 => k_asm); (case k4 => k_inst); (case k5 => exact rfl); (case k6 => k_is); (case k7 => k_is); (case k8 => k_is); (case k9 => k_is); (case k10 => k_get); (case k11 => k_put); (case k12 => exact Upd.tail (by assumption) (Upd.head (by assumption))); (case k13 => exact Nat.le_of_ble_eq_true rfl); k_whole; intro h' F' N'; (try k_sweep))))
set_option maxHeartbeats 1000000 in
theorem pl_init {prog : Program} {w : World} {s : Shared} {h₀ : Heap} {L₀ x dx dv : Addr} {m₀ : Str → Option Value} {news : List (Addr × Obj)} {R : Result → Shared → Prop}
    (B : Base w h₀) (F₀ : Fr h₀ L₀ s.heap m₀) (N₀ : News h₀ L₀ s.heap ((x, instObj 144 dx) :: (dx, dictOf [] 0) :: news)) (hxd : x ≠ dx) (hnd : ∀ p ∈ news, p.1 ≠ dx)
    (hR : ∀ h' tk t, Fr h₀ L₀ h' m₀ → News h₀ L₀ h' ((x, instObj 144 dx) :: (dx, dictOf [selfE w (Str.ofString "_attrs") t dv] 1) :: news) → R (.ok (.ret .none)) { s with heap := h', toks := tk }) :
    codeAny (model prog w) (Lv 22) (.call (.ref 28) ⟨[.ref x, .ref dv], []⟩) R s := by
  obtain ⟨X, p, loose, mean, mg, mb, T⟩ := id B
  refine' code_keep [(Str.ofString "self", .ref x), (Str.ofString "attrs", .ref dv)] F₀ N₀ ?kX ?kT ?ko ?kc ?kr ?kb ?kl ?k0 ?c1 ?c2 ?c3 ?c4 ?_
  (case kX => assumption); (case kT => exact Top.nolimit (by assumption)); (case ko => k_is); (case kc => k_is); (case kr => decide); (case kb => first | exact BindsTo.of_eq rfl | exact binds_K (by assumption) rfl (by k_is) rfl rfl rfl); (case kl => exact locs rfl); (case k0 => exact Nat.zero_lt_succ _); (case c1 => decide); (case c2 => rfl); (case c3 => rfl); (case c4 => rfl)
  intro L h₁ tk oL F N htk hns
  have hback : ∀ {h' : Heap} {m'}, Fr h₀ L h' m' → News h₀ L h' [(L₀, oL)] → Fr h₀ L₀ h' m₀ := fun F' N' => fr_back F₀ F' (hns _ (N' _ (.head _)).1)
  have hLd : L₀ ≠ dx := fun e => (N₀ (dx, dictOf [] 0) (.tail _ (.head _))).2.1 e.symm
  have hLn : ∀ p ∈ (x, instObj 144 dx) :: (dx, dictOf [] 0) :: news, p.1 ≠ L₀ := fun p hp => (N₀ p hp).2.1
  have hN0 : ∀ p ∈ (x, instObj 144 dx) :: (dx, dictOf [] 0) :: news, h₀.get? p.1 = none := fun p hp => (N₀ p hp).2.2
  clear F₀ N₀
  rw [List.cons_append, List.cons_append] at N
  have hrest : ∀ p ∈ news ++ [(L₀, oL)], p.1 ≠ dx := fun p hp => by
    rcases List.mem_append.mp hp with hp | hp
    · exact hnd p hp
    · obtain rfl := List.mem_singleton.mp hp; exact hLd
  try dsimp only
  walk_at "zz go"
  have F9 := (by assumption : Fr h₀ L _ _)
  have N9 := (by assumption : News h₀ L _ _)
  refine hR _ _ _ (hback F9 (news_sub N9 fun p hp => .tail _ (.tail _ (List.mem_append_right _ hp)))) (news_swap (a := (x, instObj 144 dx) :: (dx, _) :: news) (rest := [(L₀, oL)]) N9 fun p hp => ?_)
  rcases List.mem_cons.mp hp with rfl | hp
  · exact hLn _ (.head _)
  rcases List.mem_cons.mp hp with rfl | hp
  · exact fun e => hLd e.symm
  · exact hLn _ (.tail _ (.tail _ hp))

/-- the class is called -/
theorem pl_make {prog : Program} {w : World} {A : Around} {E : Value → Shared → Prop} {s : Shared} {h₀ : Heap} {L₀ dv : Addr} {m₀ : Str → Option Value} {news : List (Addr × Obj)} {Q : Value → Shared → Prop}
    (B : Base w h₀) (F₀ : Fr h₀ L₀ s.heap m₀) (N₀ : News h₀ L₀ s.heap news) (hh : A.handled = none) (hd : A.depth ≤ 330) (hu : A.units ≤ 2200)
    (hQ : ∀ x dx h' tk t, Fr h₀ L₀ h' m₀ → News h₀ L₀ h' ((x, instObj 144 dx) :: (dx, dictOf [selfE w (Str.ofString "_attrs") t dv] 1) :: news) → x ≠ dx → (∀ p ∈ news, p.1 < dx) → Q (.ref x) { s with heap := h', toks := tk }) :
    wpAny (model prog w) A (call (.ref 144) [.ref dv]) Q E s := by
  obtain ⟨X, p, loose, mean, mg, mb, T⟩ := id B
  refine' call_cls F₀ X N₀ ?k4 ?k5 ?k6 ?_
  (case k4 => k_is)
  (case k5 => k_is)
  (case k6 => k_is)
  intro x dx h' F' N' hlt hdx
  refine code_weaken (A₁ := Lv 22) hh.symm ?_ ?_ rfl rfl (pl_init (s := { s with heap := h' }) B F' N' (Nat.ne_of_gt hdx) (fun p hp => Nat.ne_of_lt (hlt p hp)) ?_)
  · show A.depth + 1 ≤ 332
    omega
  · exact Nat.le_trans (Nat.add_le_add_right hu _) (Nat.le_of_ble_eq_true rfl)
  · intro h'' tk t F'' N''
    exact ⟨rfl, hQ x dx h'' tk t F'' N'' (Nat.ne_of_gt hdx) hlt⟩
local macro_rules | `(tactic| walk_at "zz pd") => `(tactic| exact PD.keeps (by assumption) (Fr.keep (by assumption)))
local macro_rules | `(tactic| walk_at "compareOp NotIn str ref") => `(tactic| (k_here; k_dflt (refine' pd_notin ?q2 ?q3 ?_; (case' q3 => walk_at "zz pd"); (case q2 => assumption))))
local macro_rules | `(tactic| walk_at "subscriptTail Name Name ref str") => `(tactic| (k_here; k_dflt (refine' pd_sub ?q2 ?q3 (by with_unfolding_all rfl) (by intro _; with_unfolding_all rfl) ?_; (case' q2 => walk_at "zz pd"); (case q3 => assumption))))
section
variable {prog : Program} {w : World} {s : Shared} {r d : Addr} {zs : List Row}
set_option maxHeartbeats 1000000 in
theorem pl_getQNames (B : Base w s.heap) (R : PlRd w s.heap r d zs) :
    Does (model prog w) (Lv 16) (call (.ref 84) [.ref r]) s (fun v h' => ∃ l, v = .ref l ∧ h'.IsList l (zs.map fun z => Value.str z.nm z.nt).toArray) := by
  refine does_intro fun Q hret => ?_
  obtain ⟨X, p, loose, mean, mg, mb, T⟩ := id B
  obtain ⟨dx, t, hr, hdx⟩ := R.inst
  have I := inst_of hr hdx
  obtain ⟨ep, V⟩ := R.vals
  have hraw := V.1
  have hvS := R.vS
  have hsz : (sEnts w (psOf zs)).toArray.size ≤ sizeLine := by have := R.vl; simp [sizeLine_eq, sEnts]; omega
  have hs63 : (sEnts w (psOf zs)).toArray.size < 2 ^ 63 := by have := R.vl; simp [sEnts]; omega
  refine' call_fn2 [(Str.ofString "self", .ref r)] ?kX ?kT ?ko ?kc ?kr ?kb ?kl ?k0 ?c1 ?c2 ?c3 ?c4 ?_
  walk_at "zz enter"
  walk_at "zz go"
  have N9 := (by assumption : News s.heap _ _ _)
  exact hret _ _ _ (Fr.keep (by assumption)) ⟨_, rfl, _, (N9 _ (.head _)).1, rfl, _, by simp [sEnts, Array.map_map]; try rfl⟩
set_option maxHeartbeats 1000000 in
theorem pl_items (B : Base w s.heap) (R : PlRd w s.heap r d zs) :
    Does (model prog w) (Lv 16) (call (.ref 134) [.ref r]) s (fun v h' => ∃ l, v = .ref l ∧ ∃ as : List Addr, h'.IsList l (as.map Value.ref).toArray ∧ as.length = zs.length ∧ ∀ (i : Nat) a x, as[i]? = some a → zs[i]? = some x → IsTup h' a #[.str x.nm x.nt, .str x.val x.tok]) := by
  refine does_intro fun Q hret => ?_
  obtain ⟨X, p, loose, mean, mg, mb, T⟩ := id B
  obtain ⟨dx, t, hr, hdx⟩ := R.inst
  have I := inst_of hr hdx
  obtain ⟨ep, V⟩ := R.vals
  have hraw := V.1
  have hvS := R.vS
  have hsz : (sEnts w (psOf zs)).toArray.size ≤ sizeLine := by have := R.vl; simp [sizeLine_eq, sEnts]; omega
  have hs63 : (sEnts w (psOf zs)).toArray.size < 2 ^ 63 := by have := R.vl; simp [sEnts]; omega
  refine' call_fn2 [(Str.ofString "self", .ref r)] ?kX ?kT ?ko ?kc ?kr ?kb ?kl ?k0 ?c1 ?c2 ?c3 ?c4 ?_
  walk_at "zz enter"
  walk_at "zz go"
  rename_i as' _ _ N9 hlen has
  refine hret _ _ _ (Fr.keep (by assumption)) ⟨_, rfl, as', ⟨_, (N9 _ (.head _)).1, rfl, _, rfl⟩, by simpa [sEnts] using hlen, fun i a x ha hx => ?_⟩
  obtain ⟨e, he, hp, _⟩ := has i a ha
  have he' : e = sEnt w x.nm x.nt (.str x.val x.tok) := by simpa [sEnts, hx] using he.symm
  subst he'
  exact ⟨_, hp, rfl, _, rfl⟩
set_option maxHeartbeats 1000000 in
theorem pl_len (B : Base w s.heap) (R : PlRd w s.heap r d zs) :
    Does (model prog w) (Lv 16) (call (.ref 91) [.ref r]) s (fun v h' => ∃ t, v = .int zs.length t) := by
  refine does_intro fun Q hret => ?_
  obtain ⟨X, p, loose, mean, mg, mb, T⟩ := id B
  obtain ⟨dx, t, hr, hdx⟩ := R.inst
  have I := inst_of hr hdx
  obtain ⟨ep, V⟩ := R.vals
  have hraw := V.1
  have hvS := R.vS
  have hsz : (sEnts w (psOf zs)).toArray.size ≤ sizeLine := by have := R.vl; simp [sizeLine_eq, sEnts]; omega
  have hs63 : (sEnts w (psOf zs)).toArray.size < 2 ^ 63 := by have := R.vl; simp [sEnts]; omega
  refine' call_fn2 [(Str.ofString "self", .ref r)] ?kX ?kT ?ko ?kc ?kr ?kb ?kl ?k0 ?c1 ?c2 ?c3 ?c4 ?_
  walk_at "zz enter"
  walk_at "zz go"
  rw [show (sEnts w (psOf zs)).toArray.size = zs.length by simp [sEnts]]
  exact hret _ _ _ (Fr.keep (by assumption)) ⟨_, rfl⟩
set_option maxHeartbeats 1000000 in
theorem pl_getValue (B : Base w s.heap) (R : PlRd w s.heap r d zs) {n : Str} {k : Nat} {z : Row} (hl : lookP zs n = some z) :
    Does (model prog w) (Lv 16) (call (.ref 49) [.ref r, .str n k]) s (fun v h' => v = .str z.val z.tok) := by
  refine does_intro fun Q hret => ?_
  obtain ⟨X, p, loose, mean, mg, mb, T⟩ := id B
  obtain ⟨dx, t, hr, hdx⟩ := R.inst
  have I := inst_of hr hdx
  obtain ⟨ep, V⟩ := R.vals
  have hraw := V.1
  have hvS := R.vS
  have hsz : (sEnts w (psOf zs)).toArray.size ≤ sizeLine := by have := R.vl; simp [sizeLine_eq, sEnts]; omega
  have hs63 : (sEnts w (psOf zs)).toArray.size < 2 ^ 63 := by have := R.vl; simp [sEnts]; omega
  refine' call_fn2 [(Str.ofString "self", .ref r), (Str.ofString "name", .str n k)] ?kX ?kT ?ko ?kc ?kr ?kb ?kl ?k0 ?c1 ?c2 ?c3 ?c4 ?_
  walk_at "zz enter"
  walk_at "zz go"
  exact hret _ _ _ (Fr.keep (by assumption)) rfl
set_option maxHeartbeats 1000000 in
theorem pl_getValueByQName (B : Base w s.heap) (R : PlRd w s.heap r d zs) {n : Str} {k : Nat} {z : Row} (hl : lookP zs n = some z) :
    Does (model prog w) (Lv 16) (call (.ref 56) [.ref r, .str n k]) s (fun v h' => v = .str z.val z.tok) := by
  refine does_intro fun Q hret => ?_
  obtain ⟨X, p, loose, mean, mg, mb, T⟩ := id B
  obtain ⟨dx, t, hr, hdx⟩ := R.inst
  have I := inst_of hr hdx
  obtain ⟨ep, V⟩ := R.vals
  have hraw := V.1
  have hvS := R.vS
  have hsz : (sEnts w (psOf zs)).toArray.size ≤ sizeLine := by have := R.vl; simp [sizeLine_eq, sEnts]; omega
  have hs63 : (sEnts w (psOf zs)).toArray.size < 2 ^ 63 := by have := R.vl; simp [sEnts]; omega
  refine' call_fn2 [(Str.ofString "self", .ref r), (Str.ofString "name", .str n k)] ?kX ?kT ?ko ?kc ?kr ?kb ?kl ?k0 ?c1 ?c2 ?c3 ?c4 ?_
  walk_at "zz enter"
  walk_at "zz go"
  exact hret _ _ _ (Fr.keep (by assumption)) rfl
set_option maxHeartbeats 1000000 in
theorem pl_getNameByQName (B : Base w s.heap) (R : PlRd w s.heap r d zs) {n : Str} {k : Nat} {z : Row} (hl : lookP zs n = some z) :
    Does (model prog w) (Lv 16) (call (.ref 63) [.ref r, .str n k]) s (fun v h' => v = .str n k) := by
  refine does_intro fun Q hret => ?_
  obtain ⟨X, p, loose, mean, mg, mb, T⟩ := id B
  obtain ⟨dx, t, hr, hdx⟩ := R.inst
  have I := inst_of hr hdx
  obtain ⟨ep, V⟩ := R.vals
  have hraw := V.1
  have hvS := R.vS
  have hsz : (sEnts w (psOf zs)).toArray.size ≤ sizeLine := by have := R.vl; simp [sizeLine_eq, sEnts]; omega
  have hs63 : (sEnts w (psOf zs)).toArray.size < 2 ^ 63 := by have := R.vl; simp [sEnts]; omega
  refine' call_fn2 [(Str.ofString "self", .ref r), (Str.ofString "name", .str n k)] ?kX ?kT ?ko ?kc ?kr ?kb ?kl ?k0 ?c1 ?c2 ?c3 ?c4 ?_
  walk_at "zz enter"
  walk_at "zz go"
  exact hret _ _ _ (Fr.keep (by assumption)) rfl
set_option maxHeartbeats 1000000 in
theorem pl_copy (B : Base w s.heap) (R : PlRd w s.heap r d zs) :
    Does (model prog w) (Lv 14) (call (.ref 127) [.ref r]) s (fun v h' => ∃ r', v = .ref r' ∧ PlRd w h' r' d zs) := by
  refine does_intro fun Q hret => ?_
  obtain ⟨X, p, loose, mean, mg, mb, T⟩ := id B
  obtain ⟨dx, t, hr, hdx⟩ := R.inst
  have I := inst_of hr hdx
  obtain ⟨ep, V⟩ := R.vals
  have hraw := V.1
  have hvS := R.vS
  have hsz : (sEnts w (psOf zs)).toArray.size ≤ sizeLine := by have := R.vl; simp [sizeLine_eq, sEnts]; omega
  have hs63 : (sEnts w (psOf zs)).toArray.size < 2 ^ 63 := by have := R.vl; simp [sEnts]; omega
  refine' call_fn2 [(Str.ofString "self", .ref r)] ?kX ?kT ?ko ?kc ?kr ?kb ?kl ?k0 ?c1 ?c2 ?c3 ?c4 ?_
  walk_at "zz enter"
  walk_at "zz go"
  refine pl_make B (by assumption) (by assumption) rfl (Nat.le_of_ble_eq_true rfl) (Nat.le_of_ble_eq_true rfl) ?_
  intro x dx' h' tk t' F N hne hlt
  exact hret _ _ _ F.keep ⟨x, rfl, ⟨dx', t', (N _ (.head _)).1, (N _ (.tail _ (.head _))).1⟩, let ⟨e, v⟩ := R.vals; ⟨e, v.keeps F.keep⟩, R.vS, R.vl⟩
end
end At
end
section
open PySem PySem.W PyProof.Rows
set_option Elab.async false
set_option linter.unusedVariables false
namespace At
/-! the sort's questions, answered by an order -/
def runT {α : Type} (f : Nat → Nat → Bool) : KasT α → α
  | .ret a => a
  | .ask i j k => runT f (k (f i j))
theorem runT_bind {α β : Type} {f : Nat → Nat → Bool} {g : α → KasT β} : ∀ t : KasT α, runT f (t.bind g) = runT f (g (runT f t))
  | .ret _ => rfl
  | .ask i j k => runT_bind (k (f i j))

structure Ord (n : Nat) (lt : Nat → Nat → Bool) : Prop where
  irr : ∀ i, i < n → lt i i = false
  tri : ∀ i j, i < n → j < n → i ≠ j → lt i j = true ∨ lt j i = true
  trans : ∀ i j k, i < n → j < n → k < n → lt i j = true → lt j k = true → lt i k = true

section
variable {n : Nat} {lt : Nat → Nat → Bool} {p : Array Nat}
def Good (n : Nat) (p : Array Nat) : Prop := p.Perm (List.range n).toArray
theorem Good.size (g : Good n p) : p.size = n := by have := g.size_eq; simpa using this
theorem Good.bd (g : Good n p) {i : Nat} (hi : i < n) : p.getD i 0 < n := by
  have hs := g.size
  have e : p.getD i 0 = p[i] := by simp [Array.getD, hs, hi]
  have hm : p[i] ∈ p.toList := by simp
  have := (Array.perm_iff_toList_perm.mp g).mem_iff.mp hm
  rw [e]
  simpa using this
theorem Good.inj (g : Good n p) {i j : Nat} (hi : i < n) (hj : j < n) (h : p.getD i 0 = p.getD j 0) : i = j := by
  have hs := g.size
  have e : p.getD i 0 = p[i] := by simp [Array.getD, hs, hi]
  have e2 : p.getD j 0 = p[j] := by simp [Array.getD, hs, hj]
  rw [e, e2] at h
  have nd : p.toList.Nodup := (Array.perm_iff_toList_perm.mp g).nodup_iff.mpr (by simpa using List.nodup_range)
  have pw := List.pairwise_iff_getElem.mp nd
  have hi' : i < p.toList.length := by simp [hs, hi]
  have hj' : j < p.toList.length := by simp [hs, hj]
  have h' : p.toList[i] = p.toList[j] := by rw [Array.getElem_toList, Array.getElem_toList]; exact h
  rcases Nat.lt_trichotomy i j with hij | hij | hij
  · exact absurd h' (pw i j hi' hj' hij)
  · exact hij
  · exact absurd h'.symm (pw j i hj' hi' hij)
theorem Good.mirror (g : Good n p) (i j d : Nat) : Good n (mirror p i j d) := (mirror_perm p i j d).trans g
theorem Good.bubble (g : Good n p) (i d : Nat) : Good n (bubble p i d) := (bubble_perm p i d).trans g
def Up (lt : Nat → Nat → Bool) (p : Array Nat) (k : Nat) : Prop := ∀ i j, i < j → j < k → lt (p.getD i 0) (p.getD j 0) = true
def Down (lt : Nat → Nat → Bool) (p : Array Nat) (k : Nat) : Prop := ∀ i j, i < j → j < k → lt (p.getD j 0) (p.getD i 0) = true
variable (O : Ord n lt)
include O
theorem not_lt (g : Good n p) {i j : Nat} (hi : i < n) (hj : j < n) (hij : i ≠ j) (h : lt (p.getD i 0) (p.getD j 0) = false) : lt (p.getD j 0) (p.getD i 0) = true := by
  rcases O.tri _ _ (g.bd hi) (g.bd hj) (fun e => hij (g.inj hi hj e)) with x | x
  · rw [h] at x; cases x
  · exact x
theorem asym {i j : Nat} (hi : i < n) (hj : j < n) (h : lt i j = true) : lt j i = false := by
  cases e : lt j i with
  | false => rfl
  | true => have := O.trans _ _ _ hi hj hi h e; rw [O.irr i hi] at this; cases this
theorem up_next (g : Good n p) {k : Nat} (h1 : 1 ≤ k) (hk : k < n) (hu : Up lt p k) (h : lt (p.getD (k - 1) 0) (p.getD k 0) = true) : Up lt p (k + 1) := by
  intro i j hij hj
  by_cases hjk : j < k
  · exact hu i j hij hjk
  · obtain rfl : j = k := by omega
    by_cases hi : i = j - 1
    · subst hi; exact h
    · exact O.trans _ _ _ (g.bd (by omega)) (g.bd (by omega)) (g.bd hk) (hu i (j - 1) (by omega) (by omega)) h
theorem down_next (g : Good n p) {k : Nat} (h1 : 1 ≤ k) (hk : k < n) (hu : Down lt p k) (h : lt (p.getD k 0) (p.getD (k - 1) 0) = true) : Down lt p (k + 1) := by
  intro i j hij hj
  by_cases hjk : j < k
  · exact hu i j hij hjk
  · obtain rfl : j = k := by omega
    by_cases hi : i = j - 1
    · subst hi; exact h
    · exact O.trans _ _ _ (g.bd hk) (g.bd (by omega)) (g.bd (by omega)) h (hu i (j - 1) (by omega) (by omega))

theorem asc_run (g : Good n p) : ∀ (f k : Nat), 1 ≤ k → k + f ≤ n → Up lt p k →
    k ≤ runT lt (kas_asc p f k) ∧ runT lt (kas_asc p f k) ≤ k + f ∧ Up lt p (runT lt (kas_asc p f k)) ∧ (runT lt (kas_asc p f k) = k + f ∨ lt (p.getD (runT lt (kas_asc p f k)) 0) (p.getD (runT lt (kas_asc p f k) - 1) 0) = true)
  | 0, k, h1, hf, hu => ⟨Nat.le_refl _, Nat.le_refl _, hu, .inl rfl⟩
  | f + 1, k, h1, hf, hu => by
    show k ≤ runT lt (if lt (p.getD k 0) (p.getD (k - 1) 0) = true then KasT.ret k else kas_asc p f (k + 1)) ∧ _ ∧ Up lt p (runT lt (if lt (p.getD k 0) (p.getD (k - 1) 0) = true then KasT.ret k else kas_asc p f (k + 1))) ∧ _
    by_cases c : lt (p.getD k 0) (p.getD (k - 1) 0) = true
    · have e : runT lt (kas_asc p (f + 1) k) = k := by
        show runT lt (if lt (p.getD k 0) (p.getD (k - 1) 0) = true then KasT.ret k else kas_asc p f (k + 1)) = k
        rw [if_pos c]; rfl
      rw [e, if_pos c]
      exact ⟨Nat.le_refl _, by omega, hu, .inr c⟩
    · have e : runT lt (kas_asc p (f + 1) k) = runT lt (kas_asc p f (k + 1)) := by
        show runT lt (if lt (p.getD k 0) (p.getD (k - 1) 0) = true then KasT.ret k else kas_asc p f (k + 1)) = _
        rw [if_neg c]
      rw [e, if_neg c]
      have hu' := up_next O g h1 (by omega) hu (not_lt O g (by omega) (by omega) (by omega) (Bool.eq_false_iff.mpr c))
      obtain ⟨a, b, c', d⟩ := asc_run g f (k + 1) (by omega) (by omega) hu'
      exact ⟨by omega, by omega, c', by rw [show k + (f + 1) = k + 1 + f by omega]; exact d⟩

theorem desc_run (g : Good n p) : ∀ (f k : Nat), 1 ≤ k → k + f ≤ n → Down lt p k → ∃ m, runT lt (kas_desc f p k 0) = (p, m, 0) ∧ k ≤ m ∧ m ≤ k + f ∧ Down lt p m
  | 0, k, h1, hf, hu => ⟨k, rfl, Nat.le_refl _, Nat.le_refl _, hu⟩
  | f + 1, k, h1, hf, hu => by
    by_cases c : lt (p.getD k 0) (p.getD (k - 1) 0) = true
    · have e : runT lt (kas_desc (f + 1) p k 0) = runT lt (kas_desc f p (k + 1) 0) := by
        show runT lt (if lt (p.getD k 0) (p.getD (k - 1) 0) = true then _ else _) = _
        rw [if_pos c, if_neg (Nat.lt_irrefl 0)]
      obtain ⟨m, a, b, c', d⟩ := desc_run g f (k + 1) (by omega) (by omega) (down_next O g h1 (by omega) hu c)
      exact ⟨m, by rw [e, a], by omega, by omega, d⟩
    · have c2 := not_lt O g (by omega) (by omega) (by omega) (Bool.eq_false_iff.mpr c)
      have e : runT lt (kas_desc (f + 1) p k 0) = (p, k, 0) := by
        show runT lt (if lt (p.getD k 0) (p.getD (k - 1) 0) = true then _ else KasT.ask (p.getD (k - 1) 0) (p.getD k 0) _) = _
        rw [if_neg c]
        show runT lt (if lt (p.getD (k - 1) 0) (p.getD k 0) = true then _ else _) = _
        rw [if_pos c2]; rfl
      exact ⟨k, e, Nat.le_refl _, by omega, hu⟩
omit O in
theorem getD_of {a b : Array Nat} {i j : Nat} (h : a[i]? = b[j]?) : a.getD i 0 = b.getD j 0 := by
  rw [Array.getD_eq_getD_getElem?, Array.getD_eq_getD_getElem?, h]
omit O in
theorem rev_get (g : Good n p) {m : Nat} (hm : m ≤ n) (k : Nat) : (kas_rev p 0 m).getD k 0 = if k < m then p.getD (m - 1 - k) 0 else p.getD k 0 := by
  have e := getElem?_mirror_all (xs := p) (i := 0) (j := m) (by rw [g.size]; exact hm) k
  unfold kas_rev
  by_cases h : k < m
  · rw [if_pos ⟨Nat.zero_le _, h⟩, Nat.zero_add] at e
    rw [if_pos h]; exact getD_of e
  · rw [if_neg (fun x => h x.2)] at e
    rw [if_neg h]; exact getD_of e
theorem tail_run (g : Good n p) {m : Nat} (h1 : 1 ≤ m) (hm : m ≤ n) (hd : Down lt p m) :
    ∃ r q, runT lt (kas_tail3 m n p) = (r, q) ∧ Good n q ∧ 1 ≤ r ∧ r ≤ n ∧ Up lt q r := by
  have g' : Good n (kas_rev p 0 m) := g.mirror _ _ _
  have hu : Up lt (kas_rev p 0 m) m := fun i j hij hj => by
    rw [rev_get g hm, rev_get g hm, if_pos (by omega), if_pos hj]
    exact hd _ _ (by omega) (by omega)
  obtain ⟨a, b, c, _⟩ := asc_run O g' (n - m) m h1 (by omega) hu
  refine ⟨_, _, ?_, g', by omega, by omega, c⟩
  unfold kas_tail3
  rw [runT_bind]
  rfl
theorem count_run (g : Good n p) (h2 : 2 ≤ n) : ∃ r q, runT lt (kas_count n p) = (r, q) ∧ Good n q ∧ 1 ≤ r ∧ r ≤ n ∧ Up lt q r := by
  obtain ⟨a, b, c, d⟩ := asc_run O g (n - 1) 1 (Nat.le_refl _) (by omega) (fun i j h1 h2 => by omega)
  unfold kas_count
  rw [runT_bind]
  generalize runT lt (kas_asc p (n - 1) 1) = m at a b c d
  by_cases hm : m = n
  · subst hm
    simp only [beq_self_eq_true, if_true]
    exact ⟨m, p, rfl, g, by omega, by omega, c⟩
  · rw [if_neg (by simpa using hm)]
    have d' : lt (p.getD m 0) (p.getD (m - 1) 0) = true := by
      rcases d with d | d
      · omega
      · exact d
    by_cases h1 : m > 1
    · rw [if_pos h1]
      have c0 := c 0 (m - 1) (by omega) (by omega)
      refine ⟨m, p, ?_, g, by omega, by omega, c⟩
      show runT lt (if lt (p.getD 0 0) (p.getD (m - 1) 0) = true then KasT.ret (m, p) else _) = _
      rw [if_pos c0]; rfl
    · rw [if_neg h1]
      obtain rfl : m = 1 := by omega
      unfold kas_descPart
      rw [runT_bind]
      have hd : Down lt p (1 + 1) := down_next O g (Nat.le_refl _) (by omega) (fun i j h1 h2 => by omega) d'
      obtain ⟨k, e, k1, k2, hk⟩ := desc_run O g (n - (1 + 1)) (1 + 1) (by omega) (by omega) hd
      rw [e]
      dsimp only
      rw [if_neg (Nat.lt_irrefl 0)]
      exact tail_run O g (by omega) (by omega) hk

theorem place_run (g : Good n p) {k : Nat} (hk : k < n) (hu : Up lt p k) : ∀ (f l r : Nat), l ≤ r → r ≤ k → r - l ≤ f → (∀ i, i < l → lt (p.getD i 0) (p.getD k 0) = true) → (∀ i, r ≤ i → i < k → lt (p.getD k 0) (p.getD i 0) = true) →
    ∃ m, runT lt (kas_place p k f l r) = m ∧ m ≤ k ∧ (∀ i, i < m → lt (p.getD i 0) (p.getD k 0) = true) ∧ (∀ i, m ≤ i → i < k → lt (p.getD k 0) (p.getD i 0) = true)
  | 0, l, r, h1, h2, h3, hl, hr => ⟨l, rfl, by omega, hl, fun i a b => hr i (by omega) b⟩
  | f + 1, l, r, h1, h2, h3, hl, hr => by
    rw [kas_place]
    by_cases hge : l ≥ r
    · rw [if_pos hge]
      exact ⟨l, rfl, by omega, hl, fun i a b => hr i (by omega) b⟩
    · rw [if_neg hge]
      show ∃ m, runT lt (if lt (p.getD k 0) (p.getD ((l + r) / 2) 0) = true then _ else _) = m ∧ _
      by_cases c : lt (p.getD k 0) (p.getD ((l + r) / 2) 0) = true
      · rw [if_pos c]
        refine place_run g hk hu f l ((l + r) / 2) (by omega) (by omega) (by omega) hl fun i a b => ?_
        by_cases hi : i = (l + r) / 2
        · subst hi; exact c
        · exact O.trans _ _ _ (g.bd hk) (g.bd (by omega)) (g.bd (by omega)) c (hu _ _ (by omega) b)
      · rw [if_neg c]
        have c2 := not_lt O g hk (by omega) (by omega) (Bool.eq_false_iff.mpr c)
        refine place_run g hk hu f ((l + r) / 2 + 1) r (by omega) h2 (by omega) (fun i a => ?_) hr
        by_cases hi : i = (l + r) / 2
        · subst hi; exact c2
        · exact O.trans _ _ _ (g.bd (by omega)) (g.bd (by omega)) (g.bd hk) (hu _ _ (by omega) (by omega)) c2
omit O in
theorem bub_get (g : Good n p) {k m : Nat} (hk : k < n) (hm : m ≤ k) (i : Nat) : (bubble p k (k - m)).getD i 0 = if i = m then p.getD k 0 else if m < i ∧ i ≤ k then p.getD (i - 1) 0 else p.getD i 0 := by
  have e := getElem?_bubble (xs := p) (src := k) (by rw [g.size]; exact hk) (k - m) (by omega) i
  rw [show k - (k - m) = m by omega] at e
  by_cases h1 : i = m
  · rw [if_pos h1] at e ⊢; exact getD_of e
  · rw [if_neg h1] at e ⊢
    by_cases h2 : m < i ∧ i ≤ k
    · rw [if_pos h2] at e ⊢; exact getD_of e
    · rw [if_neg h2] at e ⊢; exact getD_of e
theorem bin_run : ∀ (f k : Nat) (p : Array Nat), Good n p → k + f = n → Up lt p k → ∃ q, runT lt (kas_bin f p k) = q ∧ Good n q ∧ Up lt q n
  | 0, k, p, g, hf, hu => ⟨p, rfl, g, by rw [← hf]; exact hu⟩
  | f + 1, k, p, g, hf, hu => by
    rw [kas_bin, runT_bind]
    obtain ⟨m, e, hm, hl, hr⟩ := place_run O g (k := k) (by omega) hu k 0 k (by omega) (by omega) (by omega) (fun i h => by omega) (fun i a b => by omega)
    rw [e]
    refine bin_run f (k + 1) _ (g.bubble _ _) (by omega) fun i j hij hj => ?_
    rw [bub_get g (by omega) hm, bub_get g (by omega) hm]
    repeat' split
    all_goals first
      | (exfalso; omega)
      | exact hl _ (by omega)
      | exact hr _ (by omega) (by omega)
      | exact hu _ _ (by omega) (by omega)
theorem sort_run (h2 : 2 ≤ n) : ∃ q, runT lt (kas_sort n) = q ∧ Good n q ∧ Up lt q n := by
  obtain ⟨r, q, e, g, h1, hr, hu⟩ := count_run O (p := (List.range n).toArray) (Array.Perm.refl _) h2
  unfold kas_sort
  rw [runT_bind, e]
  dsimp only
  by_cases hlt : r < n
  · rw [if_pos hlt, show max r 1 = r by omega]
    exact bin_run O (n - r) r q g (by omega) hu
  · rw [if_neg hlt]
    obtain rfl : r = n := by omega
    exact ⟨q, rfl, g, hu⟩
end
end At
end
section
open PySem PySem.W PySem.Calls PyProof.Rows Builtin Builtin.Str
set_option Elab.async false
set_option maxRecDepth 100000
set_option linter.unusedVariables false
namespace At
/-! the questions stay in range -/
def RngP {α : Type} (n : Nat) (P : α → Prop) : KasT α → Prop
  | .ret a => P a
  | .ask i j k => i < n ∧ j < n ∧ ∀ b, RngP n P (k b)
theorem RngP.bind {α β : Type} {n : Nat} {P : α → Prop} {Q : β → Prop} {g : α → KasT β} (hg : ∀ a, P a → RngP n Q (g a)) : ∀ {t : KasT α}, RngP n P t → RngP n Q (t.bind g)
  | .ret a, h => hg a h
  | .ask i j k, h => ⟨h.1, h.2.1, fun b => RngP.bind hg (h.2.2 b)⟩
section
variable {n : Nat} {p : Array Nat}
theorem Good.any (g : Good n p) (hn : 0 < n) (i : Nat) : p.getD i 0 < n := by
  by_cases h : i < n
  · exact g.bd h
  · have : p.getD i 0 = 0 := by simp [Array.getD, g.size, h]
    rw [this]; exact hn
theorem rng_asc (hn : 0 < n) (g : Good n p) : ∀ f k, RngP n (fun _ => True) (kas_asc p f k)
  | 0, _ => trivial
  | f + 1, k => ⟨g.any hn _, g.any hn _, fun b => by cases b; exact rng_asc hn g f (k + 1); trivial⟩
theorem rng_desc (hn : 0 < n) : ∀ f (p : Array Nat) k q, Good n p → RngP n (fun r => Good n r.1) (kas_desc f p k q)
  | 0, _, _, _, g => g
  | f + 1, p, k, q, g => ⟨g.any hn _, g.any hn _, fun b => by
    cases b with
    | true =>
      show RngP n _ (if true = true then _ else _)
      rw [if_pos rfl]
      split
      · exact rng_desc hn f _ _ _ (g.mirror _ _ _)
      · exact rng_desc hn f _ _ _ g
    | false =>
      show RngP n _ (if false = true then _ else _)
      rw [if_neg Bool.false_ne_true]
      refine ⟨g.any hn _, g.any hn _, fun b => ?_⟩
      cases b with
      | true => exact g
      | false => exact rng_desc hn f _ _ _ g⟩
theorem rng_tail (hn : 0 < n) (g : Good n p) (m k : Nat) : RngP n (fun r => Good n r.2) (kas_tail3 m k p) := by
  have g' : Good n (kas_rev p 0 m) := g.mirror _ _ _
  unfold kas_tail3
  refine RngP.bind (P := fun _ : Nat => True) (fun a _ => ?_) (rng_asc hn g' _ _)
  exact g'
theorem rng_descPart (hn : 0 < n) (g : Good n p) (m k : Nat) : RngP n (fun r => Good n r.2) (kas_descPart m k p) := by
  refine RngP.bind (fun r hr => ?_) (rng_desc hn _ _ _ _ g)
  split
  · exact rng_tail hn (hr.mirror _ _ _) _ _
  · exact rng_tail hn hr _ _
theorem rng_count (hn : 0 < n) (g : Good n p) (k : Nat) : RngP n (fun r => Good n r.2) (kas_count k p) := by
  refine RngP.bind (fun m _ => ?_) (rng_asc hn g _ _)
  split
  · exact g
  · split
    · refine ⟨g.any hn _, g.any hn _, fun b => ?_⟩
      cases b with
      | true => exact g
      | false => exact rng_descPart hn (g.mirror _ _ _) _ _
    · exact rng_descPart hn g _ _
theorem rng_place (hn : 0 < n) (g : Good n p) (k : Nat) : ∀ f l r, RngP n (fun _ => True) (kas_place p k f l r)
  | 0, _, _ => trivial
  | f + 1, l, r => by
    rw [kas_place]
    split
    · trivial
    · refine ⟨g.any hn _, g.any hn _, fun b => ?_⟩
      cases b with
      | true => exact rng_place hn g k f _ _
      | false => exact rng_place hn g k f _ _
theorem rng_bin (hn : 0 < n) : ∀ f (p : Array Nat) k, Good n p → RngP n (fun _ => True) (kas_bin f p k)
  | 0, _, _, _ => trivial
  | f + 1, p, k, g => RngP.bind (fun _ _ => rng_bin hn f _ _ (g.bubble _ _)) (rng_place hn g k _ _ _)
theorem rng_sort (hn : 0 < n) : RngP n (fun _ => True) (kas_sort n) := by
  refine RngP.bind (fun r hr => ?_) (rng_count hn (p := (List.range n).toArray) (Array.Perm.refl _) n)
  split
  · exact rng_bin hn _ _ _ hr
  · trivial
theorem wp_run {α : Type} {cmp : Nat → Nat → (Bool → Shared → Prop) → Shared → Prop} {lt : Nat → Nat → Bool} {Inv : Shared → Prop} {P : α → Prop} {Q : α → Shared → Prop}
    (hc : ∀ i j (C : Bool → Shared → Prop) s, i < n → j < n → Inv s → (∀ s', Inv s' → C (lt i j) s') → cmp i j C s) :
    ∀ (t : KasT α) (s : Shared), RngP n P t → Inv s → (∀ s', Inv s' → Q (runT lt t) s') → t.kasWp cmp Q s
  | .ret a, s, _, hi, hq => hq s hi
  | .ask i j k, s, hr, hi, hq => hc i j _ s hr.1 hr.2.1 hi fun s' hi' => wp_run hc (k (lt i j)) s' (hr.2.2 _) hi' hq
end

/-! names in order -/
def slt (x y : Str) : Bool := decide (x.cps.toList < y.cps.toList)
def nlt (a b : Nm) : Bool := if a.1 = b.1 then (if a.2 = b.2 then false else slt a.2 b.2) else slt a.1 b.1
theorem slt_irr (x : Str) : slt x x = false := by unfold slt; simpa using List.lt_irrefl _
theorem slt_trans {x y z : Str} (h : slt x y = true) (h2 : slt y z = true) : slt x z = true := by
  unfold slt at *; simp only [decide_eq_true_eq] at *; exact List.lt_trans h h2
theorem slt_tri {x y : Str} (h : x ≠ y) : slt x y = true ∨ slt y x = true := by
  unfold slt; simp only [decide_eq_true_eq]
  by_cases h1 : x.cps.toList < y.cps.toList
  · exact .inl h1
  · by_cases h2 : y.cps.toList < x.cps.toList
    · exact .inr h2
    · have := List.le_antisymm (List.not_lt.mp h2) (List.not_lt.mp h1)
      exact absurd (by
        obtain ⟨⟨l⟩⟩ := x; obtain ⟨⟨m⟩⟩ := y
        simp only at this
        rw [this]) h
theorem nlt_irr (a : Nm) : nlt a a = false := by unfold nlt; rw [if_pos rfl, if_pos rfl]
theorem nlt_tri {a b : Nm} (h : a ≠ b) : nlt a b = true ∨ nlt b a = true := by
  obtain ⟨x, y⟩ := a; obtain ⟨u, v⟩ := b
  unfold nlt
  by_cases h1 : x = u
  · subst h1
    have h2 : y ≠ v := fun e => h (by rw [e])
    simp only [if_true, if_neg h2, if_neg (Ne.symm h2)]
    exact slt_tri h2
  · simp only [if_neg h1, if_neg (Ne.symm h1)]
    exact slt_tri h1
theorem nlt_trans {a b c : Nm} (h : nlt a b = true) (h2 : nlt b c = true) : nlt a c = true := by
  obtain ⟨x, y⟩ := a; obtain ⟨u, v⟩ := b; obtain ⟨p, q⟩ := c
  unfold nlt at *
  simp only at *
  by_cases e1 : x = u
  · subst e1
    by_cases e2 : x = p
    · subst e2
      rw [if_pos rfl] at h h2 ⊢
      by_cases e3 : y = v
      · rw [if_pos e3] at h; cases h
      · rw [if_neg e3] at h
        by_cases e4 : v = q
        · rw [if_pos e4] at h2; cases h2
        · rw [if_neg e4] at h2
          have := slt_trans h h2
          by_cases e5 : y = q
          · subst e5; rw [slt_irr] at this; cases this
          · rw [if_neg e5]; exact this
    · rw [if_neg e2] at h2 ⊢
      exact h2
  · rw [if_neg e1] at h
    by_cases e2 : u = p
    · subst e2
      rw [if_neg e1]; exact h
    · rw [if_neg e2] at h2
      have := slt_trans h h2
      by_cases e3 : x = p
      · subst e3; rw [slt_irr] at this; cases this
      · rw [if_neg e3]; exact this

section
variable {prog : Program} {w : World} {A : Around} {E : Value → Shared → Prop} {s : Shared} {a b : Addr} {n m : Nm}
theorem tuple_lt_eq (a b : Value) : Builtin.«tuple.__lt__» ⟨[a, b], []⟩ = (do
    let (a, [b]) ← slotArgs "__lt__" 1 ⟨[a, b], []⟩ | unsupported "internal:tuple.compare"
    if !(← isInstance b (.type "tuple")) then return ← ret .notImplemented
    let xs ← Builtin.Tuple.tupleItemsOf a
    let ys ← Builtin.Tuple.tupleItemsOf b
    for (x, y) in xs.toList.zip ys.toList do
      if !(← eqBool x y) then
        rule "tuple.compare.by-the-first-pair-that-differs"; return ← ret (← richCompare .Lt x y)
    ret (Builtin.Tuple.tupleCompareSizes .Lt xs.size ys.size)) := rfl
theorem lt_names {Q : Value → Shared → Prop} (hu : A.units ≤ 9000) (ha : NameAt s.heap a n) (hb : NameAt s.heap b m) (h : Q (.bool (nlt n m)) s) : wpAny (model prog w) A (compareOp .Lt (.ref a) (.ref b)) Q E s := by
  have hT := (ha.key (prog := prog) (w := w)).typeIs
  have hT2 := (hb.key (prog := prog) (w := w)).typeIs
  obtain ⟨u1, u2, o1, ho1, hc1, k1, hd1⟩ := ha
  obtain ⟨v1, v2, o2, ho2, hc2, k2, hd2⟩ := hb
  show wpAny _ _ (richCompare .Lt (.ref a) (.ref b)) _ _ _
  refine wpAny_richCompare_same_room hT hT2 F.slot_tuple_lt ?_ (by unfold cLine; omega)
  refine wpAny_call_entry F.slot_tuple_lt hT F.entry_tuple_lt ?_ (F.args_tuple_lt_2 _ _)
  rw [tuple_lt_eq]
  refine wpAny_bind (wpAny_pure ?_)
  dsimp only
  refine wpAny_bind (wpAny_isInstance hT2 isSubtype_tuple_tuple ?_)
  simp only [Bool.not_true, Bool.false_eq_true, if_false]
  refine wpAny_bind (wpAny_tupleItemsOf ho1 hd1 ?_)
  refine wpAny_bind (wpAny_tupleItemsOf ho2 hd2 ?_)
  show wpAny _ _ (forIn [(Value.str n.1 u1, Value.str m.1 v1), (Value.str n.2 u2, Value.str m.2 v2)] _ _ >>= _) _ _ _
  refine wpAny_bind ?_
  rw [List.forIn_cons]
  unfold nlt at h
  by_cases e1 : n.1 = m.1
  · rw [if_pos e1] at h
    refine wpAny_bind (wpAny_bind (wpAny_eqBool_str ?_))
    rw [decide_eq_true e1]
    simp only [Bool.not_true, Bool.false_eq_true, if_false]
    refine wpAny_pure ?_
    dsimp only
    rw [List.forIn_cons]
    by_cases e2 : n.2 = m.2
    · rw [if_pos e2] at h
      refine wpAny_bind (wpAny_bind (wpAny_eqBool_str ?_))
      rw [decide_eq_true e2]
      simp only [Bool.not_true, Bool.false_eq_true, if_false]
      refine wpAny_pure ?_
      dsimp only
      rw [List.forIn_nil]
      refine wpAny_pure ?_
      dsimp only
      exact wpAny_pure ⟨_, rfl, (fun e => nomatch e), h⟩
    · rw [if_neg e2] at h
      refine wpAny_bind (wpAny_bind (wpAny_eqBool_str ?_))
      rw [decide_eq_false e2]
      simp only [Bool.not_false, if_true]
      refine wpAny_bind (wpAny_rule (wpAny_bind (show wpAny _ _ (compareOp .Lt (.str n.2 u2) (.str m.2 v2)) _ _ _ from P.lt_str ?_)))
      refine wpAny_bind (wpAny_pure (wpAny_pure ?_))
      dsimp only
      refine wpAny_pure ?_
      dsimp only
      exact wpAny_pure ⟨_, rfl, (fun e => nomatch e), h⟩
  · rw [if_neg e1] at h
    refine wpAny_bind (wpAny_bind (wpAny_eqBool_str ?_))
    rw [decide_eq_false e1]
    simp only [Bool.not_false, if_true]
    refine wpAny_bind (wpAny_rule (wpAny_bind (show wpAny _ _ (compareOp .Lt (.str n.1 u1) (.str m.1 v1)) _ _ _ from P.lt_str ?_)))
    refine wpAny_bind (wpAny_pure (wpAny_pure ?_))
    dsimp only
    refine wpAny_pure ?_
    dsimp only
    exact wpAny_pure ⟨_, rfl, (fun e => nomatch e), h⟩

theorem eqB_names {Q : Bool → Shared → Prop} (hu : A.units ≤ 9000) (ha : NameAt s.heap a n) (hb : NameAt s.heap b m) (h : Q (decide (n = m)) s) : wpAny (model prog w) A (eqBool (.ref a) (.ref b)) Q E s := by
  refine (tupleKind (PySem.strKind prog w)).eqBool (show A.units < cLine by unfold cLine; omega) ha.key hb.key ?_
  have : decide (kOf n = kOf m) = decide (n = m) := by
    by_cases e : n = m
    · subst e; simp
    · rw [decide_eq_false e, decide_eq_false (fun x => e (kOf_inj x))]
  rw [this]; exact h

/-- one question about names -/
theorem ask_names {Q : Bool → Shared → Prop} (hu : A.units ≤ 9000) (ha : NameAt s.heap a n) (hb : NameAt s.heap b m) (h : Q (nlt n m) s) : wpAny (model prog w) A (keyLt' (tuples' true) (.ref a) (.ref b)) Q E s := by
  obtain ⟨u1, u2, o1, ho1, hc1, k1, hd1⟩ := ha
  obtain ⟨v1, v2, o2, ho2, hc2, k2, hd2⟩ := hb
  refine kat_lt ho1 hd1 ho2 hd2 ?_
  show KatLex prog w A true _ Q [(Value.str n.1 u1, Value.str m.1 v1), (Value.str n.2 u2, Value.str m.2 v2)] 0 s
  refine kat_cons (wpAny_eqBool_str ?_)
  unfold nlt at h
  by_cases e1 : n.1 = m.1
  · rw [if_pos e1] at h
    rw [decide_eq_true e1]
    refine kat_yes (kat_cons (wpAny_eqBool_str ?_))
    by_cases e2 : n.2 = m.2
    · rw [if_pos e2] at h
      rw [decide_eq_true e2]
      exact kat_yes (kat_nil h)
    · rw [if_neg e2] at h
      rw [decide_eq_false e2]
      exact kat_no (kat_one _ _ (P.lt_str h))
  · rw [if_neg e1] at h
    rw [decide_eq_false e1]
    refine kat_no ?_
    exact strKind_oneLt prog w A _ s _ _ _ _ rfl rfl h

/-- a row: its first thing is a name, and rows of one name are alike -/
structure RowAt (h : Heap) (v : Value) (n : Nm) (rest : List Str) : Prop where
  row : ∃ a ka vs, v = .ref a ∧ IsTup h a (.ref ka :: vs).toArray ∧ NameAt h ka n ∧ StrsAre vs rest
theorem RowAt.keeps {h h' : Heap} {v : Value} {n : Nm} {rest : List Str} (x : RowAt h v n rest) (k : ∀ b o, h.get? b = some o → h'.get? b = some o) : RowAt h' v n rest :=
  let ⟨a, ka, vs, e, t, nm, st⟩ := x.row; ⟨a, ka, vs, e, t.keeps k, nm.keeps k, st⟩
theorem lex_same {fin : Bool} {bb : Bool} {Q : Bool → Shared → Prop} : ∀ {vs ws : List Value} {rest : List Str} {i : Nat}, StrsAre vs rest → StrsAre ws rest → Q fin s → KatLex prog w A bb fin Q (vs.zip ws) i s
  | _, _, _, _, .nil, _, h => kat_nil h
  | _, _, _, _, .cons x t r, .cons _ u r', h => kat_cons (wpAny_eqBool_str (by rw [decide_eq_true rfl]; exact kat_yes (lex_same r r' h)))
theorem ask_rows {Q : Bool → Shared → Prop} {v v' : Value} {r r' : List Str} (hu : A.units ≤ 9000) (hv : RowAt s.heap v n r) (hv' : RowAt s.heap v' m r') (hnm : n = m → r = r') (h : Q (nlt n m) s) : wpAny (model prog w) A (keyLt' (tuples' false) v v') Q E s := by
  obtain ⟨a, ka, vs, rfl, ⟨o1, ho1, hc1, k1, hd1⟩, n1, s1⟩ := hv.row
  obtain ⟨b, kb, ws, rfl, ⟨o2, ho2, hc2, k2, hd2⟩, n2, s2⟩ := hv'.row
  refine kat_lt ho1 hd1 ho2 hd2 ?_
  show KatLex prog w A false _ Q ((Value.ref ka, Value.ref kb) :: vs.zip ws) 0 s
  refine kat_cons (eqB_names hu n1 n2 ?_)
  by_cases e : n = m
  · have hr := hnm e
    subst e; subst hr
    rw [decide_eq_true rfl]
    rw [nlt_irr] at h
    refine kat_yes (lex_same s1 s2 ?_)
    have hl : vs.length = ws.length := by rw [s1.length, s2.length]
    have : decide ((Value.ref ka :: vs).toArray.size < (Value.ref kb :: ws).toArray.size) = false := by simp [hl]
    rw [this]; exact h
  · rw [decide_eq_false e]
    exact kat_no (kat_one _ _ (lt_names hu n1 n2 h))

theorem katTups_len {h : Heap} : ∀ {vs fs : List Value}, KatTups h vs fs → fs.length = vs.length
  | [], [], _ => rfl
  | [], _ :: _, t => t.elim
  | _ :: _, [], t => t.elim
  | v :: vs, f :: fs, t => by rw [List.length_cons, List.length_cons, katTups_len t.2]
/-- sorted(list) -/
theorem sortedK {h₀ : Heap} {L l : Addr} {m : Str → Option Value} {news : List (Addr × Obj)} {vs : List Value} {T : Value} {lt : Nat → Nat → Bool} {Q : Value → Shared → Prop} (F : Fr h₀ L s.heap m) (N : News h₀ L s.heap news) (hl : s.heap.IsList l vs.toArray) (h2 : 2 ≤ vs.length) (h64 : vs.length < 64)
    (ht : ∀ H, Kept h₀ news H → ∃ fs, KatTups H vs fs ∧ ∀ v ∈ fs, Looks (model prog w) H (typeOf v) T) (hT2 : (T == T) = true) (O : Ord vs.length lt)
    (ask : ∀ i j (C : Bool → Shared → Prop) (s' : Shared), i < vs.length → j < vs.length → Kept h₀ news s'.heap → C (lt i j) s' → wpAny (model prog w) A.in1.in1 (keyLt' (tuples' (T != Value.type "tuple")) (vs.getD i Value.none) (vs.getD j Value.none)) C (fun _ _ => False) s')
    (hQ : ∀ D c h' q, Good vs.length q → Up lt q vs.length → Fr h₀ L h' m → News h₀ L h' ((D, listOf (List.toArray (q.toList.map fun i => vs.getD i Value.none)) c) :: news) → (∀ p ∈ news, p.1 < D) → Q (.ref D) { s with heap := h' }) :
    wpAny (model prog w) A (call (.builtin "sorted") [.ref l]) Q E s := by
  refine kat_sorted F N hl h2 h64 fun D e1 h' F' N' hlt => ?_
  have hK : Kept h₀ news h' := ⟨F'.keep, fun p hp => (N' p (.tail _ hp)).1⟩
  obtain ⟨fs, htt, hT⟩ := ht h' hK
  have hfl : fs.length = vs.length := katTups_len htt
  refine kat_kind (s := { s with heap := h' }) htt (by omega) hT hT2 ?_
  obtain ⟨q, hq, hg, hu⟩ := sort_run O h2
  refine wp_run (n := vs.length) (lt := lt) (Inv := fun s' => s' = { s with heap := h' }) ?_ _ _ (rng_sort (by omega)) rfl ?_
  · rintro i j C s' hi hj rfl hC
    exact ask i j C _ hi hj hK (hC _ rfl)
  · rintro s' rfl
    rw [hq]
    refine KasFin.intro F' N' (UpdF.head fun p hp => Nat.ne_of_lt (hlt p hp)) fun h₂ c F₂ N₂ => ?_
    exact hQ D c h₂ q hg hu F₂ N₂ hlt

theorem sort_short {h₀ : Heap} {L a : Addr} {m : Str → Option Value} {news : List (Addr × Obj)} {vs : List Value} {n : Nat} {P : PySem.Fin → Shared → Prop} (F : Fr h₀ L s.heap m) (N : News h₀ L s.heap news) (ho : s.heap.get? a = some (seqObj "list" vs.toArray n)) (haL : a ≠ L) (ha0 : h₀.get? a = none) (hna : ∀ p ∈ news, p.1 ≠ a)
    (h2 : vs.length < 2) (h : ∀ c h', Fr h₀ L h' m → News h₀ L h' ((a, listOf vs.toArray c) :: news) → P (.done (.ret .none)) { s with heap := h' }) :
    wpAny (model prog w) A (Builtin.«list.sort» ⟨[.ref a], []⟩) P E s := by
  have ha : a < s.heap.objs.size := Heap.lt_size ho
  have s1 := Heap.SameBut.update s.heap a (Obj.mapSeq fun _ => (#[] : Array Value))
  obtain ⟨e1, ho1⟩ : ∃ e1, (s.heap.update a (Obj.mapSeq fun _ => (#[] : Array Value))).get? a = some (seqObj "list" #[] e1) := ⟨_, get?_update_seq ho fun _ => #[]⟩
  have F3 : Fr h₀ L (((s.heap.update a (Obj.mapSeq fun _ => (#[] : Array Value))).push (seqObj "tuple" vs.toArray 0)).push (seqObj "list" #[] 0)) m := ((kas_fr F s1 haL ha0).push _).push _
  have N2 : News h₀ L (((s.heap.update a (Obj.mapSeq fun _ => (#[] : Array Value))).push (seqObj "tuple" vs.toArray 0)).push (seqObj "list" #[] 0)) news :=
    (kas_news N s1 hna).grown fun b x e => Heap.get?_push_of_some _ (Heap.get?_push_of_some _ e)
  have ho3 : (((s.heap.update a (Obj.mapSeq fun _ => (#[] : Array Value))).push (seqObj "tuple" vs.toArray 0)).push (seqObj "list" #[] 0)).get? a = some (seqObj "list" #[] e1) := Heap.get?_push_of_some _ (Heap.get?_push_of_some _ ho1)
  rw [list_sort_plain]
  refine wpAny_bind (listItems_at ho rfl ?_)
  refine wpAny_bind (listUpdate_at ho rfl ?_ (by rw [List.size_toArray, sizeLine_eq]; omega) (Nat.zero_le _))
  refine wpAny_bind (seqEpoch_at ho1 rfl ?_)
  refine wpAny_bind (wpAny_newTuple ?_ (by show vs.length ≤ _; rw [sizeLine_eq]; omega))
  refine wpAny_bind (wpAny_newList ?_ (Nat.zero_le _))
  refine wpAny_holding ?_
  show wpAny (model prog w) A _ P E { s with heap := ((s.heap.update a (Obj.mapSeq fun _ => (#[] : Array Value))).push (seqObj "tuple" vs.toArray 0)).push (seqObj "list" #[] 0) }
  dsimp only
  have hn2 : vs.toArray.size < 2 := by rw [List.size_toArray]; omega
  rw [if_pos hn2, if_pos hn2]
  refine wpAny_bind (wpAny_pure ?_)
  refine wpAny_bind ?_
  rw [StateT.run_pure]
  refine wpAny_pure ?_
  dsimp only
  have hout : (arrOf (SortSt.mk' general' (vs.toArray.zip vs.toArray) #[] 7 none)).map (·.2) = vs.toArray := by
    show (vs.toArray.zip vs.toArray).map (·.2) = _
    apply Array.toList_inj.mp
    simp
    exact List.map_snd_zip (Nat.le_refl _)
  rw [hout]
  have s2 := Heap.SameBut.update (((s.heap.update a (Obj.mapSeq fun _ => (#[] : Array Value))).push (seqObj "tuple" vs.toArray 0)).push (seqObj "list" #[] 0)) a (Obj.mapSeq fun _ => vs.toArray)
  obtain ⟨c2, hc2⟩ : ∃ c2, ((((s.heap.update a (Obj.mapSeq fun _ => (#[] : Array Value))).push (seqObj "tuple" vs.toArray 0)).push (seqObj "list" #[] 0)).update a (Obj.mapSeq fun _ => vs.toArray)).get? a = some (seqObj "list" vs.toArray c2) := ⟨_, get?_update_seq ho3 fun _ => vs.toArray⟩
  refine wpAny_bind (seqEpoch_at ho3 rfl ?_)
  refine wpAny_bind (listUpdate_at ho3 rfl ?_ (Nat.zero_le _) (by rw [List.size_toArray, sizeLine_eq]; omega))
  simp only [bne_self_eq_false, Bool.false_eq_true, if_false]
  refine wpAny_pure ?_
  refine h c2 _ (kas_fr F3 s2 haL ha0) fun p hp => ?_
  rcases List.mem_cons.mp hp with rfl | hp
  · exact ⟨hc2, haL, ha0⟩
  · exact ⟨(s2.2 _ (hna p hp)).trans (N2 p hp).1, (N2 p hp).2⟩

theorem sortedS {h₀ : Heap} {L l : Addr} {m : Str → Option Value} {news : List (Addr × Obj)} {vs : List Value} {Q : Value → Shared → Prop} (F : Fr h₀ L s.heap m) (N : News h₀ L s.heap news) (hl : s.heap.IsList l vs.toArray) (h2 : vs.length < 2)
    (h : ∀ D c h', Fr h₀ L h' m → News h₀ L h' ((D, listOf vs.toArray c) :: news) → (∀ p ∈ news, p.1 < D) → Q (.ref D) { s with heap := h' }) :
    wpAny (model prog w) A (call (.builtin "sorted") [.ref l]) Q E s := by
  refine Calls.call_function_entry kind_sorted plain_sorted entry_sorted (args_sorted1 _) ?_
  unfold Builtin.«sorted»
  refine wpAny_bind (m := checkCount "sorted" 1 1 _) (wpAny_pure ?_)
  refine wpAny_bind (collect_list hl ?_ (by rw [sizeLine_eq]; omega))
  refine wpAny_bind (wpAny_newList ?_ (by rw [sizeLine_eq]; omega))
  have hsz : ((s.heap.push (seqObj "list" #[] 0)).update s.heap.objs.size (Obj.mapSeq (· ++ vs.toArray))).objs.size = s.heap.objs.size + 1 := by
    rw [Heap.size_update, size_push']
  have hoL : (((s.heap.push (seqObj "list" #[] 0)).update s.heap.objs.size (Obj.mapSeq (· ++ vs.toArray))).push (seqObj "list" vs.toArray 0)).get? (s.heap.objs.size + 1) = some (seqObj "list" vs.toArray 0) := by
    rw [← hsz]; exact Heap.get?_push_size _ rfl
  have keep : ∀ b o, s.heap.get? b = some o → (((s.heap.push (seqObj "list" #[] 0)).update s.heap.objs.size (Obj.mapSeq (· ++ vs.toArray))).push (seqObj "list" vs.toArray 0)).get? b = some o := fun b o q => by
    have hlt : b < s.heap.objs.size := Heap.lt_size q
    rw [Heap.get?_push_ne _ _ _ (by rw [hsz]; exact Nat.ne_of_lt (Nat.lt_succ_of_lt hlt)), Heap.get?_update_ne _ _ _ _ (Nat.ne_of_lt hlt), Heap.get?_push_ne _ _ _ (Nat.ne_of_lt hlt)]
    exact q
  have hL : L < s.heap.objs.size := F.ns.lt
  show wpAny _ _ _ _ _ { s with heap := ((s.heap.push (seqObj "list" #[] 0)).update s.heap.objs.size (Obj.mapSeq (· ++ vs.toArray))).push (seqObj "list" vs.toArray 0) }
  rw [hsz]
  refine wpAny_bind (wpAny_holding (wpAny_call_entry slot_list_sort ⟨_, hoL, rfl⟩ entry_list_sort ?body (args_list_sort _)))
  case body =>
    refine sort_short (s := { s with heap := ((s.heap.push (seqObj "list" #[] 0)).update s.heap.objs.size (Obj.mapSeq (· ++ vs.toArray))).push (seqObj "list" vs.toArray 0) })
      (F.kept keep) (N.grown keep) hoL (Nat.ne_of_gt (Nat.lt_succ_of_lt hL)) (Heap.get?_none_of_le (Nat.le_trans F.above (Nat.le_succ_of_le (Nat.le_of_lt hL))))
      (fun p hp => Nat.ne_of_lt (Nat.lt_succ_of_lt (Heap.lt_size (N p hp).1))) h2 fun c h' F' N' => ?_
    exact ⟨_, rfl, wpAny_pure ⟨_, rfl, h _ c h' F' N' fun q hq => Nat.lt_succ_of_lt (Heap.lt_size (N q hq).1)⟩⟩
end
end At
end
section
open PySem PySem.W PySem.Calls PyProof.Rows Builtin Builtin.Str
set_option Elab.async false
set_option maxRecDepth 100000
set_option linter.unusedVariables false
namespace At
theorem good_perm {α : Type} {n : Nat} {q : Array Nat} (g : Good n q) (l : List α) (hl : l.length = n) (d : α) : (q.toList.map fun i => l.getD i d).Perm l := by
  have h1 : (q.toList.map fun i => l.getD i d).Perm ((List.range n).map fun i => l.getD i d) := (Array.perm_iff_toList_perm.mp g).map _
  have h2 : ((List.range n).map fun i => l.getD i d) = l := by
    apply List.ext_getElem
    · simp [hl]
    · intro i h1 h2
      simp [h2]
  rw [h2] at h1
  exact h1
theorem up_pairwise {n : Nat} {q : Array Nat} {lt : Nat → Nat → Bool} (g : Good n q) (u : Up lt q n) : q.toList.Pairwise fun i j => lt i j = true := by
  rw [List.pairwise_iff_getElem]
  intro i j hi hj hij
  have hs := g.size
  rw [Array.length_toList] at hi hj
  have := u i j hij (by omega)
  simpa [Array.getD, hi, hj] using this
theorem getD_lt {α : Type} {l : List α} {i : Nat} (h : i < l.length) (d : α) : l.getD i d = l[i] := by simp [List.getD_eq_getElem?_getD, h]
theorem katTups_of {H : Heap} {P : Value → Prop} : ∀ (vs : List Value), (∀ (i : Nat) v, vs[i]? = some v → ∃ a o its n f, v = .ref a ∧ H.get? a = some o ∧ o.cls = .type "tuple" ∧ o.data = .seq its n ∧ its[0]? = some f ∧ P f) → ∃ fs, KatTups H vs fs ∧ ∀ f ∈ fs, P f
  | [], _ => ⟨[], trivial, fun _ h => nomatch h⟩
  | v :: vs, h => by
    obtain ⟨a, o, its, n, f, rfl, ho, hc, hd, hf, hp⟩ := h 0 v rfl
    obtain ⟨fs, t, hfs⟩ := katTups_of vs fun i v hv => h (i + 1) v hv
    refine ⟨f :: fs, .cons ho hc hd hf t, fun g hg => ?_⟩
    rcases List.mem_cons.mp hg with rfl | hg
    · exact hp
    · exact hfs g hg
section
variable {prog : Program} {w : World} {A : Around} {E : Value → Shared → Prop} {s : Shared} {h₀ : Heap} {L l : Addr} {m : Str → Option Value} {news : List (Addr × Obj)} {vs : List Value} {α : Type} {nm : α → Nm} {xs : List α} {Q : Value → Shared → Prop}
theorem names_ord (hlen : vs.length = xs.length) (nd : (xs.map nm).Nodup) : Ord vs.length fun i j => nlt ((xs.map nm).getD i (Str.empty, Str.empty)) ((xs.map nm).getD j (Str.empty, Str.empty)) := by
  refine ⟨fun i _ => nlt_irr _, fun i j hi hj hij => ?_, fun i j k _ _ _ h1 h2 => nlt_trans h1 h2⟩
  refine nlt_tri fun e => hij ?_
  have hi' : i < (xs.map nm).length := by simpa [hlen] using hi
  have hj' : j < (xs.map nm).length := by simpa [hlen] using hj
  rw [getD_lt hi', getD_lt hj'] at e
  have pw := List.pairwise_iff_getElem.mp nd
  rcases Nat.lt_trichotomy i j with h | h | h
  · exact absurd e (pw i j hi' hj' h)
  · exact h
  · exact absurd e.symm (pw j i hj' hi' h)
theorem zip_out {q : Array Nat} (hlen : vs.length = xs.length) (nd : (xs.map nm).Nodup) (g : Good vs.length q) (u : Up (fun i j => nlt ((xs.map nm).getD i (Str.empty, Str.empty)) ((xs.map nm).getD j (Str.empty, Str.empty))) q vs.length) (h2 : 0 < vs.length) :
    ∃ zs : List (Value × α), zs.Perm (vs.zip xs) ∧ (zs.map (·.2)).Pairwise (fun a b => nlt (nm a) (nm b) = true) ∧ (q.toList.map fun i => vs.getD i Value.none) = zs.map (·.1) := by
  have hz : (vs.zip xs).length = vs.length := by simp [hlen]
  have h0 : 0 < xs.length := by omega
  have d : α := xs[0]
  refine ⟨q.toList.map fun i => (vs.zip xs).getD i (Value.none, d), good_perm g _ hz _, ?_, ?_⟩
  · rw [List.map_map, List.pairwise_map]
    refine List.Pairwise.imp_of_mem (fun {i j} hi hj h => ?_) (up_pairwise g u)
    have hb : ∀ i ∈ q.toList, i < vs.length := fun i hi => by
      have := (Array.perm_iff_toList_perm.mp g).mem_iff.mp hi
      simpa using this
    have hi' := hb i hi
    have hj' := hb j hj
    have e : ∀ i, i < vs.length → ((vs.zip xs).getD i (Value.none, d)).2 = xs.getD i d ∧ (xs.map nm).getD i (Str.empty, Str.empty) = nm (xs.getD i d) := fun i hi => by
      have hx : i < xs.length := by omega
      have hzi : i < (vs.zip xs).length := by omega
      constructor
      · rw [getD_lt hzi, getD_lt hx]; simp
      · rw [getD_lt (by simpa using hx), getD_lt hx]; simp
    show nlt (nm ((vs.zip xs).getD i (Value.none, d)).2) (nm ((vs.zip xs).getD j (Value.none, d)).2) = true
    rw [(e i hi').1, (e j hj').1, ← (e i hi').2, ← (e j hj').2]
    exact h
  · rw [List.map_map]
    refine List.map_congr_left fun i hi => ?_
    have hi' : i < vs.length := by
      have := (Array.perm_iff_toList_perm.mp g).mem_iff.mp hi
      simpa using this
    have hx : i < xs.length := by omega
    have hzi : i < (vs.zip xs).length := by omega
    show _ = ((vs.zip xs).getD i (Value.none, d)).1
    rw [getD_lt hzi, getD_lt hi']; simp

theorem zip_short (hlen : vs.length = xs.length) (h2 : vs.length < 2) : ((vs.zip xs).map (·.2)).Pairwise (fun a b => nlt (nm a) (nm b) = true) ∧ vs = (vs.zip xs).map (·.1) := by
  have e1 : (vs.zip xs).map (·.2) = xs := List.map_snd_zip (by omega)
  have e2 : (vs.zip xs).map (·.1) = vs := List.map_fst_zip (by omega)
  refine ⟨?_, e2.symm⟩
  rw [e1]
  match xs, hlen with
  | [], _ => exact .nil
  | [a], _ => exact List.pairwise_singleton _ _
  | _ :: _ :: _, h => simp at h; omega

theorem sorted_names (F : Fr h₀ L s.heap m) (N : News h₀ L s.heap news) (hu : A.units ≤ 8000) (hl : s.heap.IsList l vs.toArray) (hlen : vs.length = xs.length) (nd : (xs.map nm).Nodup) (h64 : vs.length < 64)
    (hv : ∀ H, Kept h₀ news H → ∀ (i : Nat) v x, vs[i]? = some v → xs[i]? = some x → ∃ a, v = .ref a ∧ NameAt H a (nm x))
    (hQ : ∀ D c h' (zs : List (Value × α)), zs.Perm (vs.zip xs) → (zs.map (·.2)).Pairwise (fun a b => nlt (nm a) (nm b) = true) → Fr h₀ L h' m → News h₀ L h' ((D, listOf (List.toArray (zs.map (·.1))) c) :: news) → (∀ p ∈ news, p.1 < D) → Q (.ref D) { s with heap := h' }) :
    wpAny (model prog w) A (call (.builtin "sorted") [.ref l]) Q E s := by
  by_cases h2 : vs.length < 2
  · refine sortedS F N hl h2 fun D c h' F' N' hlt => ?_
    obtain ⟨a, b⟩ := zip_short (nm := nm) hlen h2
    refine hQ D c h' (vs.zip xs) (List.Perm.refl _) a F' ?_ hlt
    rw [← b]; exact N'
  · have get : ∀ H, Kept h₀ news H → ∀ i, i < vs.length → ∃ a, vs.getD i Value.none = .ref a ∧ NameAt H a ((xs.map nm).getD i (Str.empty, Str.empty)) := fun H hK i hi => by
      have hx : i < xs.length := by omega
      obtain ⟨a, e, ha⟩ := hv H hK i vs[i] xs[i] (List.getElem?_eq_getElem hi) (List.getElem?_eq_getElem hx)
      refine ⟨a, by simp [List.getD_eq_getElem?_getD, hi, e], ?_⟩
      simpa [List.getD_eq_getElem?_getD, hx] using ha
    refine sortedK (T := .type "str") F N hl (by omega) h64 (fun H hK => katTups_of vs fun i v hi => ?_) (by decide) (names_ord hlen nd) (fun i j C s' hi hj hK hC => ?_) fun D c h' q g u F' N' hlt => ?_
    · have hx : i < xs.length := by have := (List.getElem?_eq_some_iff.mp hi).1; omega
      obtain ⟨a, e, u1, u2, o, ho, hc, k, hd⟩ := hv H hK i v xs[i] hi (List.getElem?_eq_getElem hx)
      exact ⟨a, o, _, k, _, e, ho, hc, hd, rfl, Looks.of_pure rfl⟩
    · obtain ⟨a, ea, ha⟩ := get _ hK i hi
      obtain ⟨b, eb, hb⟩ := get _ hK j hj
      rw [ea, eb]
      exact ask_names (by show A.units + 1 + 1 ≤ 9000; omega) ha hb hC
    · obtain ⟨zs, z1, z2, z3⟩ := zip_out hlen nd g u (by omega)
      rw [z3] at N'
      exact hQ D c h' zs z1 z2 F' N' hlt

theorem sorted_rows {rest : α → List Str} (F : Fr h₀ L s.heap m) (N : News h₀ L s.heap news) (hu : A.units ≤ 8000) (hl : s.heap.IsList l vs.toArray) (hlen : vs.length = xs.length) (nd : (xs.map nm).Nodup) (h64 : vs.length < 64)
    (hv : ∀ H, Kept h₀ news H → ∀ (i : Nat) v x, vs[i]? = some v → xs[i]? = some x → RowAt H v (nm x) (rest x))
    (hQ : ∀ D c h' (zs : List (Value × α)), zs.Perm (vs.zip xs) → (zs.map (·.2)).Pairwise (fun a b => nlt (nm a) (nm b) = true) → Fr h₀ L h' m → News h₀ L h' ((D, listOf (List.toArray (zs.map (·.1))) c) :: news) → (∀ p ∈ news, p.1 < D) → Q (.ref D) { s with heap := h' }) :
    wpAny (model prog w) A (call (.builtin "sorted") [.ref l]) Q E s := by
  by_cases h2 : vs.length < 2
  · refine sortedS F N hl h2 fun D c h' F' N' hlt => ?_
    obtain ⟨a, b⟩ := zip_short (nm := nm) hlen h2
    refine hQ D c h' (vs.zip xs) (List.Perm.refl _) a F' ?_ hlt
    rw [← b]; exact N'
  · have inj : ∀ i j (hi : i < xs.length) (hj : j < xs.length), nm xs[i] = nm xs[j] → xs[i] = xs[j] := fun i j hi hj e => by
      have pw := List.pairwise_iff_getElem.mp nd
      have hi' : i < (xs.map nm).length := by simpa using hi
      have hj' : j < (xs.map nm).length := by simpa using hj
      have e' : (xs.map nm)[i] = (xs.map nm)[j] := by rw [List.getElem_map, List.getElem_map]; exact e
      rcases Nat.lt_trichotomy i j with h | h | h
      · exact absurd e' (pw i j hi' hj' h)
      · subst h; rfl
      · exact absurd e'.symm (pw j i hj' hi' h)
    refine sortedK (T := .type "tuple") F N hl (by omega) h64 (fun H hK => katTups_of vs fun i v hi => ?_) (by decide) (names_ord hlen nd) (fun i j C s' hi hj hK hC => ?_) fun D c h' q g u F' N' hlt => ?_
    · have hx : i < xs.length := by have := (List.getElem?_eq_some_iff.mp hi).1; omega
      obtain ⟨a, ka, ws, e, ⟨o, ho, hc, k, hd⟩, ⟨u1, u2, ok, hok, hck, _⟩, _⟩ := (hv H hK i v xs[i] hi (List.getElem?_eq_getElem hx)).row
      refine ⟨a, o, _, k, _, e, ho, hc, hd, rfl, ?_⟩
      have := Looks.ld (M := model prog w) (part := none) hok
      show Looks (model prog w) H (typeOf (.ref ka)) (.type "tuple")
      rw [← hck]
      exact (Looks.ld hok).andThen .now
    · have hx : i < xs.length := by omega
      have hy : j < xs.length := by omega
      have r1 := hv _ hK i vs[i] xs[i] (List.getElem?_eq_getElem hi) (List.getElem?_eq_getElem hx)
      have r2 := hv _ hK j vs[j] xs[j] (List.getElem?_eq_getElem hj) (List.getElem?_eq_getElem hy)
      rw [getD_lt hi, getD_lt hj]
      refine ask_rows (by show A.units + 1 + 1 ≤ 9000; omega) r1 r2 (fun e => by rw [inj i j hx hy e]) ?_
      have e1 : (xs.map nm).getD i (Str.empty, Str.empty) = nm xs[i] := by rw [getD_lt (by simpa using hx)]; simp
      have e2 : (xs.map nm).getD j (Str.empty, Str.empty) = nm xs[j] := by rw [getD_lt (by simpa using hy)]; simp
      rw [e1, e2] at hC
      exact hC
    · obtain ⟨zs, z1, z2, z3⟩ := zip_out hlen nd g u (by omega)
      rw [z3] at N'
      exact hQ D c h' zs z1 z2 F' N' hlt
end
end At
end
section
open PySem PySem.W PySem.Calls PyProof.Rows Builtin Builtin.Str
set_option Elab.async false
set_option maxRecDepth 100000
set_option linter.unusedVariables false
namespace At
def tagStep (t : Str) (p : Nm × Str) : Str := t ++ Str.ofString " " ++ qn p.1.1 p.1.2 ++ Str.ofString "=" ++ qa p.2
def tagText (l : List (Nm × Str)) : Str := l.foldl tagStep (Str.ofString "<t") ++ Str.ofString ">"
theorem tagStep_len {t : Str} {p : Nm × Str} (hq : (qn p.1.1 p.1.2).length ≤ 3) (hv : p.2.length ≤ 19) : (tagStep t p).length ≤ t.length + 121 := by
  have := qa_len p.2
  have e1 : (Str.ofString " ").length = 1 := by decide +kernel
  have e2 : (Str.ofString "=").length = 1 := by decide +kernel
  unfold tagStep
  simp only [Str.length_append]
  omega
set_option maxHeartbeats 2000000 in
theorem law_tag {prog : Program} {w : World} {s : Shared} {r dv dq : Addr} {xs ys : List Ent} (B : Base w s.heap) (R : NSRd prog w s.heap r dv dq xs ys)
    (hy : ∀ x ∈ xs, ∃ y, look ys x.nm = some y ∧ y.val = qn x.nm.1 x.nm.2) (hq : ∀ x ∈ xs, (qn x.nm.1 x.nm.2).length ≤ 3) (hv : ∀ x ∈ xs, x.val.length ≤ 19) :
    Does (model prog w) (Lv 12) (call (.ref 271) [.ref r]) s (fun v h' => ∃ (zs : List Ent) (u : Nat), zs.Perm xs ∧ zs.Pairwise (fun a b => nlt a.nm b.nm = true) ∧ v = .str (tagText (zs.map fun x => (x.nm, x.val))) u) := by
  refine does_intro fun Q hret => ?_
  obtain ⟨X, p, loose, mean, mg, mb, T⟩ := id B
  obtain ⟨dx, t, u, hr, hdx⟩ := R.inst
  have I := inst_of hr hdx
  obtain ⟨ep, V⟩ := R.vals
  have hvl := R.vl
  refine' call_fn2 [(Str.ofString "reader", .ref r)] ?kX ?kT ?ko ?kc ?kr ?kb ?kl ?k0 ?c1 ?c2 ?c3 ?c4 ?_
  walk_at "zz enter"
  walk_at "zz go"
  refine' use_fr (A₁ := Lv 16) (ns_getNames ?ub ?ur) ?u1 ?u2 ?u3 ?u4 ?u5 ?u6 ?u7 ?_
  (case ur => exact R.keeps (Fr.keep (by assumption)))
  walk_at "zz use"
  intro v h' tk' htk' k F' N' hv1
  obtain ⟨l, rfl, hl⟩ := hv1
  dsimp only at htk'
  have h0 : 0 < tk' := by omega
  walk_at "zz go"
  refine sorted_names (xs := xs) (nm := Ent.nm) F' N' (Nat.le_of_ble_eq_true rfl) hl (by simp) V.nd (by simp; omega) (fun H hK i v x hi hx => ?_) fun D c h₂ zs hz1 hz2 F₂ N₂ hlt => ?_
  · rw [List.getElem?_map, hx] at hi
    exact ⟨x.ka, (Option.some.inj hi).symm, (V.nms x (List.mem_of_getElem? hx)).keeps hK.1⟩
  have hzv : ∀ z ∈ zs, z.1 = .ref z.2.ka ∧ z.2 ∈ xs := fun z hz => by
    have hm := hz1.mem_iff.mp hz
    obtain ⟨i, hi⟩ := List.mem_iff_getElem?.mp hm
    rw [List.getElem?_zip_eq_some] at hi
    obtain ⟨h1, h2⟩ := hi
    rw [List.getElem?_map, h2] at h1
    exact ⟨(Option.some.inj h1).symm, List.mem_of_getElem? h2⟩
  have hlen : zs.length ≤ 8 := by rw [hz1.length_eq]; simp; omega
  have hperm : (zs.map (·.2)).Perm xs := by
    have := hz1.map (·.2)
    rw [List.map_snd_zip (by simp)] at this
    exact this
  refine iter_list1 (x := Str.ofString "name") rfl rfl rfl (listK_news (.head _) rfl) F₂ N₂ (fun i m => m "reader" = some (.ref r) ∧ ∃ tx u, m "text" = some (.str tx u) ∧ tx.length ≤ 2 + 121 * i ∧ tx = ((zs.take i).map fun z => (z.2.nm, z.2.val)).foldl tagStep (Str.ofString "<t")) ⟨rfl, _, _, rfl, by decide +kernel, rfl⟩ ?_ ?_
  · intro i v m₁ h tk o hi hJ F₁ N₁
    obtain ⟨hrd, tx, u, htx, htl, hte⟩ := hJ
    rw [List.getElem?_map] at hi
    have hil : i < zs.length := by
      cases hzi : zs[i]? with
      | none => rw [hzi] at hi; cases hi
      | some z => exact (List.getElem?_eq_some_iff.mp hzi).1
    rw [List.getElem?_eq_getElem hil] at hi
    obtain ⟨e1, hmem⟩ := hzv zs[i] (List.getElem_mem hil)
    obtain rfl : v = .ref zs[i].2.ka := by rw [← e1]; exact (Option.some.inj hi).symm
    generalize hx : zs[i].2 = x at F₁ hmem
    obtain ⟨y, hly, hyv⟩ := hy x hmem
    have hq3 := hq x hmem
    have hv19 := hv x hmem
    have hlx := look_of_mem V.nd hmem
    have hnx := V.nms x hmem
    have hql := qa_len x.val
    walk_at "zz go"
    refine' use_fr (A₁ := Lv 16) (ns_getQNameByName ?ub ?ur ?un hly) ?u1 ?u2 ?u3 ?u4 ?u5 ?u6 ?u7 ?_
    (case ur => exact R.keeps (Fr.keep (by assumption)))
    (case un => exact hnx.keeps (Fr.keep (by assumption)))
    walk_at "zz use"
    rintro _ h2 tk2 htk2 _ F2 N2 rfl
    rw [hyv]
    walk_at "zz go"
    refine' use_fr (A₁ := Lv 16) (ns_getValue ?ub ?ur ?un hlx) ?u1 ?u2 ?u3 ?u4 ?u5 ?u6 ?u7 ?_
    (case ur => exact R.keeps (Fr.keep (by assumption)))
    (case un => exact hnx.keeps (Fr.keep (by assumption)))
    walk_at "zz use"
    rintro _ h3 tk3 htk3 _ F3 N3 rfl
    walk_at "zz go"
    refine' use_fr (A₁ := Lv 16) (quoteattr_c ?ub hv19) ?u1 ?u2 ?u3 ?u4 ?u5 ?u6 ?u7 ?_
    walk_at "zz use"
    rintro _ h4 tk4 htk4 _ F4 N4 ⟨u4, rfl⟩
    walk_at "zz go"
    have F9 := (by assumption : Fr s.heap _ _ _)
    have N9 := (by assumption : News s.heap _ _ _)
    refine PurePost.next F9 N9 (fun _ hp => hp) ⟨hrd, _, _, rfl, ?_, ?_⟩
    · have := tagStep_len (t := tx) (p := (x.nm, x.val)) hq3 hv19
      have e : tx ++ Str.ofString " " ++ qn x.nm.1 x.nm.2 ++ Str.ofString "=" ++ qa x.val = tagStep tx (x.nm, x.val) := rfl
      rw [e]; omega
    · rw [List.take_add_one, List.getElem?_eq_getElem hil, List.map_append, List.foldl_append, ← hte]
      show _ = tagStep tx (zs[i].2.nm, zs[i].2.val)
      rw [hx]; rfl
  · intro h' tk' m' F' N' hJ
    obtain ⟨hrd, tx, u, htx, htl, hte⟩ := hJ
    rw [List.length_map] at htl hte
    walk_at "zz go"
    refine hret _ _ _ (Fr.keep (by assumption)) ⟨zs.map (·.2), _, hperm, by rw [List.pairwise_map] at hz2; rw [List.pairwise_map]; exact hz2, congrArg (Value.str · _) ?_⟩
    rw [hte, List.take_of_length_le (Nat.le_refl _)]
    unfold tagText
    rw [List.map_map]
    rfl
end At
end
section
open PySem PySem.W PySem.Calls PyProof.Rows Builtin Builtin.Str
set_option Elab.async false
set_option maxRecDepth 100000
set_option linter.unusedVariables false
namespace At
/-- rows of a list of pairs: the pair's tuple, its name's tuple, and what they hold -/
structure PRow where
  a : Addr
  ka : Addr
  nm : Nm
  val : Str
  tok : Nat
abbrev PRow.ent (x : PRow) : Ent := ⟨x.nm, x.ka, x.val, x.tok⟩
def RowsIn (h : Heap) (rs : List PRow) : Prop := ∀ x ∈ rs, IsTup h x.a #[.ref x.ka, .str x.val x.tok] ∧ NameAt h x.ka x.nm
theorem RowsIn.keeps {h h' : Heap} {rs : List PRow} (x : RowsIn h rs) (k : ∀ b o, h.get? b = some o → h'.get? b = some o) : RowsIn h' rs := fun r hr => ⟨(x r hr).1.keeps k, (x r hr).2.keeps k⟩
/-- new things: they stand in h', and nothing stood there in h -/
def Fresh (h h' : Heap) (objs : List (Addr × Obj)) : Prop := ∀ p ∈ objs, h'.get? p.1 = some p.2 ∧ h.get? p.1 = none
def Has (objs : List (Addr × Obj)) (H : Heap) : Prop := ∀ p ∈ objs, H.get? p.1 = some p.2
section
variable {prog : Program} {w : World} {A : Around} {E : Value → Shared → Prop} {s : Shared} {env : Env} {h₀ : Heap} {L d a : Addr} {m : Str → Option Value} {news : List (Addr × Obj)}
theorem dict_empty {pos : Pos} {Q : Value → Shared → Prop} (F : Fr h₀ L s.heap m) (N : News h₀ L s.heap news) (hbig : h₀.NoLimit)
    (h : ∀ d h', Fr h₀ L h' m → News h₀ L h' ((d, dObj #[] 0) :: news) → (∀ p ∈ news, p.1 ≠ d) → (d == sysModules) = false → Q (.ref d) { s with heap := h' }) : wpAny (model prog w) A (eval (.Dict [] [] pos) env) Q E s :=
  wpAny_Dict_empty (h _ _ (F.push _) (News.push F N _) N.apart (F.notModules (modules_low hbig)))
abbrev tdObj (prog : Program) (w : World) (xs : List Ent) (ep : Nat) : Obj := dObj (xs.map (entOf prog w)).toArray ep
theorem tuple_stays {h h' : Heap} {a : Addr} {its : Array Value} (t : h.IsTuple a its) (k : h.StaysIn h') : h'.IsTuple a its := let ⟨o, ho, r⟩ := t; ⟨o, k _ _ ho, r⟩
theorem tup_tuple {h : Heap} {a : Addr} {its : Array Value} (t : IsTup h a its) : h.IsTuple a its := t
/-- a new name in a dict of the ledger -/
theorem tdsetK {n : Nm} {v : Str} {t : Nat} {xs : List Ent} {ep : Nat} {Q : Unit → Shared → Prop} (hu : A.units ≤ 9000) (F : Fr h₀ L s.heap m) (N : News h₀ L s.heap ((d, tdObj prog w xs ep) :: news)) (hnd : ∀ p ∈ news, p.1 ≠ d)
    (hx : ∀ x ∈ xs, NameAt s.heap x.ka x.nm) (nd : (xs.map (·.nm)).Nodup) (hn : NameAt s.heap a n) (hl : look xs n = none) (hz : xs.length ≤ 1000)
    (h : ∀ h' ep', Fr h₀ L h' m → News h₀ L h' ((d, tdObj prog w (xs ++ [⟨n, a, v, t⟩]) ep') :: news) → Heap.SameBut d s.heap h' → Q () { s with heap := h', toks := s.toks + 3 }) :
    wpAny (model prog w) A (setItem (.ref d) (.ref a) (.str v t)) Q E s := by
  have hd := N _ (.head _)
  refine td_set hu hn (⟨hd.1, hx, nd⟩ : TD prog w s.heap d xs ep) hl hz fun h' ep' T hs => h h' ep' (F.change hs hd.2.1 hd.2.2) (fun p hp => ?_) hs
  rcases List.mem_cons.mp hp with rfl | hp
  · exact ⟨T.raw, hd.2⟩
  · exact News.same (news_sub N fun p hp => .tail _ hp) hs hnd p hp
variable {l : Addr} {vs : List Value} {body : List Stmt} {Q : Flow → Shared → Prop}
theorem TurnPost.next {h₀ : Heap} {L I : Addr} {o : Obj} {J : Nat → (Str → Option Value) → List (Addr × Obj) → Prop} {i : Nat} {s : Shared} {Q : Flow → Shared → Prop} {h' : Heap} {tk : Nat} {m₂ : Str → Option Value} {news₂ : List (Addr × Obj)}
    (F : Fr h₀ L h' m₂) (N : News h₀ L h' ((I, o) :: news₂)) (hn : ∀ p ∈ news₂, p.1 ≠ I) (hJ : J (i + 1) m₂ news₂) : TurnPost h₀ L I o J i s Q .next { s with heap := h', toks := tk } := ⟨h', tk, m₂, news₂, rfl, F, N, hn, hJ⟩
theorem iter_list1J {x : Str} {px : Pos} (hh : A.handled = none) (hk : env.scope.kind = .function) (hx : env.kindOf x = some .local) (hl : h₀.IsList l vs.toArray)
    (F : Fr h₀ env.locals s.heap m) (N : News h₀ env.locals s.heap news) (J : Nat → (Str → Option Value) → List (Addr × Obj) → Prop) (h0 : J 0 m news)
    (step : ∀ (I : Addr) (i : Nat) v m₁ news₁ h tk o, vs[i]? = some v → J i m₁ news₁ → (∀ p ∈ news₁, p.1 ≠ I) → Fr h₀ env.locals h (fun y => if y = x then some v else m₁ y) → News h₀ env.locals h ((I, o) :: news₁) →
      wpAny (model prog w) A (execs body env) (TurnPost h₀ env.locals I o J i s Q) noE { s with heap := h, toks := tk })
    (hR : ∀ h' tk m' news', Fr h₀ env.locals h' m' → News h₀ env.locals h' news' → J vs.length m' news' → Q .next { s with heap := h', toks := tk }) :
    wpAny (model prog w) A (pyIter (.ref l)) (fun it s₂ => codeAny (model prog w) A (.forLoop (.Name x px) it body [] env) (ForEnd prog w A env E Q) s₂) E s := by
  have hls : s.heap.IsList l vs.toArray := F.lst hl
  refine wpAny_pyIter_list hls ?_
  have hne : s.heap.objs.size ≠ l := let ⟨_, ho, _⟩ := hls; Nat.ne_of_gt (Heap.lt_size ho)
  have hnI : ∀ p ∈ news, p.1 ≠ s.heap.objs.size := fun p hp => Nat.ne_of_lt (Heap.lt_size (N p hp).1)
  refine for_loop (s := { s with heap := s.heap.push _ }) (draws_list1 (vs := vs) (Sx := fun h => h₀.StaysIn h) hh hne (fun h k => let ⟨o, ho, r⟩ := hl; ⟨o, k _ _ ho, r⟩) (fun h h' k hk => fun b o e => hk b o (fun q => by rw [q, next_is_new F] at e; cases e) (k b o e)) (next_is_new F) hk hx) J (Heap.get?_push_size _ rfl) ⟨rfl, rfl⟩ (Nat.ne_of_gt F.ns.lt) (next_is_new F) (F.push _)
    (fun p hp => ⟨Heap.get?_push_of_some _ (N p hp).1, (N p hp).2⟩) hnI (fun i m' news' h' _ F' _ => F'.keep) h0 ?_ hR
  rintro i u m₁ news₁ h tk o hi ⟨v, hv, rfl⟩ hJ hn F₁ N₁
  exact step _ i v m₁ news₁ h tk o hv hJ hn F₁ N₁
theorem iter_list2J {ps : List (Value × Value)} {x y : Str} {px py pt : Pos} {x1 : Nat} (hh : A.handled = none) (hk : env.scope.kind = .function) (hx : env.kindOf x = some .local) (hy : env.kindOf y = some .local) (hl : h₀.IsList l vs.toArray)
    (hps : ∀ (i : Nat) v, vs[i]? = some v → ∃ a p, v = .ref a ∧ ps[i]? = some p ∧ h₀.IsTuple a #[p.1, p.2])
    (F : Fr h₀ env.locals s.heap m) (N : News h₀ env.locals s.heap news) (J : Nat → (Str → Option Value) → List (Addr × Obj) → Prop) (h0 : J 0 m news)
    (step : ∀ (I : Addr) (i : Nat) p m₁ news₁ h tk o, ps[i]? = some p → J i m₁ news₁ → (∀ p ∈ news₁, p.1 ≠ I) → Fr h₀ env.locals h (fun z => if z = y then some p.2 else if z = x then some p.1 else m₁ z) → News h₀ env.locals h ((I, o) :: news₁) →
      wpAny (model prog w) A (execs body env) (TurnPost h₀ env.locals I o J i s Q) noE { s with heap := h, toks := tk })
    (hR : ∀ h' tk m' news', Fr h₀ env.locals h' m' → News h₀ env.locals h' news' → J vs.length m' news' → Q .next { s with heap := h', toks := tk }) :
    wpAny (model prog w) A (pyIter (.ref l)) (fun it s₂ => codeAny (model prog w) A (.forLoop (.Tuple [.Name x px, .Name y py] x1 pt) it body [] env) (ForEnd prog w A env E Q) s₂) E s := by
  have hls : s.heap.IsList l vs.toArray := F.lst hl
  refine wpAny_pyIter_list hls ?_
  have hne : s.heap.objs.size ≠ l := let ⟨_, ho, _⟩ := hls; Nat.ne_of_gt (Heap.lt_size ho)
  have hnI : ∀ p ∈ news, p.1 ≠ s.heap.objs.size := fun p hp => Nat.ne_of_lt (Heap.lt_size (N p hp).1)
  refine for_loop (s := { s with heap := s.heap.push _ }) (draws_list2 (vs := vs) (ps := ps) (Sx := fun h => h₀.StaysIn h) hh hne (fun h k => let ⟨o, ho, r⟩ := hl; ⟨o, k _ _ ho, r⟩) (fun h h' k hk => fun b o e => hk b o (fun q => by rw [q, next_is_new F] at e; cases e) (k b o e)) (next_is_new F) hk hx hy (fun i v h hv k => let ⟨a, p, e, hp, t⟩ := hps i v hv; ⟨a, p, e, hp, tuple_stays t k⟩)) J (Heap.get?_push_size _ rfl) ⟨rfl, rfl⟩ (Nat.ne_of_gt F.ns.lt) (next_is_new F) (F.push _)
    (fun p hp => ⟨Heap.get?_push_of_some _ (N p hp).1, (N p hp).2⟩) hnI (fun i m' news' h' _ F' _ => F'.keep) h0 ?_ hR
  rintro i u m₁ news₁ h tk o hi ⟨p, hp, rfl⟩ hJ hn F₁ N₁
  exact step _ i p m₁ news₁ h tk o hp hJ hn F₁ N₁
end
local macro_rules | `(tactic| walk_at "exec For Tuple Name cons nil") => `(tactic| (with_unfolding_all refine wpAny_For ?_ (by intro _; rfl)))
local macro_rules | `(tactic| walk_at "eval Dict nil nil") => `(tactic| (k_here; k_dflt (refine' dict_empty ?k1 ?k2 ?k3 ?_; (case k1 => k_asm); (case k2 => first | k_asm | exact News.nil); (case k3 => exact Base.nolimit (by assumption))); intro d' h' F' N' hne' hS'))
theorem qname_c {prog : Program} {w : World} {s : Shared} {a : Addr} {n : Nm} (B : Base w s.heap) (ha : NameAt s.heap a n) (hn : IsNm n.1 n.2) :
    Does (model prog w) (Lv 20) (call (.ref 257) [.ref a]) s (fun v h' => ∃ u, v = .str (qn n.1 n.2) u) := by
  obtain ⟨X, p, loose, mean, mg, mb, T⟩ := B
  obtain ⟨u, v, t⟩ := ha
  exact law_qname X T t hn
theorem take_names {rs : List PRow} {i : Nat} {x : PRow} (nd : (rs.map (·.nm)).Nodup) (hx : rs[i]? = some x) : (((rs.take i).map PRow.ent).map (·.nm)).Nodup ∧ x.nm ∉ ((rs.take i).map PRow.ent).map (·.nm) := by
  have e : ((rs.take i).map PRow.ent).map (·.nm) = (rs.take i).map (·.nm) := by rw [List.map_map]; rfl
  have hil := (List.getElem?_eq_some_iff.mp hx).1
  have hxe := (List.getElem?_eq_some_iff.mp hx).2
  rw [e]
  have h1 : rs = rs.take i ++ x :: rs.drop (i + 1) := by
    rw [← hxe, ← List.drop_eq_getElem_cons hil, List.take_append_drop]
  rw [h1, List.map_append, List.map_cons, List.nodup_append] at nd
  exact ⟨nd.1, fun h => nd.2.2 _ h _ (.head _) rfl⟩
set_option maxHeartbeats 2000000 in
theorem law_reader {prog : Program} {w : World} {s : Shared} {l : Addr} {rs : List PRow} (B : Base w s.heap) (hl : s.heap.IsList l (rs.map fun x => Value.ref x.a).toArray) (R : RowsIn s.heap rs) (nd : (rs.map (·.nm)).Nodup) (h8 : rs.length ≤ 8) (hnm : ∀ x ∈ rs, IsNm x.nm.1 x.nm.2) :
    Does (model prog w) (Lv 12) (call (.ref 264) [.ref l]) s (fun v h' => ∃ (r dv dq : Addr) (ys : List Ent) (objs : List (Addr × Obj)), v = .ref r ∧ Fresh s.heap h' objs ∧ ys.map (fun y => (y.nm, y.ka, y.val)) = rs.map (fun x => (x.nm, x.ka, qn x.nm.1 x.nm.2)) ∧ ∀ H, Has objs H → RowsIn H rs → NSRd prog w H r dv dq (rs.map PRow.ent) ys) := by
  refine does_intro fun Q hret => ?_
  obtain ⟨X, p, loose, mean, mg, mb, T⟩ := id B
  refine' call_fn2 [(Str.ofString "pairs", .ref l)] ?kX ?kT ?ko ?kc ?kr ?kb ?kl ?k0 ?c1 ?c2 ?c3 ?c4 ?_
  walk_at "zz enter"
  walk_at "zz go"
  rename_i dv _ _ hSv dq _ hne hSq D _ hlD _ _ _ F N _ _
  have hdvq : dv ≠ dq := hne _ (.head _)
  have hbase : ∀ x ∈ rs, NameAt s.heap x.ka x.nm := fun x hx => (R x hx).2
  refine iter_list2J (x := Str.ofString "name") (y := Str.ofString "value") (ps := rs.map fun x => (Value.ref x.ka, Value.str x.val x.tok)) rfl rfl rfl rfl hl (fun i v hv => ?_) F (news_sub (b := [(dv, dObj #[] 0), (dq, dObj #[] 0)]) N (fun p hp => by
      simp only [List.mem_cons, List.not_mem_nil, or_false] at hp ⊢
      rcases hp with rfl | rfl
      · exact .inr (.inr rfl)
      · exact .inr (.inl rfl)))
    (fun i m news => ∃ (ys : List Ent) (ep eq : Nat), news = [(dv, tdObj prog w ((rs.take i).map PRow.ent) ep), (dq, tdObj prog w ys eq)] ∧ m "values" = some (.ref dv) ∧ m "qnames" = some (.ref dq) ∧ ys.map (fun y => (y.nm, y.ka, y.val)) = (rs.take i).map fun x => (x.nm, x.ka, qn x.nm.1 x.nm.2)) ⟨[], 0, 0, rfl, rfl, rfl, rfl⟩ ?_ ?_
  · rw [List.getElem?_map] at hv
    cases hx : rs[i]? with
    | none => rw [hx] at hv; cases hv
    | some x =>
      rw [hx] at hv
      exact ⟨x.a, _, (Option.some.inj hv).symm, by rw [List.getElem?_map, hx]; rfl, tup_tuple (R x (List.mem_of_getElem? hx)).1⟩
  · rintro I i p m₁ news₁ h tk o hp ⟨ys, ep, eq, rfl, hmv, hmq, hys⟩ hnI F₁ N₁
    rw [List.getElem?_map] at hp
    cases hx : rs[i]? with
    | none => rw [hx] at hp; cases hp
    | some x =>
      rw [hx] at hp
      obtain rfl := Option.some.inj hp
      dsimp only at F₁
      have hmem := List.mem_of_getElem? hx
      have hil := (List.getElem?_eq_some_iff.mp hx).1
      obtain ⟨nd1, nd2⟩ := take_names nd hx
      have hyn : ys.map (·.nm) = (rs.take i).map (·.nm) := by
        have := congrArg (List.map (·.1)) hys
        simpa [List.map_map, Function.comp_def] using this
      have hyk : ∀ y ∈ ys, NameAt s.heap y.ka y.nm := fun y hy => by
        have : (y.nm, y.ka, y.val) ∈ ys.map (fun y => (y.nm, y.ka, y.val)) := List.mem_map_of_mem hy
        rw [hys] at this
        obtain ⟨z, hz, e⟩ := List.mem_map.mp this
        injection e with e1 e2
        injection e2 with e2 _
        rw [← e1, ← e2]
        exact hbase z (List.mem_of_mem_take hz)
      have hI1 := hnI (dv, _) (.head _)
      have hI2 := hnI (dq, _) (.tail _ (.head _))
      walk_at "zz go"
      refine tdsetK (d := dv) (n := x.nm) (xs := (rs.take i).map PRow.ent) (ep := ep) (news := [(I, o), (dq, tdObj prog w ys eq)]) (Nat.le_of_ble_eq_true rfl) F₁ (news_sub N₁ fun p hp => ?_) (fun p hp => ?_) (fun e he => ?_) nd1 ((hbase x hmem).keeps F₁.keep) (look_eq_none nd2) (by simp; omega) fun h2 ep2 F2 N2 hs2 => ?_
      · simp only [List.mem_cons, List.not_mem_nil, or_false] at hp ⊢
        rcases hp with rfl | rfl | rfl
        · exact .inr (.inl rfl)
        · exact .inl rfl
        · exact .inr (.inr rfl)
      · simp only [List.mem_cons, List.not_mem_nil, or_false] at hp
        rcases hp with rfl | rfl
        · exact Ne.symm hI1
        · exact Ne.symm hdvq
      · obtain ⟨z, hz, rfl⟩ := List.mem_map.mp he
        exact (hbase z (List.mem_of_mem_take hz)).keeps F₁.keep
      walk_at "zz go"
      refine' use_fr (A₁ := Lv 20) (qname_c ?ub ?un (hnm x hmem)) ?u1 ?u2 ?u3 ?u4 ?u5 ?u6 ?u7 ?_
      (case un => exact (hbase x hmem).keeps (Fr.keep (by assumption)))
      walk_at "zz use"
      rintro _ h3 tk3 htk3 k3 F3 N3 ⟨u3, rfl⟩
      walk_at "zz go"
      refine tdsetK (d := dq) (n := x.nm) (xs := ys) (ep := eq) (news := [(dv, tdObj prog w ((rs.take i).map PRow.ent ++ [⟨x.nm, x.ka, x.val, x.tok⟩]) ep2), (I, o)]) (Nat.le_of_ble_eq_true rfl) F3 (news_sub N3 fun p hp => ?_) (fun p hp => ?_) (fun e he => (hyk e he).keeps F3.keep) ?_ ((hbase x hmem).keeps F3.keep) (look_eq_none ?_) ?_ fun h4 ep4 F4 N4 hs4 => ?_
      · simp only [List.mem_cons, List.not_mem_nil, or_false] at hp ⊢
        rcases hp with rfl | rfl | rfl
        · exact .inr (.inr rfl)
        · exact .inl rfl
        · exact .inr (.inl rfl)
      · simp only [List.mem_cons, List.not_mem_nil, or_false] at hp
        rcases hp with rfl | rfl
        · exact hdvq
        · exact Ne.symm hI2
      · rw [hyn]; rw [List.map_map] at nd1; exact nd1
      · rw [hyn]; rw [List.map_map] at nd2; exact nd2
      · have := congrArg List.length hyn; simp at this; omega
      walk_at "zz go"
      refine TurnPost.next F4 (news_sub (b := [(I, o), (dv, tdObj prog w ((rs.take i).map PRow.ent ++ [⟨x.nm, x.ka, x.val, x.tok⟩]) ep2), (dq, tdObj prog w (ys ++ [⟨x.nm, x.ka, qn x.nm.1 x.nm.2, u3⟩]) ep4)]) N4 fun p hp => ?_) (fun p hp => ?_) ⟨ys ++ [⟨x.nm, x.ka, qn x.nm.1 x.nm.2, u3⟩], ep2, ep4, ?_, hmv, hmq, ?_⟩
      · simp only [List.mem_cons, List.not_mem_nil, or_false] at hp ⊢
        rcases hp with rfl | rfl | rfl
        · exact .inr (.inr rfl)
        · exact .inr (.inl rfl)
        · exact .inl rfl
      · simp only [List.mem_cons, List.not_mem_nil, or_false] at hp
        rcases hp with rfl | rfl
        · exact hI1
        · exact hI2
      · rw [List.take_add_one, hx, List.map_append]; rfl
      · rw [List.take_add_one, hx, List.map_append, List.map_append, hys]; rfl
  · rintro h' tk' m' news' F' N' ⟨ys, ep, eq, rfl, hmv, hmq, hys⟩
    rw [List.length_map, List.take_of_length_le (Nat.le_refl _)] at hys N'
    walk_at "zz go"
    refine ns_make B F' N' rfl (Nat.le_of_ble_eq_true rfl) (Nat.le_of_ble_eq_true rfl) ?_
    intro r dx h2 tk2 t u F2 N2 hne2 hlt2
    refine hret _ _ _ F2.keep ⟨r, dv, dq, ys, _, rfl, fun p hp => ⟨(N2 p hp).1, (N2 p hp).2.2⟩, hys, fun H hH hR => ?_⟩
    have hyl : ys.length = rs.length := by have := congrArg List.length hys; simpa using this
    have hyn : ys.map (·.nm) = rs.map (·.nm) := by
      have := congrArg (List.map (·.1)) hys
      simpa [List.map_map, Function.comp_def] using this
    have e1 : (rs.map PRow.ent).map (·.nm) = rs.map (·.nm) := by rw [List.map_map]; rfl
    refine ⟨⟨dx, t, u, hH _ (.head _), hH _ (.tail _ (.head _))⟩, ⟨ep, hH _ (.tail _ (.tail _ (.head _))), fun e he => ?_, by rw [e1]; exact nd⟩, ⟨eq, hH _ (.tail _ (.tail _ (.tail _ (.head _)))), fun y hy => ?_, by rw [hyn]; exact nd⟩, hSv, hSq, by simpa using h8, by omega⟩
    · obtain ⟨z, hz, rfl⟩ := List.mem_map.mp he
      exact (hR z hz).2
    · have : (y.nm, y.ka, y.val) ∈ ys.map (fun y => (y.nm, y.ka, y.val)) := List.mem_map_of_mem hy
      rw [hys] at this
      obtain ⟨z, hz, e⟩ := List.mem_map.mp this
      injection e with e1 e2
      injection e2 with e2 _
      rw [← e1, ← e2]
      exact (hR z hz).2
end At
end
section
open PySem PySem.W PySem.Calls PyProof.Rows Builtin Builtin.Str
set_option Elab.async false
set_option maxRecDepth 100000
set_option linter.unusedVariables false
namespace At
section
variable {prog : Program} {w : World} {A : Around} {E : Value → Shared → Prop} {s : Shared} {d a : Addr} {xs : List Ent} {ep : Nat} {n : Nm}
theorem td_notin {Q : Value → Shared → Prop} (hu : A.units ≤ 9000) (hn : NameAt s.heap a n) (hdS : (d == sysModules) = false) (hd : TD prog w s.heap d xs ep)
    (h : Q (.bool (!(look xs n).isSome)) { s with toks := s.toks + 3 }) : wpAny (model prog w) A (compareOp .NotIn (.ref a) (.ref d)) Q E s := by
  refine wpAny_notIn_heap (room1 hu) hn.key hdS hd.dictH ?_
  rw [atKey_look]
  cases hl : look xs n <;> (rw [hl] at h; exact h)
theorem nm_tup {h : Heap} {a : Addr} {x y : Str} {u v : Nat} (e : h.get? a = some (tupObj [.str x u, .str y v])) : NameAt h a (x, y) := ⟨u, v, _, e, rfl, _, rfl⟩
end
local macro_rules | `(tactic| walk_at "eval Dict nil nil") => `(tactic| (k_here; k_dflt (refine' dict_empty ?k1 ?k2 ?k3 ?_; (case k1 => k_asm); (case k2 => first | k_asm | exact News.nil); (case k3 => exact Base.nolimit (by assumption))); intro d' h' F' N' hne' hS'))
local macro_rules | `(tactic| walk_at "exec For Name Name cons nil") => `(tactic| (with_unfolding_all refine wpAny_For ?_ (by intro _; rfl)))
theorem name_c {prog : Program} {w : World} {s : Shared} {n : Int} {t : Tok} (B : Base w s.heap) (h0 : 0 ≤ n) (h1 : n < 20) :
    Does (model prog w) (Lv 20) (call (.ref 250) [.int n t]) s (fun v h' => ∃ a x y u1 u2, v = .ref a ∧ s.heap.get? a = none ∧ h'.get? a = some (tupObj [.str x u1, .str y u2]) ∧ IsNm x y) := by
  obtain ⟨X, p, loose, mean, mg, mb, T⟩ := B
  exact law_name X T h0 h1
theorem value_c {prog : Program} {w : World} {s : Shared} {n : Int} {t : Tok} (B : Base w s.heap) (h0 : 0 ≤ n) (h1 : n < 100003) :
    Does (model prog w) (Lv 20) (call (.ref 243) [.int n t]) s (fun v h' => ∃ x u, v = .str x u ∧ x.length ≤ 18 ∧ okS x) := by
  obtain ⟨X, p, loose, mean, mg, mb, T⟩ := B
  exact law_value X T h0 h1
set_option maxHeartbeats 2000000 in
theorem law_pairs {prog : Program} {w : World} {s : Shared} {l : Addr} {vs : List Value} (B : Base w s.heap) (hl : s.heap.IsList l vs.toArray) (hi : ∀ v ∈ vs, ∃ n t, v = .int n t) :
    Does (model prog w) (Lv 10) (call (.ref 297) [.ref l]) s (fun v h' => ∃ (l' : Addr) (c : Nat) (rs : List PRow) (objs : List (Addr × Obj)), v = .ref l' ∧ Fresh s.heap h' ((l', lstObj (rs.map fun x => Value.ref x.a).toArray c) :: objs) ∧ (∀ H, Has objs H → RowsIn H rs) ∧ (∀ p ∈ objs, p.1 ≠ l') ∧ (rs.map (·.nm)).Nodup ∧ rs.length ≤ 8 ∧
      ∀ x ∈ rs, IsNm x.nm.1 x.nm.2 ∧ x.val.length ≤ 18 ∧ okS x.val) := by
  refine does_intro fun Q hret => ?_
  obtain ⟨X, p, loose, mean, mg, mb, T⟩ := id B
  refine' call_fn2 [(Str.ofString "numbers", .ref l)] ?kX ?kT ?ko ?kc ?kr ?kb ?kl ?k0 ?c1 ?c2 ?c3 ?c4 ?_
  walk_at "zz enter"
  walk_at "zz go"
  rename_i d _ _ hS _ F N _ _
  refine iter_list1J (x := Str.ofString "k") rfl rfl rfl hl F N
    (fun i m news => ∃ (xs : List Ent) (ep : Nat) (nms : List (Addr × Obj)), news = (d, tdObj prog w xs ep) :: nms ∧ m "found" = some (.ref d) ∧ (∀ p ∈ nms, p.1 ≠ d) ∧ (∀ x ∈ xs, ∃ u v, (x.ka, tupObj [.str x.nm.1 u, .str x.nm.2 v]) ∈ nms) ∧ (xs.map (·.nm)).Nodup ∧ xs.length ≤ 8 ∧ ∀ x ∈ xs, IsNm x.nm.1 x.nm.2 ∧ x.val.length ≤ 18 ∧ okS x.val)
    ⟨[], 0, [], rfl, rfl, fun _ h => (nomatch h), fun _ h => (nomatch h), .nil, Nat.zero_le _, fun _ h => (nomatch h)⟩ ?_ ?_
  · rintro I i v m₁ news₁ h tk o hv ⟨xs, ep, nms, rfl, hmf, hnd, hks, nd, h8, hgood⟩ hnI F₁ N₁
    obtain ⟨n, t, rfl⟩ := hi v (List.mem_of_getElem? hv)
    have mkTD : ∀ {H : Heap}, (∀ p ∈ (d, tdObj prog w xs ep) :: nms, H.get? p.1 = some p.2) → TD prog w H d xs ep := fun hH => ⟨hH _ (.head _), fun x hx => let ⟨u, v, hm⟩ := hks x hx; nm_tup (hH _ (.tail _ hm)), nd⟩
    have hs63 : (xs.map (entOf prog w)).toArray.size < 2 ^ 63 := by simp; omega
    have hb : 0 ≤ (if n < 0 then -n else n).fmod 20 ∧ (if n < 0 then -n else n).fmod 20 < 20 := ⟨Int.fmod_nonneg_of_pos _ (by decide), Int.fmod_lt_of_pos _ (by decide)⟩
    have hb2 : 0 ≤ (((if n < 0 then -n else n).fdiv 20).fmod 100003) ∧ (((if n < 0 then -n else n).fdiv 20).fmod 100003) < 100003 := ⟨Int.fmod_nonneg_of_pos _ (by decide), Int.fmod_lt_of_pos _ (by decide)⟩
    walk_at "zz go"
    refine' use_fr (A₁ := Lv 20) (name_c ?ub hb.1 hb.2) ?u1 ?u2 ?u3 ?u4 ?u5 ?u6 ?u7 ?_
    walk_at "zz use"
    rintro _ h2 tk2 htk2 k2 F2 N2 ⟨a, x, y, u1, u2, rfl, hfr, ha, hxy⟩
    have N3 := news_add F₁ N2 hfr ha
    have hIa : a ≠ I := fun e => by rw [e] at hfr; rw [(N₁ _ (.head _)).1] at hfr; cases hfr
    have hda : a ≠ d := fun e => by rw [e] at hfr; rw [(N₁ _ (.tail _ (.head _))).1] at hfr; cases hfr
    clear N2
    walk_at "zz go"
    have F4 := (by assumption : Fr s.heap _ _ _)
    have N4 := (by assumption : News s.heap _ _ _)
    have ha4 : NameAt _ a (x, y) := nm_tup (N4 _ (.head _)).1
    have T4 := mkTD (fun p hp => (N4 p (.tail _ (.tail _ hp))).1)
    have hraw4 := T4.raw
    refine td_notin (Nat.le_of_ble_eq_true rfl) ha4 hS T4 ?_
    walk_at "zz go"
    · refine TurnPost.next F4 (news_sub (b := (I, o) :: (d, tdObj prog w xs ep) :: nms) N4 fun p hp => .tail _ hp) hnI ⟨xs, ep, nms, rfl, hmf, hnd, hks, nd, h8, hgood⟩
    · have hnone : look xs (x, y) = none := by
        have := (by assumption : (look xs (x, y)).isSome = false)
        cases hq : look xs (x, y) with
        | none => rfl
        | some z => rw [hq] at this; cases this
      have hlt : xs.length < 8 := by
        have := (by assumption : (((xs.map (entOf prog w)).toArray.size : Nat) : Int) < 8)
        simp at this; omega
      refine' use_fr (A₁ := Lv 20) (value_c ?ub hb2.1 hb2.2) ?u1 ?u2 ?u3 ?u4 ?u5 ?u6 ?u7 ?_
      walk_at "zz use"
      rintro _ h5 tk5 htk5 k5 F5 N5 ⟨vx, vu, rfl, hvl, hvo⟩
      walk_at "zz go"
      refine tdsetK (d := d) (n := (x, y)) (xs := xs) (ep := ep) (news := (a, tupObj [.str x u1, .str y u2]) :: (I, o) :: nms) (Nat.le_of_ble_eq_true rfl) F5 (news_sub N5 fun p hp => ?_) (fun p hp => ?_) (fun e he => ?_) nd (nm_tup (N5 _ (.head _)).1) hnone (by omega) fun h6 ep6 F6 N6 hs6 => ?_
      · rcases List.mem_cons.mp hp with rfl | hp
        · exact .tail _ (.tail _ (.head _))
        rcases List.mem_cons.mp hp with rfl | hp
        · exact .head _
        rcases List.mem_cons.mp hp with rfl | hp
        · exact .tail _ (.head _)
        · exact .tail _ (.tail _ (.tail _ hp))
      · rcases List.mem_cons.mp hp with rfl | hp
        · exact hda
        rcases List.mem_cons.mp hp with rfl | hp
        · exact Ne.symm (hnI _ (.head _))
        · exact hnd p hp
      · obtain ⟨u, v, hm⟩ := hks e he
        exact nm_tup (N5 _ (.tail _ (.tail _ (.tail _ hm)))).1
      walk_at "zz go"
      refine TurnPost.next F6 (news_sub (b := (I, o) :: (d, tdObj prog w (xs ++ [⟨(x, y), a, vx, vu⟩]) ep6) :: (a, tupObj [.str x u1, .str y u2]) :: nms) N6 fun p hp => ?_) (fun p hp => ?_) ⟨xs ++ [⟨(x, y), a, vx, vu⟩], ep6, (a, tupObj [.str x u1, .str y u2]) :: nms, rfl, hmf, fun p hp => ?_, fun e he => ?_, ?_, ?_, fun e he => ?_⟩
      · rcases List.mem_cons.mp hp with rfl | hp
        · exact .tail _ (.tail _ (.head _))
        rcases List.mem_cons.mp hp with rfl | hp
        · exact .head _
        rcases List.mem_cons.mp hp with rfl | hp
        · exact .tail _ (.head _)
        · exact .tail _ (.tail _ (.tail _ hp))
      · have hdI := hnI (d, tdObj prog w xs ep) (.head _)
        rcases List.mem_cons.mp hp with rfl | hp
        · exact hdI
        rcases List.mem_cons.mp hp with rfl | hp
        · exact hIa
        · exact hnI p (.tail _ hp)
      · rcases List.mem_cons.mp hp with rfl | hp
        · exact hda
        · exact hnd p hp
      · rcases List.mem_append.mp he with he | he
        · obtain ⟨u, v, hm⟩ := hks e he
          exact ⟨u, v, .tail _ hm⟩
        · obtain rfl := List.mem_singleton.mp he
          exact ⟨u1, u2, .head _⟩
      · rw [List.map_append, List.nodup_append]
        refine ⟨nd, by simp, fun b hb c hc e => ?_⟩
        simp only [List.map_cons, List.map_nil, List.mem_singleton] at hc
        subst hc; subst e
        exact look_none hnone hb
      · simp; omega
      · rcases List.mem_append.mp he with he | he
        · exact hgood e he
        · obtain rfl := List.mem_singleton.mp he
          exact ⟨hxy, hvl, hvo⟩
    · refine TurnPost.next F4 (news_sub (b := (I, o) :: (d, tdObj prog w xs ep) :: nms) N4 fun p hp => .tail _ hp) hnI ⟨xs, ep, nms, rfl, hmf, hnd, hks, nd, h8, hgood⟩
  · rintro h' tk' m' news' F' N' ⟨xs, ep, nms, rfl, hmf, hnd, hks, nd, h8, hgood⟩
    have hraw := (N' _ (.head _)).1
    have hsz : (xs.map (entOf prog w)).toArray.size ≤ sizeLine := by simp [sizeLine_eq]; omega
    walk_at "zz go"
    have F5 := (by assumption : Fr s.heap _ _ _)
    have N5 := (by assumption : News s.heap _ _ _)
    have hraw5 := (N5 _ (.tail _ (.head _))).1
    refine listItemsK F5 N5 rfl (.head _) hraw5 hsz fun l' c h6 as hl6 F6 N6 hlen has => ?_
    have hlen' : as.length = xs.length := by simpa using hlen
    let rs : List PRow := List.zipWith (fun a x => ⟨a, x.ka, x.nm, x.val, x.tok⟩) as xs
    have hrl : rs.length = xs.length := by simp [rs, hlen']
    have hra : (rs.map fun x => Value.ref x.a) = as.map Value.ref := by
      apply List.ext_getElem
      · simp [hrl, hlen']
      · intro i h1 h2; simp [rs]
    have hrn : rs.map (·.nm) = xs.map (·.nm) := by
      apply List.ext_getElem
      · simp [hrl]
      · intro i h1 h2; simp [rs]
    have hrx : ∀ z ∈ rs, ∃ (i : Nat) (a : Addr) (x : Ent), as[i]? = some a ∧ xs[i]? = some x ∧ z = ⟨a, x.ka, x.nm, x.val, x.tok⟩ := fun z hz => by
      obtain ⟨i, hi, rfl⟩ := List.mem_iff_getElem.mp hz
      have h1 : i < as.length := by simp [rs] at hi; omega
      have h2 : i < xs.length := by simp [rs] at hi; omega
      exact ⟨i, as[i], xs[i], List.getElem?_eq_getElem h1, List.getElem?_eq_getElem h2, by simp [rs]⟩
    rw [← hra] at N6
    have hper : ∀ (i : Nat) a x, as[i]? = some a → xs[i]? = some x → h6.get? a = some (pairObj (entOf prog w x)) ∧ s.heap.get? a = none := fun i a x ha hx => by
      obtain ⟨e, he, h1, h2⟩ := has i a ha
      have : e = entOf prog w x := by simpa [hx] using he.symm
      subst this
      refine ⟨h1, ?_⟩
      cases q : s.heap.get? a with
      | none => rfl
      | some ob => have := F5.keep _ _ q; rw [h2] at this; cases this
    let objs : List (Addr × Obj) := List.zipWith (fun a x => (a, pairObj (entOf prog w x))) as xs ++ nms
    have hobj : ∀ p ∈ objs, (∃ (i : Nat) (a : Addr) (x : Ent), as[i]? = some a ∧ xs[i]? = some x ∧ p = (a, pairObj (entOf prog w x))) ∨ p ∈ nms := fun p hp => by
      rcases List.mem_append.mp hp with hp | hp
      · obtain ⟨i, hi, rfl⟩ := List.mem_iff_getElem.mp hp
        have h1 : i < as.length := by simp at hi; omega
        have h2 : i < xs.length := by simp at hi; omega
        exact .inl ⟨i, as[i], xs[i], List.getElem?_eq_getElem h1, List.getElem?_eq_getElem h2, by simp⟩
      · exact .inr hp
    refine hret _ _ _ F6.keep ⟨l', c, rs, objs, rfl, fun p hp => ?_, fun H hH z hz => ?_, fun p hp => ?_, by rw [hrn]; exact nd, by omega, fun z hz => ?_⟩
    · rcases List.mem_cons.mp hp with rfl | hp
      · exact ⟨(N6 _ (.head _)).1, (N6 _ (.head _)).2.2⟩
      rcases hobj p hp with ⟨i, a, x, ha, hx, rfl⟩ | hp
      · exact hper i a x ha hx
      · exact ⟨(N6 _ (.tail _ (.tail _ (.tail _ hp)))).1, (N6 _ (.tail _ (.tail _ (.tail _ hp)))).2.2⟩
    · obtain ⟨i, a, x, ha, hx, rfl⟩ := hrx z hz
      have hm : (a, pairObj (entOf prog w x)) ∈ objs := by
        refine List.mem_append_left _ ?_
        have h1 := (List.getElem?_eq_some_iff.mp ha)
        have h2 := (List.getElem?_eq_some_iff.mp hx)
        refine List.mem_iff_getElem.mpr ⟨i, by simp; exact Nat.lt_min.mpr ⟨h1.1, h2.1⟩, ?_⟩
        simp [h1.2, h2.2]
      obtain ⟨u, v, hmn⟩ := hks x (List.mem_of_getElem? hx)
      exact ⟨⟨_, hH _ hm, rfl, _, rfl⟩, nm_tup (hH _ (List.mem_append_right _ hmn))⟩
    · have hl0 := (N6 _ (.head _)).1
      rcases hobj p hp with ⟨i, a, x, ha, hx, rfl⟩ | hp
      · intro e
        have := (hper i a x ha hx).1
        rw [show a = l' from e, hl0] at this
        have h9 := congrArg (fun o : Option Obj => o.map (·.cls)) this
        have h10 : some (Value.type "list") = some (Value.type "tuple") := h9
        exact absurd h10 (by decide)
      · intro e
        have := (N6 _ (.tail _ (.tail _ (.tail _ hp)))).1
        obtain ⟨e1, hx, hm⟩ : True ∧ True ∧ True := ⟨trivial, trivial, trivial⟩
        have h5 := (N5 _ (.tail _ (.tail _ hp))).1
        rw [e, hl6] at h5
        cases h5
    · obtain ⟨i, a, x, ha, hx, rfl⟩ := hrx z hz
      exact hgood x (List.mem_of_getElem? hx)
end At
end
section
open PySem PySem.W PySem.Calls PyProof.Rows Builtin Builtin.Str
set_option Elab.async false
set_option linter.unusedVariables false
namespace At
theorem drop_len {T u : List Nat} {p c : Nat} {r : List Nat} (h : T.drop p = u ++ c :: r) : p + u.length < T.length := by
  have := congrArg List.length h
  rw [List.length_drop, List.length_append, List.length_cons] at this
  omega
theorem drop_get {T u : List Nat} {p c : Nat} {r : List Nat} (h : T.drop p = u ++ c :: r) : T[p + u.length]? = some c := by
  have := congrArg (fun l => l[u.length]?) h
  simpa [List.getElem?_drop] using this
theorem drop_get_lt {T u : List Nat} {p c : Nat} {r : List Nat} (h : T.drop p = u ++ c :: r) {v : Nat} (h1 : p ≤ v) (h2 : v < p + u.length) : ∃ a ∈ u, T[v]? = some a := by
  have hv : v - p < u.length := by omega
  refine ⟨u[v - p], List.getElem_mem hv, ?_⟩
  have := congrArg (fun l => l[v - p]?) h
  rw [List.getElem?_drop, show p + (v - p) = v by omega] at this
  rw [this, List.getElem?_append_left hv, List.getElem?_eq_getElem hv]
theorem find_at {tg : Str} {u r : List Nat} {p c : Nat} (h : tg.cps.toList.drop p = u ++ c :: r) (hc : c ∉ u) : Txt.find3 tg ⟨#[c]⟩ (p : Int) = ((p + u.length : Nat) : Int) := by
  have hl := drop_len h
  have hg := drop_get h
  have hlen := len_list tg
  have hfi : fromIndex tg.length (p : Int) = p := by unfold fromIndex; omega
  rcases StrLaws.find3_spec tg c (p : Int) with ⟨_, hn⟩ | ⟨k, hk, h1, h2, h3, h4⟩
  · rw [hfi] at hn
    exact absurd (StrLaws.getD_of_getElem? hg) (hn _ (by omega) (by omega))
  · rw [hfi] at h1 h4
    rw [hk]
    have : k = p + u.length := by
      rcases Nat.lt_trichotomy k (p + u.length) with e | e | e
      · obtain ⟨a, ha, hx⟩ := drop_get_lt h h1 e
        have := StrLaws.getD_of_getElem? hx
        rw [h3] at this
        rw [this] at hc
        exact absurd ha hc
      · exact e
      · exact absurd (StrLaws.getD_of_getElem? hg) (h4 _ (by omega) e)
    rw [this]
theorem item_at {tg : Str} {r : List Nat} {p c : Nat} (h : tg.cps.toList.drop p = c :: r) : Txt.item tg (p : Int) = ⟨#[c]⟩ := by
  have hg := drop_get (u := []) h
  have hl := drop_len (u := []) h
  rw [List.length_nil, Nat.add_zero] at hg hl
  unfold Txt.item Txt.charAt
  rw [StrLaws.at_nonneg (n := c) (by omega) (by rw [← Array.getElem?_toList]; simpa using hg)]
  rfl
theorem slice_at {tg : Str} {u r : List Nat} {p q : Nat} (h : tg.cps.toList.drop p = u ++ r) (hq : q = p + u.length) (hl : q ≤ tg.cps.toList.length) : Txt.slice tg (some (p : Int)) (some (q : Int)) = ⟨u.toArray⟩ := by
  have e : Txt.slice tg (some (p : Int)) (some (q : Int)) = ⟨((tg.cps.toList.drop ((p : Int)).toNat).take ((q : Int) - (p : Int)).toNat).toArray⟩ := StrLaws.sliceText_plain (by omega)
  rw [e, show ((p : Nat) : Int).toNat = p by omega, show ((q : Int) - (p : Int)).toNat = u.length by omega, h, List.take_left]
/-- drops -/
theorem drop_step {T u : List Nat} {p c : Nat} {r : List Nat} (h : T.drop p = u ++ c :: r) : T.drop (p + u.length + 1) = r := by
  have := congrArg (List.drop (u.length + 1)) h
  rw [List.drop_drop] at this
  rw [show p + u.length + 1 = p + (u.length + 1) by omega, this]
  simp
end At
end
section
open PySem PySem.W PySem.Calls PyProof.Rows Builtin Builtin.Str
set_option Elab.async false
set_option maxRecDepth 100000
set_option linter.unusedVariables false
namespace At
section
variable {prog : Program} {w : World} {A : Around} {E : Value → Shared → Prop} {s : Shared} {h₀ : Heap} {L d : Addr} {m : Str → Option Value} {news : List (Addr × Obj)}
theorem raw_setitem {es : Array DictEntry} {ep : Nat} {k : Str} {t : Nat} {v : Value} {Q : Unit → Shared → Prop} (hm : RawD s.heap d es ep) (hk : StrKs w es) (hn : ∀ e ∈ es, ∀ t, e.key ≠ .str k t) (hz : es.size ≤ sizeLine)
    (hQ : ∀ h', RawD h' d (es.push (sEnt w k t v)) (ep + 1) → Heap.SameBut d s.heap h' → Q () { s with heap := h', toks := s.toks + 1 }) :
    wpAny (model prog w) A (setItem (.ref d) (.str k t) v) Q E s := by
  have hT := raw_type hm
  unfold setItem
  try with_reducible refine wpAny_holding ?_
  refine wpAny_bind (wpAny_sequenceKey hT (by decide) ?_)
  refine wpAny_bind (wpAny_callSpecial?_slot (name := Str.ofString "__setitem__") hT slot_dict_setitem
    (wpAny_call_entry slot_dict_setitem hT entry_dict_setitem ?_ (args_dict_setitem _ _ _)))
  show wpAny _ _ (Builtin.Dict.notOrdered "__setitem__" ⟨[.ref d, .str k t, v], []⟩ >>= _) _ _ s
  refine wpAny_bind (wpAny_notOrdered_dict hT ?_)
  show wpAny _ _ (dictSet d (.str k t) v >>= _) _ _ s
  exact wpAny_bind (raw_set_new hm hk hn hz fun h' hm' hs' => wpAny_pure ⟨.none, rfl, wpAny_pure (hQ h' hm' hs')⟩)
theorem slice_pos {a : Heap} {g : Array GenState} {st : Drawn} {tk : Nat} {wd : OsState} {x : Str} {t : Nat} {value slice : PySem.Expr} {Q : Value → Shared → Prop} {i j : Int} {ui uj : Tok} (h0 : 0 < tk) (hF : Fr h₀ L a m) (hN : News h₀ L a news)
    (h : ∀ h' t' k, 0 < k → Fr h₀ L h' m → News h₀ L h' news → (Txt.slice x (some i) (some j)).length ≤ x.length → Q (.str (Txt.slice x (some i) (some j)) t') ⟨h', g, st, k, wd⟩)
    (hs : subscripted slice false (.str x t) (.ref a.objs.size) = operate [.ref a.objs.size, .str x t] (getItem (.str x t) (.ref a.objs.size)))
    (ht : ∀ r, letTemporaryGo value (.str x t) r = pure ()) (hsz : x.length ≤ sizeLine) :
    wpAny (model prog w) A (subscriptTail value slice (.str x t) (.ref a.objs.size)) Q E ⟨a.push { cls := .type "slice", data := .fields #[.int i ui, .int j uj, .none] }, g, st, tk, wd⟩ :=
  wpAny_with_toks (n := tk) (Nat.le_refl _) (slice_strN_ss_len (s := ⟨a, g, st, tk, wd⟩) hF hN (fun h' t' k F' N' hl => fun hk => h h' t' k (Nat.lt_of_lt_of_le h0 hk) F' N' hl) hs ht hsz)
end
def WhileNext (I : Nat → Shared → Prop) (n : Nat) (s : Shared) : Prop := ∃ m, m < n ∧ I m s
theorem while_loop {prog : Program} {w : World} {A : Around} {env : Env} {s : Shared} {test : PySem.Expr} {body : List Stmt} {Q : Flow → Shared → Prop} {E : Value → Shared → Prop} (I : Nat → Shared → Prop)
    (turn : ∀ n s, I n s → wpAny (model prog w) A (isTrue test env (eval test env)) (fun b s₂ =>
        if b = true then wpAny (model prog w) A (execs body env) (fun f s₃ => match f with
            | .next | .cont => WhileNext I n s₃
            | .brk => Q .next s₃
            | .ret v => Q (.ret v) s₃) noE s₂
        else Q .next s₂) noE s)
    (n : Nat) (h : I n s) : codeAny (model prog w) A (.whileLoop test body [] env) (ForEnd prog w A env E Q) s := by
  refine codeAny_whileLoop I (fun n s hI => wpAny_mono (turn n s hI) (fun b s₂ h₂ => ?_) fun _ _ x => x.elim) n h
  cases b with
  | true =>
    simp only [if_true] at h₂ ⊢
    exact wpAny_mono h₂ (fun f s₃ h₃ => by cases f <;> exact h₃) fun _ _ x => x.elim
  | false =>
    simp only [Bool.false_eq_true, if_false] at h₂ ⊢
    exact wpAny_execs_nil h₂
theorem str_ext {a b : Str} (h : a.cps.toList = b.cps.toList) : a = b := by
  obtain ⟨⟨la⟩⟩ := a
  obtain ⟨⟨lb⟩⟩ := b
  simp only at h
  rw [h]
/-- how a tag lies -/
def segL (p : Nm × Str) : List Nat := 32 :: ((qn p.1.1 p.1.2).cps.toList ++ 61 :: (qa p.2).cps.toList)
theorem tag_fold : ∀ (ps : List (Nm × Str)) (t : Str), (ps.foldl tagStep t).cps.toList = t.cps.toList ++ ps.flatMap segL
  | [], t => by simp
  | p :: ps, t => by
    rw [List.foldl_cons, tag_fold ps, List.flatMap_cons, ← List.append_assoc]
    congr 1
    have e1 : (Str.ofString " ").cps.toList = [32] := by decide +kernel
    have e2 : (Str.ofString "=").cps.toList = [61] := by decide +kernel
    unfold tagStep segL
    simp [Str.cps_append, e1, e2]
theorem tag_list (ps : List (Nm × Str)) : (tagText ps).cps.toList = [60, 116] ++ ps.flatMap segL ++ [62] := by
  have e1 : (Str.ofString "<t").cps.toList = [60, 116] := by decide +kernel
  have e2 : (Str.ofString ">").cps.toList = [62] := by decide +kernel
  unfold tagText
  rw [Str.cps_append, Array.toList_append, tag_fold, e1, e2]
theorem drop_flat (ps : List (Nm × Str)) (i : Nat) : ([60, 116] ++ ps.flatMap segL ++ [62]).drop (2 + ((ps.take i).flatMap segL).length) = (ps.drop i).flatMap segL ++ [62] := by
  have h : ps.flatMap segL = (ps.take i).flatMap segL ++ (ps.drop i).flatMap segL := by rw [← List.flatMap_append, List.take_append_drop]
  rw [h, List.append_assoc, List.append_assoc, Nat.add_comm, ← List.append_assoc]
  rw [show ((ps.take i).flatMap segL).length + 2 = ([60, 116] ++ (ps.take i).flatMap segL).length by simp, List.drop_left]
theorem flat_bound {ps : List (Nm × Str)} (hq : ∀ p ∈ ps, (qn p.1.1 p.1.2).length ≤ 3) (hv : ∀ p ∈ ps, p.2.length ≤ 19) : (ps.flatMap segL).length ≤ 121 * ps.length := by
  induction ps with
  | nil => simp
  | cons p ps ih =>
    have h1 := ih (fun q hq' => hq q (.tail _ hq')) fun q hq' => hv q (.tail _ hq')
    have h2 := hq p (.head _)
    have h3 := hv p (.head _)
    have h4 := qa_len p.2
    rw [len_list] at h2 h4
    rw [List.flatMap_cons, List.length_append, List.length_cons]
    have : (segL p).length = 2 + (qn p.1.1 p.1.2).cps.toList.length + (qa p.2).cps.toList.length := by unfold segL; simp; omega
    omega
local macro_rules | `(tactic| walk_at "eval Dict nil nil") => `(tactic| (k_here; k_dflt (refine' dict_empty ?k1 ?k2 ?k3 ?_; (case k1 => k_asm); (case k2 => first | k_asm | exact News.nil); (case k3 => exact Base.nolimit (by assumption))); intro d' h' F' N' hne' hS'))
local macro_rules | `(tactic| walk_at "exec While Compare") => `(tactic| (with_unfolding_all refine wpAny_While ?_))
local macro_rules | `(tactic| walk_at "exec While") => `(tactic| (with_unfolding_all refine wpAny_While ?_))
local macro_rules | `(tactic| walk_at "subscriptTail Name Slice str ref") => `(tactic| ((with_reducible rename Fr _ _ _ _ => F'); (with_reducible rename News _ _ _ _ => N'); (refine slice_pos (by omega) F' N' ?_ (by with_unfolding_all rfl) (by intro _; with_unfolding_all rfl) (by rw [sizeLine_eq]; omega)); intro h' t' k' hk' F' N' hl'))
local macro_rules | `(tactic| walk_at "eval Dict cons cons") => `(tactic| (k_here; k_dflt (refine' dict_raw ?q1 ?q2 ?q3 ?q4 ?q5 ?q6 ?q7 ?_; (case q1 => k_asm); (case q2 => first | k_asm | exact News.nil); (case q3 => exact Base.nolimit (by assumption)); (case q4 => rfl); (case q5 => rfl); (case q6 => exact List.cons_ne_nil _ _); (case q7 => exact Nat.le_of_ble_eq_true rfl)); intro d' h' F' N' hne' hS'))
theorem sents4 {w : World} {t : Nat} (ht : 0 < t) : SEnts 1 (sEnts w [(Str.ofString "&quot;", t, .str (Str.ofString "\"") (t + 1)), (Str.ofString "&#10;", t + 1 + 1, .str (Str.ofString "\n") (t + 1 + 1 + 1)), (Str.ofString "&#13;", t + 1 + 1 + 1 + 1, .str (Str.ofString "\r") (t + 1 + 1 + 1 + 1 + 1)), (Str.ofString "&#9;", t + 1 + 1 + 1 + 1 + 1 + 1, .str (Str.ofString "\t") (t + 1 + 1 + 1 + 1 + 1 + 1 + 1))]).toArray ents4 := by
  refine ⟨rfl, ?_⟩
  intro i e p he hp
  rcases i with _ | _ | _ | _ | i
  · cases he; cases hp; exact sent_mk (k := Str.ofString "&quot;") (v := Str.ofString "\"") (t := t) (u := t + 1) (by omega) (by omega) (by omega) (by decide +kernel) (by decide +kernel)
  · cases he; cases hp; exact sent_mk (k := Str.ofString "&#10;") (v := Str.ofString "\n") (t := t + 1 + 1) (u := t + 1 + 1 + 1) (by omega) (by omega) (by omega) (by decide +kernel) (by decide +kernel)
  · cases he; cases hp; exact sent_mk (k := Str.ofString "&#13;") (v := Str.ofString "\r") (t := t + 1 + 1 + 1 + 1) (u := t + 1 + 1 + 1 + 1 + 1) (by omega) (by omega) (by omega) (by decide +kernel) (by decide +kernel)
  · cases he; cases hp; exact sent_mk (k := Str.ofString "&#9;") (v := Str.ofString "\t") (t := t + 1 + 1 + 1 + 1 + 1 + 1) (u := t + 1 + 1 + 1 + 1 + 1 + 1 + 1) (by omega) (by omega) (by omega) (by decide +kernel) (by decide +kernel)
  · cases hp
set_option maxHeartbeats 4000000 in
theorem law_read {prog : Program} {w : World} {s : Shared} {ps : List (Nm × Str)} {tt : Nat} (B : Base w s.heap) (h8 : ps.length ≤ 8) (hq3 : ∀ p ∈ ps, (qn p.1.1 p.1.2).length ≤ 3) (hq61 : ∀ p ∈ ps, 61 ∉ (qn p.1.1 p.1.2).cps.toList) (hv : ∀ p ∈ ps, p.2.length ≤ 19)
    (hnd : (ps.map fun p => qn p.1.1 p.1.2).Nodup) :
    Does (model prog w) (Lv 12) (call (.ref 278) [.str (tagText ps) tt]) s (fun v h' => ∃ (r d : Addr) (zs : List Row) (objs : List (Addr × Obj)), v = .ref r ∧ Fresh s.heap h' objs ∧ zs.map (fun z => (z.nm, z.val)) = ps.map (fun p => (qn p.1.1 p.1.2, p.2)) ∧ ∀ H, Has objs H → PlRd w H r d zs) := by
  refine does_intro fun Q hret => ?_
  obtain ⟨X, p, loose, mean, mg, mb, T⟩ := id B
  generalize htg : tagText ps = tg
  have hT : tg.cps.toList = [60, 116] ++ ps.flatMap segL ++ [62] := by rw [← htg]; exact tag_list ps
  have hlen : tg.length ≤ 1000 := by
    rw [len_list, hT]
    have := flat_bound hq3 hv
    simp only [List.length_append, List.length_cons, List.length_nil]; omega
  refine' call_fn2 [(Str.ofString "tag", .str tg tt)] ?kX ?kT ?ko ?kc ?kr ?kb ?kl ?k0 ?c1 ?c2 ?c3 ?c4 ?_
  walk_at "zz enter"
  walk_at "zz go"
  rename_i L _ _ hL _ tk1 _ d _ hne hS D _ hlD _ _ _ F N _ htk0
  refine while_loop (fun n s' => ∃ (i : Nat) (h' : Heap) (tk : Nat) (m' : Str → Option Value) (pt : Nat) (zs : List Row) (ep : Nat), i ≤ ps.length ∧ n = ps.length - i ∧ s' = { s with heap := h', toks := tk } ∧ 0 < tk ∧ Fr s.heap L h' m' ∧ News s.heap L h' [(d, dObj (sEnts w (psOf zs)).toArray ep)] ∧ m' "tag" = some (.str tg tt) ∧ m' "at" = some (.int ((2 + ((ps.take i).flatMap segL).length : Nat) : Int) pt) ∧ m' "found" = some (.ref d) ∧ zs.map (fun z => (z.nm, z.val)) = (ps.take i).map (fun p => (qn p.1.1 p.1.2, p.2))) ?_ ps.length ?_
  · rintro n s' ⟨i, h', tk, m', pt, zs, ep, hi, rfl, rfl, htk, F', N', htag, hat, hfd, hzs⟩
    have hdrop := drop_flat ps i
    rw [← hT] at hdrop
    generalize hpos : 2 + ((ps.take i).flatMap segL).length = pos at hat hdrop
    have hpl : pos < tg.length := by
      have := congrArg List.length hdrop
      rw [List.length_drop, List.length_append] at this
      rw [len_list]; simp only [List.length_cons, List.length_nil] at this; omega
    by_cases hin : i < ps.length
    · have hil := hin
      obtain ⟨c, body, hcq, hqa, hcb, hun, hbl⟩ := qa_spec ps[i].2
      have hmem := List.getElem_mem hin
      have hd1 : tg.cps.toList.drop pos = 32 :: ((qn ps[i].1.1 ps[i].1.2).cps.toList ++ 61 :: (c :: (body ++ c :: ((ps.drop (i + 1)).flatMap segL ++ [62])))) := by
        rw [hdrop, List.drop_eq_getElem_cons hin, List.flatMap_cons]
        unfold segL
        rw [hqa]
        simp
      have hq1 := hq61 _ hmem
      have hv19 := hv _ hmem
      generalize (ps.drop (i + 1)).flatMap segL ++ [62] = rest at hd1
      generalize hqn : qn ps[i].1.1 ps[i].1.2 = q at hd1 hq1
      have d2 : tg.cps.toList.drop pos = (32 :: q.cps.toList) ++ 61 :: (c :: (body ++ c :: rest)) := by rw [hd1]; rfl
      obtain ⟨mid, hmid⟩ : ∃ mid, mid = pos + (32 :: q.cps.toList).length := ⟨_, rfl⟩
      have hmid2 : mid = pos + (q.cps.toList.length + 1) := by rw [hmid, List.length_cons]
      obtain ⟨en, hen⟩ : ∃ en, en = mid + 2 + body.length := ⟨_, rfl⟩
      have d3 : tg.cps.toList.drop (mid + 1) = c :: (body ++ c :: rest) := by rw [hmid]; exact drop_step d2
      have d4 : tg.cps.toList.drop (mid + 2) = body ++ c :: rest := drop_step (u := []) d3
      have d5 : tg.cps.toList.drop (pos + 1) = q.cps.toList ++ 61 :: (c :: (body ++ c :: rest)) := drop_step (u := []) (r := q.cps.toList ++ 61 :: (c :: (body ++ c :: rest))) (c := 32) hd1
      have hen2 := drop_len d4
      have hq61' : (61 : Nat) ∉ 32 :: q.cps.toList := by
        intro h; rcases List.mem_cons.mp h with h | h
        · cases h
        · exact hq1 h
      have l32 : Str.ofString " " = ⟨#[32]⟩ := by decide +kernel
      have l61 : Str.ofString "=" = ⟨#[61]⟩ := by decide +kernel
      have f0 : (Txt.item tg (pos : Int) == Str.ofString " ") = true := by rw [item_at hd1, l32]; simp
      have f1 : Txt.find3 tg (Str.ofString "=") (pos : Int) = (mid : Int) := by rw [l61, find_at d2 hq61', hmid]
      have f2 : Txt.item tg ((mid : Int) + 1) = ⟨#[c]⟩ := item_at (p := mid + 1) d3
      have f3 : Txt.find3 tg (Txt.item tg ((mid : Int) + 1)) ((mid : Int) + 2) = (en : Int) := by
        rw [f2]
        exact (find_at (p := mid + 2) d4 hcb).trans (by rw [hen])
      have hlt := len_list tg
      have f4 : Txt.slice tg (some ((mid : Int) + 2)) (some (en : Int)) = ⟨body.toArray⟩ := slice_at (p := mid + 2) d4 hen (by omega)
      have hml := drop_len d2
      have f5 : Txt.slice tg (some ((pos : Int) + 1)) (some (mid : Int)) = q := by
        have := slice_at (p := pos + 1) (q := mid) d5 (by omega) (by omega)
        exact this
      have f6 : unesc ⟨body.toArray⟩ = ps[i].2 := by
        have h1 := unesc_list ⟨body.toArray⟩
        have h2 : (⟨body.toArray⟩ : Str).cps.toList = body := rfl
        rw [h2, hun] at h1
        exact str_ext h1
      have hp0 : (0 : Int) ≤ (pos : Int) ∧ (pos : Int) < tg.length := by omega
      have hm0 : (mid : Int) + 1 < tg.length ∧ (0 : Int) ≤ mid ∧ pos + 1 ≤ mid ∧ mid + 2 ≤ en ∧ en < tg.length := by omega
      walk_at "zz go"
      rw [f1]
      walk_at "zz go"
      rw [f3]
      walk_at "zz go"
      have Fs := (by assumption : Fr s.heap L _ _)
      have Ns := (by assumption : News s.heap L _ _)
      rename_i t2 k2 hk2 _ _ hl2 d2 _ _ _ hne2 hS2
      refine store_raw [(Str.ofString "&quot;", k2, .str (Str.ofString "\"") (k2 + 1)), (Str.ofString "&#10;", k2 + 1 + 1, .str (Str.ofString "\n") (k2 + 1 + 1 + 1)), (Str.ofString "&#13;", k2 + 1 + 1 + 1 + 1, .str (Str.ofString "\r") (k2 + 1 + 1 + 1 + 1 + 1)), (Str.ofString "&#9;", k2 + 1 + 1 + 1 + 1 + 1 + 1, .str (Str.ofString "\t") (k2 + 1 + 1 + 1 + 1 + 1 + 1 + 1))] rfl Fs Ns hne2 (show ([Str.ofString "&quot;", Str.ofString "&#10;", Str.ofString "&#13;", Str.ofString "&#9;"] : List Str).Nodup by decide +kernel) (Nat.le_of_ble_eq_true rfl) fun h5 ep5 F5 N5 => ?_
      walk_at "zz go"
      rw [f4]
      refine' use_fr (A₁ := Lv 18) (unescape_c (x := ⟨body.toArray⟩) ?ub hS2 ?ud (sents4 hk2) ?ux) ?u1 ?u2 ?u3 ?u4 ?u5 ?u6 ?u7 ?_
      (case ud => exact (N5 _ (.head _)).1)
      (case ux => rw [len_list]; show body.length ≤ 1000; omega)
      walk_at "zz use"
      rintro _ h6 tk6 htk6 k6 F6 N6 ⟨u6, rfl⟩
      rw [f6]
      have h06 : 0 < tk6 := by
        have := htk6
        dsimp only at this
        omega
      walk_at "zz go"
      have F7 := (by assumption : Fr s.heap L _ _)
      have N7 := (by assumption : News s.heap L _ _)
      rw [f1, f5]
      have hd7 := N7 _ (.tail _ (.head _))
      have hnmz : (psOf zs).map (·.1) = (ps.take i).map (fun p => qn p.1.1 p.1.2) := by
        have := congrArg (List.map (·.1)) hzs
        simpa [List.map_map, Function.comp_def] using this
      have hfresh : q ∉ (psOf zs).map (·.1) := by
        rw [hnmz, ← hqn]
        have h1 : ps = ps.take i ++ ps[i] :: ps.drop (i + 1) := by
          rw [← List.drop_eq_getElem_cons hin, List.take_append_drop]
        have h2 := hnd
        rw [h1, List.map_append, List.map_cons, List.nodup_append] at h2
        exact fun h => h2.2.2 _ h _ (.head _) rfl
      have hzl : zs.length ≤ 8 := by have := congrArg List.length hzs; simp at this; omega
      refine raw_setitem hd7.1 (sEnts_ks _) (sEnts_new hfresh) (by simp [sEnts, sizeLine_eq]; omega) fun h8 hm8 hs8 => ?_
      have F8 := F7.change hs8 hd7.2.1 hd7.2.2
      rename_i t9 _ _ _ _ _
      have hm9 : RawD h8 d (sEnts w (psOf (zs ++ [⟨q, t9, ps[i].2, u6⟩]))).toArray (ep + 1) := by
        have e := sEnts_snoc (w := w) (psOf zs) (q, t9, Value.str ps[i].2 u6)
        rw [e] at hm8
        have e2 : psOf (zs ++ [⟨q, t9, ps[i].2, u6⟩]) = psOf zs ++ [(q, t9, Value.str ps[i].2 u6)] := by unfold psOf; rw [List.map_append]; rfl
        rw [e2]; exact hm8
      have N8 : News s.heap L h8 [(d, dObj (sEnts w (psOf (zs ++ [⟨q, t9, ps[i].2, u6⟩]))).toArray (ep + 1))] := fun p hp => by
        obtain rfl := List.mem_singleton.mp hp
        exact ⟨hm9, hd7.2⟩
      clear F7 N7
      walk_at "zz go"
      have F10 := (by assumption : Fr s.heap L _ _)
      have N10 := (by assumption : News s.heap L _ _)
      rename_i htk11
      have hnext : 2 + ((ps.take (i + 1)).flatMap segL).length = en + 1 := by
        rw [List.take_add_one, List.getElem?_eq_getElem hin, List.flatMap_append, List.length_append]
        have e1 : (Option.toList (some ps[i])).flatMap segL = segL ps[i] := by simp
        rw [e1]
        have e2 : (segL ps[i]).length = 2 + q.cps.toList.length + (body.length + 2) := by
          unfold segL; rw [hqn, hqa]
          simp only [List.length_cons, List.length_append, List.length_nil]; omega
        omega
      obtain ⟨m10, F11, ⟨pt10, hat10⟩, htag10, hfd10⟩ : ∃ m10, Fr s.heap L _ m10 ∧ (∃ pt, m10 "at" = some (.int (((en + 1 : Nat)) : Int) pt)) ∧ m10 "tag" = some (.str tg tt) ∧ m10 "found" = some (.ref d) := by
        refine ⟨_, F10, ⟨?pt, ?hp⟩, htag, hfd⟩
        case hp =>
          refine (congrArg some (congrArg (Value.int · _) ?_) : some (Value.int _ _) = some (Value.int _ _))
          rw [f1, f3]
          rfl
      refine ⟨ps.length - (i + 1), by omega, i + 1, _, _, m10, pt10, zs ++ [⟨q, t9, ps[i].2, u6⟩], ep + 1, by omega, rfl, rfl, htk11, F11, N10, htag10, by rw [hnext]; exact hat10, hfd10, ?_⟩
      rw [List.map_append, hzs, List.take_add_one, List.getElem?_eq_getElem hin, List.map_append, ← hqn]
      rfl
    · obtain rfl : i = ps.length := by omega
      rw [List.drop_length] at hdrop
      have f0 : Txt.item tg (pos : Int) = ⟨#[62]⟩ := item_at (r := []) hdrop
      have f00 : (Txt.item tg (pos : Int) == Str.ofString " ") = false := by rw [f0]; decide +kernel
      walk_at "zz go"
      refine pl_make B F' N' rfl (Nat.le_of_ble_eq_true rfl) (Nat.le_of_ble_eq_true rfl) ?_
      intro r dx h2 tk2 t F2 N2 hne2 hlt2
      rw [List.take_of_length_le (Nat.le_refl _)] at hzs
      have hnm : zs.map (·.nm) = ps.map (fun p => qn p.1.1 p.1.2) := by
        have := congrArg (List.map (·.1)) hzs
        simpa [List.map_map, Function.comp_def] using this
      refine hret _ _ _ F2.keep ⟨r, d, zs, _, rfl, fun p hp => ⟨(N2 p hp).1, (N2 p hp).2.2⟩, hzs, fun H hH => ⟨⟨dx, t, hH _ (.head _), hH _ (.tail _ (.head _))⟩, ⟨ep, hH _ (.tail _ (.tail _ (.head _))), by rw [hnm]; exact hnd⟩, hS, ?_⟩⟩
      have := congrArg List.length hzs
      simp at this; omega
  · exact ⟨0, _, _, _, _, [], 0, Nat.zero_le _, rfl, rfl, htk0, F, news_sub N fun p hp => .tail _ hp, rfl, rfl, rfl, rfl⟩
end At
end
section
open PySem PySem.W PySem.Calls PyProof.Rows Builtin
set_option maxRecDepth 100000
namespace At
section
variable {prog : Program} {w : World} {A : Around} {E : Value → Shared → Prop} {s : Shared} {X N I : String}
/-- an exception class is called: the one argument lies in the args -/
theorem call_made (hc : ExcClass X N I) {rest : List Value} {Q : Value → Shared → Prop}
    (h : ∀ h' e, Heap.MadeExcOf s.heap h' e (.type X) rest → Q (.ref e) { s with heap := h' }) (hrest : rest.length ≤ sizeLine := by size_fits) :
    wpAny (model prog w) A (call (.type X) rest) Q E s := by
  refine wpAny_call (codeAny_of_tree ?_)
  show wpAny _ _ (callAny (.type X) ⟨rest, []⟩) _ _ s
  simp only [callAny]
  refine wpAny_pure ⟨Code.quiet_builtin _ (by decide +kernel), codeAny_builtin entry_type_call ?_⟩
  rw [Around.under_plain (weight_type_call X _ _) (by first | rfl | kernel_rfl | decide +kernel)]
  unfold Builtin.«type.__call__»
  dsimp only
  rw [if_neg (by rw [hc.notType]; exact Bool.false_ne_true), if_neg (by rw [hc.canNew]; exact Bool.false_ne_true)]
  obtain ⟨l, hl, hle⟩ := hc.mro
  refine wpAny_bind (wpAny_of_eq (hc.typeCall rest) (wpAny_bind (wpAny_of_eq hl ?_)))
  rw [if_neg (by rw [hle]; exact Bool.false_ne_true)]
  refine wpAny_bind (wpAny_of_eq hc.madeBy ?_)
  dsimp only
  refine wpAny_bind (wpAny_pure (wpAny_bind (wpAny_holding (new_exc hc ?_ hrest))))
  refine wpAny_bind (wpAny_isInstance (T := X) ⟨_, Heap.get?_push_size _ rfl, rfl⟩ hc.self ?_)
  simp only [Bool.not_true, Bool.false_eq_true, if_false]
  refine wpAny_bind (wpAny_holding (wpAny_callSpecial?_slot (name := Str.ofString "__init__") (T := X) ⟨_, Heap.get?_push_size _ rfl, rfl⟩ hc.init
    (init_exc hc (Heap.get?_push_size _ rfl) rfl rfl rfl ?_ hrest)))
  dsimp only
  rw [if_neg (by simp)]
  refine wpAny_pure (h _ _ ⟨fun b o hb => ?_, Heap.get?_none_of_le (by simp), s.heap.objs.size + 2, ?_, Heap.get?_none_of_le (by omega), ?_⟩)
  · rw [Heap.get?_update_other _ _ (Nat.ne_of_gt (Nat.lt_of_lt_of_le (Heap.lt_size hb) (by simp)))]
    exact Heap.get?_push_of_some _ (Heap.get?_push_of_some _ (Heap.get?_push_of_some _ hb))
  · rw [Heap.get?_update_self _ (Heap.get?_push_of_some _ (Heap.get?_push_size _ rfl)) (Obj.isFreed_of_fields (Obj.data_mapFields rfl _))]
    simp [Obj.mapFields]
  · rw [Heap.get?_update_other _ _ (by simp)]
    have hz : ∀ (p q t : Obj) (ht : t.isFreed = false), (((s.heap.push p).push q).push t).get? (s.heap.objs.size + 2) = some t := by
      intro p q t ht
      have := Heap.get?_push_size ((s.heap.push p).push q) (o := t) ht
      simpa [Heap.size_push] using this
    exact hz _ _ _ rfl
theorem Raise_key {x : Str} {e : Expr} {np cpos pos : Pos} {env : Env} {Q : Flow → Shared → Prop} (hh : A.handled = none)
    (h : wpAny (model prog w) A (eval (.Name x np) env) (fun f s₁ => f = .type "KeyError" ∧ wpAny (model prog w) A (eval e env)
      (fun v s₂ => ∀ h' e, Heap.MadeExcOf s₂.heap h' e (.type "KeyError") [v] → E (.ref e) { s₂ with heap := h' }) E s₁) E s)
    (hs : starEach [e] env = [(false, eval e env)] := by rfl) :
    wpAny (model prog w) A (exec (.Raise (some (.Call (.Name x np) [e] [] cpos)) none pos) env) Q E s := by
  refine Raise_new hh (Call_Name1 (wpAny_mono h (fun f s₁ h₁ => ?_) fun _ _ x => x) hs)
  obtain ⟨rfl, h₁⟩ := h₁
  refine PySem.callWith_type1 (wpAny_mono h₁ (fun v s₂ h₂ => ?_) fun _ _ x => x)
  refine call_made excClass_KeyError fun h' e hm => ?_
  obtain ⟨hk, hn, t, he, ht, ht'⟩ := id hm
  exact ⟨e, _, _, _, _, _, excClass_KeyError, rfl, he, rfl, rfl, rfl, h₂ h' e hm⟩
end
end At
end
section
open PySem PySem.W PySem.Calls PyProof.Rows Builtin Builtin.Str
set_option Elab.async false
set_option maxRecDepth 100000
set_option linter.unusedVariables false
namespace At
section
variable {prog : Program} {w : World} {A : Around} {E : Value → Shared → Prop} {s : Shared}
/-- an exception is made and raised: its args are known -/
theorem raise_made {α : Type} {M : Model} {cls : String} {args : List Value} {Q : α → Shared → Prop} (hp : PlainExc cls) (hh : A.handled = none)
    (h : ∀ h' e, Heap.MadeExcOf s.heap h' e (.type cls) args → E (.ref e) { s with heap := h' })
    (hsz : args.length ≤ sizeLine) :
    wpAny M A (do raiseNew (← newExc (.type cls) args) : Sem α) Q E s := by
  refine wpAny_bind ?_
  unfold newExc newTuple
  refine wpAny_bind (wpAny_newObj_type ?_ (show args.toArray.size ≤ sizeLine by simpa using hsz))
  refine wpAny_bind (m := firstArgMember _ _) (wpAny_of_eq (a := Value.none) (by simp only [firstArgMember, hp.first]; rfl) ?_)
  rw [hp.own]
  refine wpAny_newObj_type ?_ (by size_fits)
  unfold raiseNew
  refine wpAny_bind (wpAny_handled ?_)
  rw [hh]
  first
    | refine wpAny_throw ?_
    | refine wpAny_bind (wpAny_pure (wpAny_throw ?_))
  exact h _ _ ⟨fun b o hb => Heap.get?_push_of_some _ (Heap.get?_push_of_some _ hb), Heap.get?_none_of_le (by simp), s.heap.objs.size, Heap.get?_push_size _ rfl, Heap.get?_none_of_le (Nat.le_refl _), Heap.get?_push_of_some _ (Heap.get?_push_size _ rfl)⟩
theorem td_missing {d a : Addr} {xs : List Ent} {ep : Nat} {n : Nm} {Q : Value → Shared → Prop} (hu : A.units ≤ 9000) (hn : NameAt s.heap a n) (hdS : (d == sysModules) = false) (hh : A.handled = none) (hd : TD prog w s.heap d xs ep) (hl : look xs n = none)
    (h : ∀ h' e, Heap.MadeExcOf s.heap h' e (.type "KeyError") [.ref a] → E (.ref e) { s with heap := h', toks := s.toks + 3 }) : wpAny (model prog w) A (getItem (.ref d) (.ref a)) Q E s := by
  have hm := hd.dictH
  unfold getItem
  try with_reducible refine wpAny_holding ?_
  refine wpAny_bind (wpAny_sequenceKey hm.typeIs (by decide) ?_)
  refine wpAny_bind (wpAny_callSpecial?_slot (name := Str.ofString "__getitem__") hm.typeIs slot_dict_getitem
    (wpAny_call_entry slot_dict_getitem hm.typeIs entry_dict_getitem ?_ (args_dict_getitem _ _)))
  show wpAny _ _ (dictGet d (.ref a) >>= _) _ _ s
  refine wpAny_bind (wpAny_dictGet_heap (room1 hu) hn.key hm ?_)
  rw [atKey_look, hl]
  show wpAny _ _ (Builtin.Dict.missed d (.ref a) >>= _) _ _ _
  refine wpAny_bind (wpAny_missed_other hdS ?_)
  refine wpAny_bind (wpAny_typeOf (s := { s with toks := s.toks + 3 }) hm.typeIs ?_)
  show wpAny _ _ (if (Value.type "dict" != Value.type "dict") = true then _ else _) _ _ _
  rw [if_neg (by decide)]
  exact wpAny_bind (wpAny_rule (raise_made (A := A.in1) plainExc_KeyError hh h (by rw [sizeLine_eq]; exact Nat.le_of_ble_eq_true rfl)))
theorem td_sub_missing {d a : Addr} {xs : List Ent} {ep : Nat} {n : Nm} {value slice : PySem.Expr} {Q : Value → Shared → Prop} (hu : A.units ≤ 9000) (hn : NameAt s.heap a n) (hdS : (d == sysModules) = false) (hh : A.handled = none) (hd : TD prog w s.heap d xs ep) (hl : look xs n = none)
    (hs : subscripted slice false (.ref d) (.ref a) = operate [.ref d, .ref a] (getItem (.ref d) (.ref a))) (hg : ∀ r, letTemporaryGo value (.ref d) r = pure ())
    (h : ∀ h' e, Heap.MadeExcOf s.heap h' e (.type "KeyError") [.ref a] → E (.ref e) { s with heap := h', toks := s.toks + 3 }) : wpAny (model prog w) A (subscriptTail value slice (.ref d) (.ref a)) Q E s :=
  subscriptTail_builtin hd.dictH.typeIs slot_dict_getitem.lookup (td_missing hu hn hdS hh hd hl h) hs hg

/-- a call that raises: what flies -/
def Thrown (base : Heap) (outer : List Env) (x : Value) (s : Shared) (e : Value) (s' : Shared) : Prop :=
  ∃ ea t h' tk, e = .ref ea ∧ s' = { s with heap := h', toks := tk } ∧ RaisedS base s.heap outer ea (.type "KeyError") t [x] [] h' ∧ s.heap.UpToSlots h'
/-- how a body raises -/
def Raises1 (h₀ : Heap) (L : Addr) (x : Value) (s : Shared) (e : Value) (s' : Shared) : Prop :=
  ∃ ea h₂ h' tk m, e = .ref ea ∧ s' = { s with heap := h', toks := tk } ∧ Heap.MadeExcOf h₂ h' ea (.type "KeyError") [x] ∧ Fr h₀ L h₂ m
theorem call_throw {base : Heap} {outer : List Env} {x : Value} {K : Frag} {name qual : Str} {params : Arguments} {body : List Stmt} {scope : Scope} {dV kV doc pm cdv ct oc : Value} {an od : Option Addr} {osl : Array (Option Value)} {f : Addr} {pos : List Value} {kw : List (Str × Value)} (binds : List (Str × Value))
    (B : Below A base outer s.heap) (X : K.In s.heap) (hlim : s.heap.NoLimit)
    (ho : K.lookup f = some ⟨oc, od, .func (fnOf name qual params body scope dV kV doc pm an cdv ct), osl⟩) (hcd : codeIn K cdv qual = true) (hroom : A.depth < recursionLimit)
    (hbind : BindsTo s (fnOf name qual params body scope dV kV doc pm an cdv ct) ⟨pos, kw⟩ binds) (hloc : ∀ y ∈ binds, scope.names.lookup y.1 = some .local)
    (hb : 0 < binds.length) (hcell : ∀ x ∈ scope.names, x.2 ≠ .cell) (hco : scope.isCoroutine = false) (hgen : scope.isGenerator = false) (hk : scope.kind = .function)
    (h : ∀ L h₁ tk, Fr s.heap L h₁ (fun y => binds.reverse.lookup y) → News s.heap L h₁ [] → L = s.heap.objs.size → 0 < tk →
      wpAny (model prog w) (A.deeper (envOf qual scope L f cdv)) (execs body (envOf qual scope L f cdv)) (fun _ _ => False) (Raises1 s.heap L x { s with heap := h₁, toks := tk }) { s with heap := h₁, toks := tk }) :
    codeAny (model prog w) A (.call (.ref f) ⟨pos, kw⟩) (fun r s' => match r with | .ok (.ret _) => False | .ok _ => False | .error e => Thrown base outer x s e s') s := by
  refine codeAny_call_def (fd := fnOf name qual params body scope dV kV doc pm an cdv ct) (body := body) (binds := binds) hroom (X _ _ ho) rfl hlim (codeRec_of X hcd) rfl hbind hcell hloc (fun h₁ hns hk₁ => ?_) hco hgen hk
  have F : Fr s.heap s.heap.objs.size h₁ (fun y => binds.reverse.lookup y) := ⟨hns, hk₁, Nat.le_refl _⟩
  refine wpAny_mono (h s.heap.objs.size h₁ _ F News.nil rfl (by show 0 < s.toks + binds.length; omega)) (fun _ _ x => x.elim) fun e s' hx => ?_
  obtain ⟨ea, h₂, h', tk, m, rfl, rfl, hm, F₂⟩ := hx
  refine leave_raiseS (s' := { s with heap := h', toks := tk }) B hm F₂ (News.nil (h₀ := s.heap)) (fun h₃ t hr _ hu => ?_) hk
  exact ⟨ea, t, h₃, tk, rfl, rfl, hr, hu⟩
end
local macro_rules | `(tactic| walk_at "subscriptTail Name Name ref ref") => `(tactic| fail "by hand")
section
variable {prog : Program} {w : World} {A : Around} {s : Shared} {base : Heap} {outer : List Env} {r dv dq a : Addr} {xs ys : List Ent} {n : Nm}
set_option maxHeartbeats 1000000 in
theorem th_getValue (K : Below A base outer s.heap) (hh : A.handled = none) (hdp : A.depth ≤ 500) (hun : A.units ≤ 3000) (B : Base w s.heap) (R : NSRd prog w s.heap r dv dq xs ys) (hn : NameAt s.heap a n) (hl : look xs n = none) :
    codeAny (model prog w) A (.call (.ref 49) ⟨[.ref r, .ref a], []⟩) (fun r s' => match r with | .ok (.ret _) => False | .ok _ => False | .error e => Thrown base outer (.ref a) s e s') s := by
  obtain ⟨X, p, loose, mean, mg, mb, T⟩ := id B
  obtain ⟨dx, t, u, hr, hdx⟩ := R.inst
  have I := inst_of hr hdx
  obtain ⟨ep, V⟩ := R.vals
  have hvS := R.vS
  refine' call_throw [(Str.ofString "self", .ref r), (Str.ofString "name", .ref a)] K ?kX ?kT ?ko ?kc ?kr ?kb ?kl ?k0 ?c1 ?c2 ?c3 ?c4 ?_
  (case kX => assumption); (case kT => exact Top.nolimit (by assumption)); (case ko => k_is); (case kc => k_is); (case kr => show A.depth < 1000; omega); (case kb => first | exact BindsTo.of_eq rfl | exact binds_K (by assumption) rfl (by k_is) rfl rfl rfl); (case kl => exact locs rfl); (case k0 => exact Nat.zero_lt_succ _); (case c1 => decide); (case c2 => rfl); (case c3 => rfl); (case c4 => rfl)
  intro L h₁ tk F N hL htk
  try dsimp only
  walk_at "zz go"
  have F9 := (by assumption : Fr s.heap _ _ _)
  refine td_sub_missing (A := A.deeper _) (n := n) (xs := xs) (ep := ep) (show A.units + 3 ≤ 9000 by omega) (hn.keeps F9.keep) hvS hh (V.keeps F9.keep) hl (by with_unfolding_all rfl) (by intro _; with_unfolding_all rfl) ?_
  intro h' e hx
  exact ⟨e, _, h', _, _, rfl, rfl, hx, F9⟩
set_option maxHeartbeats 1000000 in
theorem th_getQName (K : Below A base outer s.heap) (hh : A.handled = none) (hdp : A.depth ≤ 500) (hun : A.units ≤ 3000) (B : Base w s.heap) (R : NSRd prog w s.heap r dv dq xs ys) (hn : NameAt s.heap a n) (hl : look ys n = none) :
    codeAny (model prog w) A (.call (.ref 183) ⟨[.ref r, .ref a], []⟩) (fun r s' => match r with | .ok (.ret _) => False | .ok _ => False | .error e => Thrown base outer (.ref a) s e s') s := by
  obtain ⟨X, p, loose, mean, mg, mb, T⟩ := id B
  obtain ⟨dx, t, u, hr, hdx⟩ := R.inst
  have I := inst_of hr hdx
  obtain ⟨ep, V⟩ := R.qns
  have hvS := R.qS
  refine' call_throw [(Str.ofString "self", .ref r), (Str.ofString "name", .ref a)] K ?kX ?kT ?ko ?kc ?kr ?kb ?kl ?k0 ?c1 ?c2 ?c3 ?c4 ?_
  (case kX => assumption); (case kT => exact Top.nolimit (by assumption)); (case ko => k_is); (case kc => k_is); (case kr => show A.depth < 1000; omega); (case kb => first | exact BindsTo.of_eq rfl | exact binds_K (by assumption) rfl (by k_is) rfl rfl rfl); (case kl => exact locs rfl); (case k0 => exact Nat.zero_lt_succ _); (case c1 => decide); (case c2 => rfl); (case c3 => rfl); (case c4 => rfl)
  intro L h₁ tk F N hL htk
  try dsimp only
  walk_at "zz go"
  have F9 := (by assumption : Fr s.heap _ _ _)
  refine td_sub_missing (A := A.deeper _) (n := n) (xs := ys) (ep := ep) (show A.units + 3 ≤ 9000 by omega) (hn.keeps F9.keep) hvS hh (V.keeps F9.keep) hl (by with_unfolding_all rfl) (by intro _; with_unfolding_all rfl) ?_
  intro h' e hx
  exact ⟨e, _, h', _, _, rfl, rfl, hx, F9⟩
set_option maxHeartbeats 1000000 in
theorem th_getNameByQName (K : Below A base outer s.heap) (hh : A.handled = none) (hdp : A.depth ≤ 500) (hun : A.units ≤ 3000) (B : Base w s.heap) (R : NSRd prog w s.heap r dv dq xs ys) {z : Str} {k : Nat} (hl : ∀ y ∈ ys, y.val ≠ z) :
    codeAny (model prog w) A (.call (.ref 176) ⟨[.ref r, .str z k], []⟩) (fun r s' => match r with | .ok (.ret _) => False | .ok _ => False | .error e => Thrown base outer (.str z k) s e s') s := by
  obtain ⟨X, p, loose, mean, mg, mb, T⟩ := id B
  obtain ⟨dx, t, u, hr, hdx⟩ := R.inst
  have I := inst_of hr hdx
  obtain ⟨eq, U⟩ := R.qns
  have hraq := U.raw
  have hqS := R.qS
  refine' call_throw [(Str.ofString "self", .ref r), (Str.ofString "name", .str z k)] K ?kX ?kT ?ko ?kc ?kr ?kb ?kl ?k0 ?c1 ?c2 ?c3 ?c4 ?_
  (case kX => assumption); (case kT => exact Top.nolimit (by assumption)); (case ko => k_is); (case kc => k_is); (case kr => show A.depth < 1000; omega); (case kb => first | exact BindsTo.of_eq rfl | exact binds_K (by assumption) rfl (by k_is) rfl rfl rfl); (case kl => exact locs rfl); (case k0 => exact Nat.zero_lt_succ _); (case c1 => decide); (case c2 => rfl); (case c3 => rfl); (case c4 => rfl)
  intro L h₁ tk F N hL htk
  try dsimp only
  walk_at "zz go"
  have N9 := (by assumption : News s.heap _ _ _)
  refine iter_items (x := Str.ofString "nsname") (y := Str.ofString "qname") hh rfl rfl rfl (N9 _ (.head _)).1 (fun h k => k.1 _ _ hraq) (by assumption) N9 (fun i m => m "self" = some (.ref r) ∧ m "name" = some (.str z k)) ⟨rfl, rfl⟩ ?_ ?_
  · intro i e m₁ h tk o hi hJ F₁ N₁
    obtain ⟨hs, hnm⟩ := hJ
    obtain ⟨y, hyi, rfl⟩ : ∃ y, ys[i]? = some y ∧ e = entOf prog w y := by
      rw [List.getElem?_toArray, List.getElem?_map] at hi
      cases hy : ys[i]? with
      | none => rw [hy] at hi; cases hi
      | some y => rw [hy] at hi; exact ⟨y, rfl, (Option.some.inj hi).symm⟩
    dsimp only at F₁
    have hne := hl y (List.mem_of_getElem? hyi)
    walk_at "zz go"
    · exact absurd (eq_of_beq (by assumption)) hne
    · exact PurePost.next F₁ N₁ (fun _ hp => hp) ⟨hs, hnm⟩
  · intro h' tk' m' F' N' hJ
    obtain ⟨hs, hnm⟩ := hJ
    walk_at "zz go"
    refine Raise_key hh ?_
    refine' name_B F' ?k1 ?k2 ?k3 ?k4 ?k5 ?_
    (case k1 => k_asm); (case k2 => k_asm); (case k3 => k_is); (case k4 => boot_by_name); (case k5 => decide)
    refine ⟨rfl, ?_⟩
    walk_at "zz go"
    next h₂ e₂ hx => exact ⟨e₂, _, h₂, _, _, rfl, rfl, hx, F'⟩
set_option maxHeartbeats 1000000 in
theorem th_getValueByQName (K : Below A base outer s.heap) (hh : A.handled = none) (hdp : A.depth ≤ 500) (hun : A.units ≤ 3000) (B : Base w s.heap) (R : NSRd prog w s.heap r dv dq xs ys) {z : Str} {k : Nat} (hl : ∀ y ∈ ys, y.val ≠ z) :
    codeAny (model prog w) A (.call (.ref 169) ⟨[.ref r, .str z k], []⟩) (fun r s' => match r with | .ok (.ret _) => False | .ok _ => False | .error e => Thrown base outer (.str z k) s e s') s := by
  obtain ⟨X, p, loose, mean, mg, mb, T⟩ := id B
  obtain ⟨dx, t, u, hr, hdx⟩ := R.inst
  have I := inst_of hr hdx
  obtain ⟨eq, U⟩ := R.qns
  have hraq := U.raw
  have hqS := R.qS
  refine' call_throw [(Str.ofString "self", .ref r), (Str.ofString "name", .str z k)] K ?kX ?kT ?ko ?kc ?kr ?kb ?kl ?k0 ?c1 ?c2 ?c3 ?c4 ?_
  (case kX => assumption); (case kT => exact Top.nolimit (by assumption)); (case ko => k_is); (case kc => k_is); (case kr => show A.depth < 1000; omega); (case kb => first | exact BindsTo.of_eq rfl | exact binds_K (by assumption) rfl (by k_is) rfl rfl rfl); (case kl => exact locs rfl); (case k0 => exact Nat.zero_lt_succ _); (case c1 => decide); (case c2 => rfl); (case c3 => rfl); (case c4 => rfl)
  intro L h₁ tk F N hL htk
  try dsimp only
  walk_at "zz go"
  have N9 := (by assumption : News s.heap _ _ _)
  refine iter_items (x := Str.ofString "nsname") (y := Str.ofString "qname") hh rfl rfl rfl (N9 _ (.head _)).1 (fun h k => k.1 _ _ hraq) (by assumption) N9 (fun i m => m "self" = some (.ref r) ∧ m "name" = some (.str z k)) ⟨rfl, rfl⟩ ?_ ?_
  · intro i e m₁ h tk o hi hJ F₁ N₁
    obtain ⟨hs, hnm⟩ := hJ
    obtain ⟨y, hyi, rfl⟩ : ∃ y, ys[i]? = some y ∧ e = entOf prog w y := by
      rw [List.getElem?_toArray, List.getElem?_map] at hi
      cases hy : ys[i]? with
      | none => rw [hy] at hi; cases hi
      | some y => rw [hy] at hi; exact ⟨y, rfl, (Option.some.inj hi).symm⟩
    dsimp only at F₁
    have hne := hl y (List.mem_of_getElem? hyi)
    walk_at "zz go"
    · exact absurd (eq_of_beq (by assumption : (y.val == z) = true)) hne
    · exact PurePost.next F₁ N₁ (fun _ hp => hp) ⟨hs, hnm⟩
  · intro h' tk' m' F' N' hJ
    obtain ⟨hs, hnm⟩ := hJ
    walk_at "zz go"
    refine Raise_key hh ?_
    refine' name_B F' ?k1 ?k2 ?k3 ?k4 ?k5 ?_
    (case k1 => k_asm); (case k2 => k_asm); (case k3 => k_is); (case k4 => boot_by_name); (case k5 => decide)
    refine ⟨rfl, ?_⟩
    walk_at "zz go"
    next h₂ e₂ hx => exact ⟨e₂, _, h₂, _, _, rfl, rfl, hx, F'⟩
end
end At
end
section
open PySem PySem.W PySem.Calls PyProof.Rows Builtin Builtin.Str
set_option Elab.async false
set_option maxRecDepth 100000
set_option linter.unusedVariables false
namespace At
section
variable {prog : Program} {w : World} {A : Around} {E : Value → Shared → Prop} {s : Shared} {r dv dq : Addr} {xs ys : List Ent}
set_option maxHeartbeats 1000000 in
theorem ns_copyR (B : Base w s.heap) (R : NSRd prog w s.heap r dv dq xs ys) :
    Does (model prog w) (Lv 14) (call (.ref 197) [.ref r]) s (fun v h' => ∃ (r' : Addr) (objs : List (Addr × Obj)), v = .ref r' ∧ Fresh s.heap h' objs ∧ ∀ H, Has objs H → NSRd prog w H r dv dq xs ys → NSRd prog w H r' dv dq xs ys) := by
  refine does_intro fun Q hret => ?_
  obtain ⟨X, p, loose, mean, mg, mb, T⟩ := id B
  obtain ⟨dx, t, u, hr, hdx⟩ := R.inst
  have I := inst_of hr hdx
  obtain ⟨ep, V⟩ := R.vals
  obtain ⟨eq, U⟩ := R.qns
  have hraw := V.raw
  have hraq := U.raw
  have hvS := R.vS
  have hqS := R.qS
  have hsz : (xs.map (entOf prog w)).toArray.size ≤ sizeLine := by have := R.vl; simp [sizeLine_eq]; omega
  have hsq : (ys.map (entOf prog w)).toArray.size ≤ sizeLine := by have := R.ql; simp [sizeLine_eq]; omega
  have hs63 : (xs.map (entOf prog w)).toArray.size < 2 ^ 63 := by have := R.vl; simp; omega
  refine' call_fn2 [(Str.ofString "self", .ref r)] ?kX ?kT ?ko ?kc ?kr ?kb ?kl ?k0 ?c1 ?c2 ?c3 ?c4 ?_
  walk_at "zz enter"
  walk_at "zz go"
  refine ns_make B (by assumption) (by assumption) rfl (Nat.le_of_ble_eq_true rfl) (Nat.le_of_ble_eq_true rfl) ?_
  intro x dx' h' tk t' u' F N hne hlt
  exact hret _ _ _ F.keep ⟨x, [(x, instObj 200 dx'), (dx', dictOf (nsE w t' u' dv dq) 2)], rfl, fun p hp => ⟨(N p hp).1, (N p hp).2.2⟩, fun H hH R' => ⟨⟨dx', t', u', hH _ (.head _), hH _ (.tail _ (.head _))⟩, R'.vals, R'.qns, R'.vS, R'.qS, R'.vl, R'.ql⟩⟩
end
end At
end
section
open PySem PySem.W PySem.Calls PyProof.Rows Builtin
set_option Elab.async false
set_option maxRecDepth 100000
namespace At
theorem attr_KeyError : ExcAttrFacts "KeyError" where
  ga := .of (owner := "BaseException") (n := "__getattribute__") (by rw [typeLookup_type, builtinLookup_eq_fast]; kernel_rfl) (by decide +kernel) (by decide +kernel) (by decide +kernel)
    (by first | exact .inl (by decide +kernel) | exact .inr (by decide +kernel)) (by rw [isSubtype_type]; kernel_rfl)
  lkArgs := by rw [typeLookup_type, builtinLookup_eq_fast]; kernel_rfl
  sub := by rw [isSubtype_type]; kernel_rfl
end At
end
section
open PySem PySem.W PySem.Calls PyProof.Rows Builtin Builtin.Str
set_option Elab.async false
set_option maxRecDepth 100000
set_option linter.unusedVariables false
namespace At
/-! plain data: what the lists read as, and when they are equal -/
abbrev dN (n : Nm) : PyData := .tuple [.str n.1, .str n.2]
abbrev dP (p : Nm × Str) : PyData := .tuple [dN p.1, .str p.2]
abbrev dQ (p : Str × Str) : PyData := .tuple [.str p.1, .str p.2]
theorem eqvS (a b : Str) : PyData.eqv (.str a) (.str b) = decide (a = b) := by
  rw [PyData.eqv]
  by_cases h : a = b
  · subst h; simp
  · simp [h]
theorem eqvN (a b : Nm) : PyData.eqv (dN a) (dN b) = decide (a = b) := by
  obtain ⟨x, y⟩ := a; obtain ⟨u, v⟩ := b
  simp only [dN, PyData.eqv, PyData.eqvAll]
  by_cases h1 : x = u <;> by_cases h2 : y = v <;> simp [h1, h2]
theorem eqvP (a b : Nm × Str) : PyData.eqv (dP a) (dP b) = decide (a = b) := by
  obtain ⟨x, y⟩ := a; obtain ⟨u, v⟩ := b
  show PyData.eqvAll [dN x, .str y] [dN u, .str v] = _
  rw [PyData.eqvAll, PyData.eqvAll, PyData.eqvAll, eqvN, eqvS]
  by_cases h1 : x = u <;> by_cases h2 : y = v <;> simp [h1, h2]
theorem eqvQ (a b : Str × Str) : PyData.eqv (dQ a) (dQ b) = decide (a = b) := eqvN a b
theorem eqvL {α : Type} [DecidableEq α] (f : α → PyData) (hf : ∀ a b, PyData.eqv (f a) (f b) = decide (a = b)) : ∀ xs ys : List α, PyData.eqvAll (xs.map f) (ys.map f) = decide (xs = ys)
  | [], [] => by simp [PyData.eqvAll]
  | [], _ :: _ => by simp [PyData.eqvAll]
  | _ :: _, [] => by simp [PyData.eqvAll]
  | x :: xs, y :: ys => by
    rw [List.map_cons, List.map_cons, PyData.eqvAll, hf, eqvL f hf xs ys]
    by_cases h1 : x = y <;> by_cases h2 : xs = ys <;> simp [h1, h2]
theorem eqv_list {α : Type} [DecidableEq α] (f : α → PyData) (hf : ∀ a b, PyData.eqv (f a) (f b) = decide (a = b)) (xs ys : List α) : PyData.eqv (.list (xs.map f)) (.list (ys.map f)) = decide (xs = ys) := by
  rw [PyData.eqv]; exact eqvL f hf xs ys
theorem any_eqv {α : Type} [DecidableEq α] (f : α → PyData) (hf : ∀ a b, PyData.eqv (f a) (f b) = decide (a = b)) (xs : List α) (y : α) : (xs.map f).any (fun z => PyData.eqv z (f y)) = decide (y ∈ xs) := by
  induction xs with
  | nil => simp
  | cons x r ih =>
    rw [List.map_cons, List.any_cons, ih, hf]
    by_cases h1 : y = x
    · subst h1; simp
    · have : x ≠ y := fun e => h1 e.symm
      simp [h1, this]
open PySem.SeqAt in
theorem shapedS {x : Str} (h : okS x) : shaped (.str x) = true := by unfold shaped; rw [okS_lay h]; simp [PyData.depth]
open PySem.SeqAt in
/-- a datum that may stand in a list -/
def Lay (d : PyData) : Prop := d.canLay0 = true ∧ d.depth ≤ 60
theorem Lay.s {x : Str} (h : okS x) : Lay (.str x) := ⟨okS_lay h, by simp [PyData.depth]⟩
theorem Lay.n {n : Nm} (h1 : okS n.1) (h2 : okS n.2) : Lay (dN n) := ⟨by simp [dN, PyData.canLay0, PyData.canLayAll0]; exact ⟨h1, h2⟩, by simp [dN, PyData.depth, PyData.depthAll]⟩
theorem Lay.p {p : Nm × Str} (h1 : okS p.1.1) (h2 : okS p.1.2) (h3 : okS p.2) : Lay (dP p) := ⟨by simp [dP, dN, PyData.canLay0, PyData.canLayAll0]; exact ⟨⟨h1, h2⟩, h3⟩, by simp [dP, dN, PyData.depth, PyData.depthAll]⟩
theorem Lay.q {p : Str × Str} (h1 : okS p.1) (h2 : okS p.2) : Lay (dQ p) := Lay.n (n := p) h1 h2
theorem Lay.shaped {d : PyData} (h : Lay d) : SeqAt.shaped d = true := by
  unfold SeqAt.shaped; rw [h.1]; simp; exact Nat.le_trans h.2 (by decide)
theorem Lay.list {α : Type} (f : α → PyData) {xs : List α} (h : ∀ x ∈ xs, Lay (f x)) : SeqAt.shaped (.list (xs.map f)) = true := by
  have h1 : PyData.canLayAll0 (xs.map f) = true ∧ PyData.depthAll (xs.map f) ≤ 60 := by
    induction xs with
    | nil => exact ⟨rfl, Nat.zero_le _⟩
    | cons x r ih =>
      obtain ⟨a, b⟩ := ih fun z hz => h z (.tail _ hz)
      obtain ⟨c, d⟩ := h x (.head _)
      exact ⟨by rw [List.map_cons, PyData.canLayAll0, a, c]; rfl, by rw [List.map_cons, PyData.depthAll]; exact Nat.max_le.mpr ⟨d, b⟩⟩
  unfold SeqAt.shaped
  rw [PyData.canLay0, h1.1, PyData.depth]
  simp
  omega
theorem Lay.tup1 {d : PyData} (h : Lay d) : SeqAt.shaped (.tuple [d]) = true := by
  unfold SeqAt.shaped
  rw [PyData.canLay0, PyData.canLayAll0, PyData.canLayAll0, h.1, PyData.depth, PyData.depthAll, PyData.depthAll]
  have := h.2
  simp
  omega
theorem readsAll_of {h : Heap} : ∀ (vs : List Value) (ds : List PyData), vs.length = ds.length → (∀ (i : Nat) v d, vs[i]? = some v → ds[i]? = some d → ∃ as, Reads h v d as) → ∃ as, ReadsAll h vs ds as
  | [], [], _, _ => ⟨_, .nil⟩
  | [], _ :: _, e, _ => by cases e
  | _ :: _, [], e, _ => by cases e
  | v :: vs, d :: ds, e, H => by
    obtain ⟨a, ha⟩ := H 0 v d rfl rfl
    obtain ⟨b, hb⟩ := readsAll_of vs ds (Nat.succ.inj e) fun i v d h1 h2 => H (i + 1) v d h1 h2
    exact ⟨_, .cons ha hb⟩
theorem reads_listOf {h : Heap} {l : Addr} {vs : List Value} {ds : List PyData} (hl : h.IsList l vs.toArray) (e : vs.length = ds.length) (H : ∀ (i : Nat) v d, vs[i]? = some v → ds[i]? = some d → ∃ as, Reads h v d as) : ∃ as, Reads h (.ref l) (.list ds) as := by
  obtain ⟨a, ha⟩ := readsAll_of vs ds e H
  obtain ⟨o, ho, hc, n, hd⟩ := hl
  exact ⟨_, .list ho hc hd ha⟩
theorem reads_map {h : Heap} {l : Addr} {α : Type} {xs : List α} (g : α → Value) (f : α → PyData) (hl : h.IsList l (xs.map g).toArray) (H : ∀ x ∈ xs, ∃ as, Reads h (g x) (f x) as) : ∃ as, Reads h (.ref l) (.list (xs.map f)) as :=
  reads_listOf hl (by simp) fun i v d h1 h2 => by
    rw [List.getElem?_map] at h1 h2
    cases hx : xs[i]? with
    | none => rw [hx] at h1; cases h1
    | some x =>
      rw [hx] at h1 h2
      obtain rfl := Option.some.inj h1
      obtain rfl := Option.some.inj h2
      exact H x (List.mem_of_getElem? hx)
theorem reads_pair {h : Heap} {a ka : Addr} {n : Nm} {v : Str} {t : Nat} (x : IsTup h a #[.ref ka, .str v t]) (y : NameAt h ka n) : ∃ as, Reads h (.ref a) (dP (n, v)) as := by
  obtain ⟨o, ho, hc, k, hd⟩ := x
  exact ⟨_, .tuple ho hc hd (.cons y.reads (.cons (.str v t) .nil))⟩
theorem reads_two {h : Heap} {a : Addr} {x y : Str} {t u : Nat} (k : IsTup h a #[.str x t, .str y u]) : ∃ as, Reads h (.ref a) (dQ (x, y)) as := by
  obtain ⟨o, ho, hc, k, hd⟩ := k
  exact ⟨_, .tuple ho hc hd (.cons (.str x t) (.cons (.str y u) .nil))⟩
end At
end
section
open PySem PySem.W PySem.Calls PyProof.Rows Builtin Builtin.Str
set_option Elab.async false
set_option maxRecDepth 100000
set_option linter.unusedVariables false
namespace At
section
variable {prog : Program} {w : World} {A : Around} {E : Value → Shared → Prop} {s : Shared}
theorem call_back {Q : Value → Shared → Prop} {K : Frag} {name qual : Str} {params : Arguments} {body : List Stmt} {scope : Scope} {dV kV doc pm cdv ct oc : Value} {an od : Option Addr} {osl : Array (Option Value)} {f : Addr} {pos : List Value} {kw : List (Str × Value)} (binds : List (Str × Value))
    (X : K.In s.heap) (hlim : s.heap.NoLimit)
    (ho : K.lookup f = some ⟨oc, od, .func (fnOf name qual params body scope dV kV doc pm an cdv ct), osl⟩) (hcd : codeIn K cdv qual = true) (hroom : A.depth < recursionLimit)
    (hbind : BindsTo s (fnOf name qual params body scope dV kV doc pm an cdv ct) ⟨pos, kw⟩ binds) (hloc : ∀ y ∈ binds, scope.names.lookup y.1 = some .local)
    (hb : 0 < binds.length) (hcell : ∀ x ∈ scope.names, x.2 ≠ .cell) (hco : scope.isCoroutine = false) (hgen : scope.isGenerator = false) (hk : scope.kind = .function)
    (h : ∀ L h₁ tk, Fr s.heap L h₁ (fun y => binds.reverse.lookup y) → News s.heap L h₁ [] → L = s.heap.objs.size → 0 < tk →
      wpAny (model prog w) (A.deeper (envOf qual scope L f cdv)) (execs body (envOf qual scope L f cdv)) (fun fl s' => Q (match fl with | .ret v => v | _ => .none) s') (fun _ _ => False) { s with heap := h₁, toks := tk }) :
    wpAny (model prog w) A (call (.ref f) pos kw) Q E s := by
  refine wpAny_call ?_
  refine codeAny_call_def (fd := fnOf name qual params body scope dV kV doc pm an cdv ct) (body := body) (binds := binds) hroom (X _ _ ho) rfl hlim (codeRec_of X hcd) rfl hbind hcell hloc (fun h₁ hns hk₁ => ?_) hco hgen hk
  have F : Fr s.heap s.heap.objs.size h₁ (fun y => binds.reverse.lookup y) := ⟨hns, hk₁, Nat.le_refl _⟩
  exact wpAny_mono (h s.heap.objs.size h₁ _ F News.nil rfl (by show 0 < s.toks + binds.length; omega)) (fun _ _ x => x) fun _ _ hx => hx.elim
theorem callWith_MM {M : Model} {K : Frag} {q g : Addr} {self : Value} {e : Expr} {rest : List Expr} {pos : Pos} {first : List Value} {env : Env} {Q : Value → Shared → Prop} (hf : fnIn K g = true) (h : wpAny M A (spliced (backTo pos (starEach (e :: rest) env))) (fun vs s₁ => MethP K q g self s₁.heap ∧ wpAny M A (call (.ref q) (first ++ vs)) Q E s₁) E s)
    (he : starEach (e :: rest) env = (false, eval e env) :: starEach rest env := by rfl) (hplain : (backTo pos (starEach rest env)).any (·.1) = false := by rfl) :
    wpAny M A (callWith pos (.ref q) first (backTo pos (starEach (e :: rest) env)) []) Q E s := by
  rw [he] at h ⊢
  exact callWith_of (by show ((false || (backTo pos (starEach rest env)).any (·.1)) || false) = false; rw [hplain]; rfl) (keeps_M hf) (evalArgs_plain h)
end
section
variable {prog : Program} {w : World} {A : Around} {E : Value → Shared → Prop} {s : Shared} {base : Heap} {outer : List Env} {f : Addr} {x : Value} {mo r : Addr}
/-- what a refused call leaves: nothing old is changed, but slots of the frames that stand -/
def Refused (outer : List Env) (s : Shared) (v : Value) (s' : Shared) : Prop :=
  v = .bool true ∧ ∃ h' tk g', s' = { s with heap := h', toks := tk } ∧ 0 < tk ∧ KtsTurn (outer.filterMap (·.frame)) s.heap g' ∧ ∀ b o, g'.get? b = some o → h'.get? b = some o
set_option maxHeartbeats 1000000 in
theorem law_refused (K : Below A base outer s.heap) (D : KtsDicts (outer.filterMap (·.frame)) s.heap) (XB : Base w base) {f r : Addr} (ho : s.heap.get? mo = some (methodObj (.ref f) (.ref r))) (hf : fnIn (hd.heap_1 w.params) f = true) {dx : PyData} (hx : ∀ H : Heap, (∀ b o, s.heap.get? b = some o → b ∉ outer.filterMap (·.frame) → H.get? b = some o) → ∃ as, Reads H x dx as) (hlay : Lay dx) (hh : A.handled = none) (hdp : A.depth ≤ 450) (hun : A.units ≤ 2000) (B : Base w s.heap)
    (hm : ∀ (A' : Around) (outer' : List Env) (s' : Shared), Below A' base outer' s'.heap → A'.handled = none → A'.depth ≤ 500 → A'.units ≤ 3000 → Base w s'.heap → s.heap.StaysIn s'.heap →
      codeAny (model prog w) A' (.call (.ref f) ⟨[.ref r, x], []⟩) (fun r s₁ => match r with | .ok (.ret _) => False | .ok _ => False | .error e => Thrown base outer' x s' e s₁) s') :
    wpAny (model prog w) A (call (.ref 285) [.ref mo, x]) (Refused outer s) E s := by
  obtain ⟨X, p, loose, mean, mg, mb, T⟩ := id B
  refine' call_back [(Str.ofString "call", .ref mo), (Str.ofString "name", x)] ?kX ?kT ?ko ?kc ?kr ?kb ?kl ?k0 ?c1 ?c2 ?c3 ?c4 ?_
  (case kX => assumption); (case kT => exact Top.nolimit (by assumption)); (case ko => k_is); (case kc => k_is); (case kr => show A.depth < 1000; omega); (case kb => first | exact BindsTo.of_eq rfl | exact binds_K (by assumption) rfl (by k_is) rfl rfl rfl); (case kl => exact locs rfl); (case k0 => exact Nat.zero_lt_succ _); (case c1 => decide); (case c2 => rfl); (case c3 => rfl); (case c4 => rfl)
  intro L h₁ tk F N hL htk
  try dsimp only
  walk_at "execs cons"
  refine wpAny_Try_except ?_
  walk_at "execs cons"
  walk_at "zz go"
  refine callWith_MM (K := hd.heap_1 w.params) (q := mo) (g := f) (self := .ref r) hf ?_
  walk_at "zz go"
  · exact ⟨F.keep _ _ ho, X.keeps F.keep⟩
  refine wpAny_call (method_call (F.keep _ _ ho) ?_)
  refine codeAny_mono (hm _ _ _ (K.push F rfl) hh (by show A.depth + 1 ≤ 500; omega) (by simp only [Around.deeper]; omega) (B.keeps F.keep) F.keep) ?_
  intro r₁ s₁ hr₁
  cases r₁ with
  | ok fl => cases fl <;> exact hr₁.elim
  | error e =>
    obtain ⟨ea, t, h', tk', rfl, rfl, hR, hU⟩ := hr₁
    dsimp only
    obtain ⟨XX, p₂, loose₂, mean₂, mg₂, mb₂, TB⟩ := id XB
    refine' caught_SB (T' := "KeyError") (g₀ := s.heap) hR F K hU XX TB D KtsTurn.refl ?ex PyProof.Rows.Boot.«KeyError» ?hn kr_isExc_KeyError kr_notTuple_KeyError ?hs ?_
    (case ex => k_is); (case hn => decide); (case hs => kts_sub)
    intro h₂ g₂ news₂ tk₂ T₂ F₂ N₂ G₂ N₃ K₂ X₂ P₂ D₂
    clear N₃
    walk_at "zz go"
    obtain ⟨oe, ot, ws, nt, he₁, ht₁, hoc, hod, hw0, htc, htd⟩ := id G₂
    refine args_attr attr_KeyError (N₂ _ he₁).1 hoc hod hw0 ?_
    walk_at "zz go"
    have N9 := (by assumption : News g₂ L _ _)
    have F9 := (by assumption : Fr g₂ L _ _)
    obtain ⟨as, rx⟩ := hx _ (fun b o e hb => F9.keep _ _ (T₂.other b o e hb))
    have e1 := (N9 _ (.tail _ ht₁)).1
    have e2 := (N9 _ (.head _)).1
    dsimp only at e1 e2 rx
    refine eq_dataH (da := .tuple [dx]) (db := .tuple [dx]) (.tuple e1 htc htd (.cons rx .nil)) (.tuple e2 rfl rfl (.cons rx .nil)) hlay.tup1 hlay.tup1 ?_ ?_
    · simp only [Around.deeper, Around.mark, cLine]; omega
    rw [show PyData.eqv (.tuple [dx]) (.tuple [dx]) = true by rw [SeqAt.eqv_refl _ (SeqAt.canLay_of_shaped hlay.tup1)]]
    walk_at "zz go"
    have F9 := (by assumption : Fr g₂ L _ _)
    exact ⟨rfl, _, _, g₂, rfl, Nat.succ_pos _, T₂, F9.keep⟩
end
end At
end
section
open PySem PySem.W PySem.Calls PyProof.Rows Builtin Builtin.Str
set_option Elab.async false
set_option maxRecDepth 100000
set_option linter.unusedVariables false
namespace At
/-! comprehensions over a list -/
section
variable {prog : Program} {w : World} {A : Around} {E : Value → Shared → Prop} {s : Shared} {env : Env} {h₀ : Heap} {m : Str → Option Value} {news : List (Addr × Obj)}
theorem all_true (l : List Value) : l.filter (fun _ => true) = l := by simp
/-- a name of the block's own -/
theorem block_name {scope : Scope} {C : Addr} {x : Str} {px : Pos} {v : Value} {m₂ : Str → Option Value} {Q : Value → Shared → Prop} (hn : s.heap.Ns C m₂) (hx : m₂ x = some v) (h : Q v s)
    (hk : scope.kind = .function := by rfl) (hl : scope.names.lookup x = some .local := by rfl) (hd : (x == ("__debug__" : Str)) = false := by decide) :
    wpAny (model prog w) A (eval (.Name x px) (compEnv scope C env)) Q E s := wpAny_Name (wpAny_loadName_local hk hl hn hx h) hd
theorem block_item {scope : Scope} {C t : Addr} {x : Str} {px pc pos : Pos} {c : Nat} {k : Int} {j : Nat} {v : Value} {its : List Value} {m₂ : Str → Option Value} {Q : Value → Shared → Prop} (hn : s.heap.Ns C m₂) (hx : m₂ x = some (.ref t)) (ht : s.heap.IsTuple t its.toArray)
    (hlo : -(2 ^ 63) ≤ k) (hhi : k < 2 ^ 63) (hj : seqIndex? k its.length = some j) (hv : its[j]? = some v) (h : ∀ tk, Q v { s with toks := tk })
    (hk : scope.kind = .function := by rfl) (hl : scope.names.lookup x = some .local := by rfl) (hd : (x == ("__debug__" : Str)) = false := by decide) :
    wpAny (model prog w) A (eval (.Subscript (.Name x px) (.Constant (.int k) c pc) pos) (compEnv scope C env)) Q E s := by
  refine Subscript_ (block_name hn hx ?_ hk hl hd)
  walk1
  refine item_tupleL ht hlo hhi hj hv (h _)
theorem keepsR {s s₁ : Shared} (k : s.heap.StaysIn s₁.heap) (e : ∃ h t, s₁ = { s with heap := h, toks := t }) : Keeps s s₁ := by
  obtain ⟨h, t, rfl⟩ := e; exact ⟨h, t, rfl, k⟩
/-- f(x) in the block, f a def of the text -/
theorem block_call {K : Frag} {scope : Scope} {C f : Addr} {fn x : Str} {pf px pos : Pos} {v : Value} {p : Program} {loose : List Str} {mean : ExcName → Option Value} {mg mb : Str → Option Value} {m₂ : Str → Option Value} {Q : Value → Shared → Prop}
    (X : K.In s.heap) (T : Top p loose mean mg mb s.heap) (hn : s.heap.Ns C m₂) (hx : m₂ x = some v) (hf : nsIn K mainGlobals fn = some (some (.ref f))) (hkp : keepIn K (.ref f) = true)
    (hg : env.globals = mainGlobals) (hgl : scope.names.lookup fn = some .globalImplicit) (h : wpAny (model prog w) A (call (.ref f) [v]) Q E s)
    (hk : scope.kind = .function := by rfl) (hl : scope.names.lookup x = some .local := by rfl) (hd : (x == ("__debug__" : Str)) = false := by decide) (hd' : (fn == ("__debug__" : Str)) = false := by decide) :
    wpAny (model prog w) A (eval (.Call (.Name fn pf) [.Name x px] [] pos) (compEnv scope C env)) Q E s := by
  refine Call_Name (trees := backTo pos (starEach [.Name x px] (compEnv scope C env))) rfl (Name_function_global hk hgl (loadGlobal_global (env := compEnv scope C env) (show s.heap.Ns env.globals mg from hg ▸ T.g) (mg_of X T.g hf) ?_) hd')
  refine callWith_K (K := K) (h₀ := s.heap) X hkp ?_
  exact spliced_more (block_name hn hx (spliced_none ⟨X, h⟩) hk hl hd)
/-- y = [elt for x in l] -/
theorem comp_assign {l : Addr} {vs : List Value} {elt iter : Expr} {x y : Str} {px py : Pos} {scope : Scope} {pos spos : Pos} {Q : Flow → Shared → Prop} (R : Value → Value → Prop)
    (hsw : swapsWith (.ListComp elt [⟨.Name x px, iter, [], 0⟩] scope pos) (some (.Name y py)) spos.line env = pure true)
    (hh : A.handled = none) (hfree : ∀ z ∈ scope.names, z.2 ≠ .free) (hcell : ∀ z ∈ scope.names, z.2 ≠ .cell) (hkind : scope.kind = .function)
    (hnames : ∀ z ∈ scope.names, z.2 = .local → scope.names.lookup z.1 = some .local) (hx : scope.names.lookup x = some .local) (hy : env.kindOf y = some .local) (hk : env.scope.kind = .function)
    (hs : ∀ x, foldedSetIterable iter env x = pure x)
    (F : Fr h₀ env.locals s.heap m) (N : News h₀ env.locals s.heap news) (hl : s.heap.IsList l vs.toArray) (hsz : vs.length ≤ 1000)
    (hi : ∀ Q' : Value → Shared → Prop, Q' (.ref l) s → wpAny (model prog w) A (eval iter env) Q' E s)
    (helt : ∀ C v (s₂ : Shared) m₂ E', v ∈ vs → s₂.heap.Ns C m₂ → m₂ x = some v → s.heap.StaysIn s₂.heap → wpAny (model prog w) A (eval elt (compEnv scope C env)) (fun z s₃ => R v z ∧ Keeps s₂ s₃) E' s₂)
    (h : ∀ D o c h' tk ys, Paired R vs ys → o.cls = .type "list" → o.data = .seq ys.toArray c → Fr h₀ env.locals h' (fun z => if z = y then some (.ref D) else m z) → News h₀ env.locals h' ((D, o) :: news) → (∀ p ∈ news, p.1 ≠ D) → Q .next { s with heap := h', toks := tk }) :
    wpAny (model prog w) A (exec (.Assign [.Name y py] (.ListComp elt [⟨.Name x px, iter, [], 0⟩] scope pos) spos) env) Q E s := by
  refine wpAny_Assign_ListComp_map (fun _ => true) R hsw hh hfree hcell hkind hnames hx hy (by rw [hk]; rfl) (hi _ ⟨l, vs.toArray, m, rfl, hl, by rw [sizeLine_eq]; simpa using Nat.le_trans hsz (by decide), F.ns, ?_, ?_, ?_⟩) hs
  · intro C v s₂ m₂ E' _ _ _ _
    exact wpAny_tests_nil ⟨rfl, _, _, rfl, fun _ _ e => e⟩
  · intro C v s₂ m₂ E' hv _ hn hm hk'
    exact helt C v s₂ m₂ E' (by simpa using hv) hn hm hk'
  · intro D h' tk ys hD hlD hF hns hkp
    obtain ⟨o, ho, hc, c, hd⟩ := hlD
    have hDL : D ≠ env.locals := by rintro rfl; obtain ⟨o', _, _, ho', _⟩ := F.ns; rw [hD] at ho'; cases ho'
    have k0 : h₀.StaysIn h' := fun b o e => hkp b o (fun q => by rw [q, kts_self F] at e; cases e) (F.keep b o e)
    rw [all_true] at hF
    have hF' : Paired R vs ys.toList := by simpa using hF
    refine h D o c h' tk ys.toList hF' hc (by simpa using hd) ⟨hns, k0, F.above⟩ (fun p hp => ?_) fun p hp e => ?_
    · rcases List.mem_cons.mp hp with rfl | hp
      · refine ⟨ho, hDL, ?_⟩
        cases q : h₀.get? D with
        | none => rfl
        | some o' => have := F.keep D o' q; rw [hD] at this; cases this
      · exact ⟨hkp _ _ (N p hp).2.1 (N p hp).1, (N p hp).2⟩
    · have := (N p hp).1
      rw [e, hD] at this; cases this
/-- [elt for x in l] -/
theorem comp_eval {l : Addr} {vs : List Value} {elt iter : Expr} {x : Str} {px : Pos} {scope : Scope} {pos : Pos} {Q : Value → Shared → Prop} (R : Value → Value → Prop)
    (hh : A.handled = none) (hfree : ∀ z ∈ scope.names, z.2 ≠ .free) (hcell : ∀ z ∈ scope.names, z.2 ≠ .cell) (hkind : scope.kind = .function)
    (hnames : ∀ z ∈ scope.names, z.2 = .local → scope.names.lookup z.1 = some .local) (hx : scope.names.lookup x = some .local)
    (hs : ∀ x, foldedSetIterable iter env x = pure x)
    (F : Fr h₀ env.locals s.heap m) (N : News h₀ env.locals s.heap news) (hl : s.heap.IsList l vs.toArray) (hsz : vs.length ≤ 1000)
    (hi : ∀ Q' : Value → Shared → Prop, Q' (.ref l) s → wpAny (model prog w) A (eval iter env) Q' E s)
    (helt : ∀ C v (s₂ : Shared) m₂ E', v ∈ vs → s₂.heap.Ns C m₂ → m₂ x = some v → s.heap.StaysIn s₂.heap → wpAny (model prog w) A (eval elt (compEnv scope C env)) (fun z s₃ => R v z ∧ Keeps s₂ s₃) E' s₂)
    (h : ∀ D o c h' tk ys, Paired R vs ys → o.cls = .type "list" → o.data = .seq ys.toArray c → Fr h₀ env.locals h' m → News h₀ env.locals h' ((D, o) :: news) → s.heap.StaysIn h' → (∀ p ∈ news, p.1 ≠ D) → Q (.ref D) { s with heap := h', toks := tk }) :
    wpAny (model prog w) A (eval (.ListComp elt [⟨.Name x px, iter, [], 0⟩] scope pos) env) Q E s := by
  refine wpAny_ListComp_map (fun _ => true) R hh hfree hcell hkind hnames hx (hi _ ⟨l, vs.toArray, rfl, hl, by rw [sizeLine_eq]; simpa using Nat.le_trans hsz (by decide), ?_, ?_, ?_⟩) hs
  · intro C v s₂ m₂ E' _ _ _ _
    exact wpAny_tests_nil ⟨rfl, _, _, rfl, fun _ _ e => e⟩
  · intro C v s₂ m₂ E' hv _ hn hm hk'
    exact helt C v s₂ m₂ E' (by simpa using hv) hn hm hk'
  · intro D h' tk ys hD hlD hF hkp
    obtain ⟨o, ho, hc, c, hd⟩ := hlD
    have hF' : Paired R vs ys.toList := by rw [all_true] at hF; simpa using hF
    exact h D o c h' tk ys.toList hF' hc (by simpa using hd) (F.keeps hkp) (news_add F (News.keeps N hkp) hD ho) hkp fun p hp e => by have := (N p hp).1; rw [e, hD] at this; cases this
/-- [(a, b, ..) for x in l]: new tuples -/
theorem comp_tups {l : Addr} {vs : List Value} {elt iter : Expr} {x : Str} {px : Pos} {scope : Scope} {pos : Pos} {Q : Value → Shared → Prop} (G : Value → Array Value → Prop)
    (hh : A.handled = none) (hfree : ∀ z ∈ scope.names, z.2 ≠ .free) (hcell : ∀ z ∈ scope.names, z.2 ≠ .cell) (hkind : scope.kind = .function)
    (hnames : ∀ z ∈ scope.names, z.2 = .local → scope.names.lookup z.1 = some .local) (hx : scope.names.lookup x = some .local)
    (hs : ∀ x, foldedSetIterable iter env x = pure x)
    (F : Fr h₀ env.locals s.heap m) (N : News h₀ env.locals s.heap news) (hl : s.heap.IsList l vs.toArray) (hsz : vs.length ≤ 1000)
    (hi : ∀ Q' : Value → Shared → Prop, Q' (.ref l) s → wpAny (model prog w) A (eval iter env) Q' E s)
    (helt : ∀ C v (s₂ : Shared) m₂ E', v ∈ vs → s₂.heap.Ns C m₂ → m₂ x = some v → s.heap.StaysIn s₂.heap →
      wpAny (model prog w) A (eval elt (compEnv scope C env)) (fun z s₃ => (∃ T its, z = .ref T ∧ s₂.heap.get? T = none ∧ s₃.heap.IsTuple T its ∧ G v its) ∧ Keeps s₂ s₃) E' s₂)
    (h : ∀ D o c h' tk ys, Paired (TupIs G h') vs ys → o.cls = .type "list" → o.data = .seq ys.toArray c → Fr h₀ env.locals h' m → News h₀ env.locals h' ((D, o) :: news) → s.heap.StaysIn h' → (∀ p ∈ news, p.1 ≠ D) → Q (.ref D) { s with heap := h', toks := tk }) :
    wpAny (model prog w) A (eval (.ListComp elt [⟨.Name x px, iter, [], 0⟩] scope pos) env) Q E s := by
  refine wpAny_ListComp_tup (fun _ => true) G hh hfree hcell hkind hnames hx (hi _ ⟨l, vs.toArray, rfl, hl, by rw [sizeLine_eq]; simpa using Nat.le_trans hsz (by decide), ?_, ?_, ?_⟩) hs
  · intro C v s₂ m₂ E' _ _ _ _
    exact wpAny_tests_nil ⟨rfl, _, _, rfl, fun _ _ e => e⟩
  · intro C v s₂ m₂ E' hv _ hn hm hk'
    exact helt C v s₂ m₂ E' (by simpa using hv) hn hm hk'
  · intro D h' tk ys hD hlD hF hkp
    obtain ⟨o, ho, hc, c, hd⟩ := hlD
    have hF' : Paired (TupIs G h') vs ys.toList := by rw [all_true] at hF; simpa using hF
    exact h D o c h' tk ys.toList hF' hc (by simpa using hd) (F.keeps hkp) (news_add F (News.keeps N hkp) hD ho) hkp fun p hp e => by have := (N p hp).1; rw [e, hD] at this; cases this
theorem Paired.at {α β : Type} {R : α → β → Prop} : ∀ {l₁ : List α} {l₂ : List β}, Paired R l₁ l₂ → l₁.length = l₂.length ∧ ∀ (i : Nat) a b, l₁[i]? = some a → l₂[i]? = some b → R a b
  | _, _, .nil => ⟨rfl, fun i a b h => by simp at h⟩
  | _, _, .cons h t => ⟨by simp [(Paired.at t).1], fun i a b h1 h2 => by
      cases i with
      | zero => simp at h1 h2; subst h1; subst h2; exact h
      | succ i => exact (Paired.at t).2 i a b (by simpa using h1) (by simpa using h2)⟩
end
end At
end
section
open PySem PySem.W PySem.Calls PyProof.Rows Builtin Builtin.Str
set_option Elab.async false
set_option maxRecDepth 100000
set_option linter.unusedVariables false
namespace At
section
variable {prog : Program} {w : World} {A : Around} {E : Value → Shared → Prop} {s : Shared} {h₀ : Heap}
/-- a def is entered above all but one frame -/
theorem call_over {L₀ : Addr} {oL : Obj} {K : Frag} {Q : Value → Shared → Prop} {name qual : Str} {params : Arguments} {body : List Stmt} {scope : Scope} {dV kV doc pm cdv ct oc : Value} {an od : Option Addr} {osl : Array (Option Value)} {f : Addr} {pos : List Value} {kw : List (Str × Value)} (binds : List (Str × Value))
    (k0 : h₀.StaysIn s.heap) (hz : h₀.objs.size = s.heap.objs.size) (hL0 : h₀.get? L₀ = none) (hL : s.heap.get? L₀ = some oL)
    (X : K.In h₀) (hlim : h₀.NoLimit)
    (ho : K.lookup f = some ⟨oc, od, .func (fnOf name qual params body scope dV kV doc pm an cdv ct), osl⟩) (hcd : codeIn K cdv qual = true) (hroom : A.depth < recursionLimit)
    (hbind : BindsTo s (fnOf name qual params body scope dV kV doc pm an cdv ct) ⟨pos, kw⟩ binds) (hloc : ∀ y ∈ binds, scope.names.lookup y.1 = some .local)
    (hcell : ∀ x ∈ scope.names, x.2 ≠ .cell) (hco : scope.isCoroutine = false) (hgen : scope.isGenerator = false) (hk : scope.kind = .function)
    (h : ∀ L h₁ tk, Fr h₀ L h₁ (fun y => binds.reverse.lookup y) → News h₀ L h₁ [(L₀, oL)] →
      wpAny (model prog w) (A.deeper (envOf qual scope L f cdv)) (execs body (envOf qual scope L f cdv)) (fun fl s' => Q (match fl with | .ret v => v | _ => .none) s') noE { s with heap := h₁, toks := tk }) :
    wpAny (model prog w) A (call (.ref f) pos kw) Q E s := by
  refine wpAny_call ?_
  have X₁ := X.keeps k0
  refine codeAny_call_def (fd := fnOf name qual params body scope dV kV doc pm an cdv ct) (body := body) (binds := binds) hroom (X₁ _ _ ho) rfl (hlim.keeps k0) (codeRec_of X₁ hcd) rfl hbind hcell hloc (fun h₁ hns hk₁ => ?_) hco hgen hk
  have hlt := Heap.lt_size hL
  refine wpAny_mono (h s.heap.objs.size h₁ _ ⟨hns, fun b o e => hk₁ b o (k0 b o e), Nat.le_of_eq hz⟩ (fun p hp => ?_)) (fun _ _ x => x) fun _ _ hx => hx.elim
  obtain rfl := List.mem_singleton.mp hp
  exact ⟨hk₁ _ _ hL, Nat.ne_of_lt hlt, hL0⟩
variable {env : Env} {m : Str → Option Value} {news : List (Addr × Obj)} {body : List Stmt}
theorem iter_rangeJ {r : Addr} {b : Int} {t u v : Tok} {x : Str} {px : Pos} {Q : Flow → Shared → Prop} (hh : A.handled = none) (hk : env.scope.kind = .function) (hx : env.kindOf x = some .local)
    (hr : IsRange s.heap r 0 b 1 t u v) (hb0 : 0 ≤ b) (hb : b ≤ 1000)
    (F : Fr h₀ env.locals s.heap m) (N : News h₀ env.locals s.heap news) (J : Nat → (Str → Option Value) → List (Addr × Obj) → Prop) (h0 : J 0 m news)
    (step : ∀ (I : Addr) (i : Nat) t m₁ news₁ h tk o, i < b.toNat → J i m₁ news₁ → (∀ p ∈ news₁, p.1 ≠ I) → Fr h₀ env.locals h (fun y => if y = x then some (.int (i : Nat) t) else m₁ y) → News h₀ env.locals h ((I, o) :: news₁) →
      wpAny (model prog w) A (execs body env) (TurnPost h₀ env.locals I o J i s Q) noE { s with heap := h, toks := tk })
    (hR : ∀ h' tk m' news', Fr h₀ env.locals h' m' → News h₀ env.locals h' news' → J b.toNat m' news' → Q .next { s with heap := h', toks := tk }) :
    wpAny (model prog w) A (pyIter (.ref r)) (fun it s₂ => codeAny (model prog w) A (.forLoop (.Name x px) it body [] env) (ForEnd prog w A env E Q) s₂) E s := by
  have hsz : Builtin.Range.rangeSize 0 b 1 = b := by
    unfold Builtin.Range.rangeSize
    by_cases h : 0 < b
    · simp [h]
    · have : b = 0 := by omega
      subst this; simp
  refine wpAny_pyIter_range hr ?_ ?_
  · exact small_one (by decide) (by decide) (by omega) (by omega)
  · rw [hsz]
    have e : ((b.toNat : Nat) : Int) = b := Int.toNat_of_nonneg hb0
    have hnI : ∀ p ∈ news, p.1 ≠ s.heap.objs.size := fun p hp => Nat.ne_of_lt (Heap.lt_size (N p hp).1)
    refine for_loop (s := { s with heap := s.heap.push _ }) (draws_range (n := b.toNat) hh (next_is_new F) hk hx) J (Heap.get?_push_size _ rfl) ?_ (Nat.ne_of_gt F.ns.lt) (next_is_new F) (F.push _)
      (fun p hp => ⟨Heap.get?_push_of_some _ (N p hp).1, (N p hp).2⟩) hnI (fun _ _ _ _ _ _ _ => trivial) h0 ?_ hR
    · rw [e]; simp
    · rintro i u m₁ news₁ h tk o hi ⟨t, rfl⟩ hJ hn F₁ N₁
      exact step _ i t m₁ news₁ h tk o hi hJ hn F₁ N₁
/-- a refused call, in a frame of the law's: all stands but the slots of the law's frame -/
theorem refused_in {e : Env} {L₀ L a mo f r : Addr} {oL : Obj} {name : Str} {scope : Scope} {cd x : Value} {all rest : List (Addr × Obj)} {dx : PyData} {es : Array DictEntry} {ep : Nat} {Q : Value → Shared → Prop}
    (hef : e.frame = some L₀) (hek : e.scope.kind ≠ .module) (hk : scope.kind = .function) (B : Base w h₀) (F : Fr h₀ L s.heap m) (N : News h₀ L s.heap all) (hL : (L₀, oL) ∈ all) (hdt : oL.data = .dict es ep)
    (hmo : (mo, methodObj (.ref f) (.ref r)) ∈ all) (hf : fnIn (hd.heap_1 w.params) f = true) (hx : ∀ H : Heap, h₀.StaysIn H → Has rest H → ∃ as, Reads H x dx as) (hlay : Lay dx)
    (hrest : ∀ p ∈ rest, p ∈ all ∧ p.1 ≠ L₀)
    (hm : ∀ (A' : Around) (outer' : List Env) (s' : Shared), Below A' h₀ outer' s'.heap → A'.handled = none → A'.depth ≤ 500 → A'.units ≤ 3000 → Base w s'.heap → s.heap.StaysIn s'.heap →
      codeAny (model prog w) A' (.call (.ref f) ⟨[.ref r, x], []⟩) (fun r s₁ => match r with | .ok (.ret _) => False | .ok _ => False | .error e => Thrown h₀ outer' x s' e s₁) s')
    (h : ∀ h' tk sl, Fr h₀ L h' m → News h₀ L h' ((L₀, { oL with slots := sl }) :: rest) → Q (.bool true) { s with heap := h', toks := tk }) :
    wpAny (model prog w) ((callerA.deeper e).deeper (envOf name scope L a cd)) (call (.ref 285) [.ref mo, x]) Q E s := by
  have hL1 := N _ hL
  obtain ⟨oT, esT, epT, hT, hdT, rT⟩ := id F.ns
  have hTn := kts_self F
  have K : Below ((callerA.deeper e).deeper (envOf name scope L a cd)) h₀ [envOf name scope L a cd, e] s.heap := by
    refine ⟨rfl, F.keep, ⟨?_, ⟨L, oT, rfl, hTn, hT, fun vs q => by rw [hdT] at q; cases q⟩, hek, ⟨L₀, oL, hef, hL1.2.2, hL1.1, fun vs q => by rw [hdt] at q; cases q⟩, trivial⟩⟩
    show scope.kind ≠ .module
    rw [hk]; decide
  have hfs : ([envOf name scope L a cd, e] : List Env).filterMap (·.frame) = [L, L₀] := by
    show [envOf name scope L a cd, e].filterMap (·.frame) = _
    rw [List.filterMap_cons, List.filterMap_cons, hef]; rfl
  refine wpAny_mono (law_refused (E := E) K ?_ B (N _ hmo).1 hf (dx := dx) ?_ hlay rfl (Nat.le_of_ble_eq_true rfl) (Nat.le_of_ble_eq_true rfl) (B.keeps F.keep) hm) ?_ fun _ _ x => x
  · rw [hfs]
    intro b hb
    simp only [List.mem_cons, List.not_mem_nil, or_false] at hb
    rcases hb with rfl | rfl
    · exact ⟨oT, esT, epT, hT, hdT⟩
    · exact ⟨oL, es, ep, hL1.1, hdt⟩
  · intro H hH
    rw [hfs] at hH
    have hn : ∀ b o, b ≠ L → b ≠ L₀ → s.heap.get? b = some o → H.get? b = some o := fun b o h1 h2 e => hH b o e (by simp only [List.mem_cons, List.not_mem_nil, or_false]; rintro (q | q); exact h1 q; exact h2 q)
    refine hx H (fun b o e => hn b o ?_ ?_ (F.keep b o e)) fun p hp => hn _ _ (N p (hrest p hp).1).2.1 (hrest p hp).2 (N p (hrest p hp).1).1
    · rintro rfl; rw [hTn] at e; cases e
    · rintro rfl; rw [hL1.2.2] at e; cases e
  · rintro v s' ⟨rfl, h', tk, g', rfl, _, T, k⟩
    rw [hfs] at T
    have hn : ∀ b o, b ≠ L → b ≠ L₀ → s.heap.get? b = some o → h'.get? b = some o := fun b o h1 h2 e => k _ _ (T.other b o e (by simp only [List.mem_cons, List.not_mem_nil, or_false]; rintro (q | q); exact h1 q; exact h2 q))
    obtain ⟨sl, hsl⟩ := T.frame L₀ oL hL1.1 (.tail _ (.head _))
    obtain ⟨slT, hslT⟩ := T.frame L oT hT (.head _)
    refine h h' tk sl ⟨⟨_, esT, epT, k _ _ hslT, hdT, rT⟩, fun b o e => hn b o ?_ ?_ (F.keep b o e), F.above⟩ fun p hp => ?_
    · rintro rfl; rw [hTn] at e; cases e
    · rintro rfl; rw [hL1.2.2] at e; cases e
    · rcases List.mem_cons.mp hp with rfl | hp
      · exact ⟨k _ _ hsl, hL1.2⟩
      · exact ⟨hn _ _ (N p (hrest p hp).1).2.1 (hrest p hp).2 (N p (hrest p hp).1).1, (N p (hrest p hp).1).2⟩
end
end At
end
section
open PySem PySem.W PySem.Calls PyProof.Rows Builtin Builtin.Str
set_option Elab.async false
set_option maxRecDepth 100000
set_option linter.unusedVariables false
namespace At
/-! steps that are held, and marks that are forgotten -/
theorem gen_any {α : Type} {M : Model} {A : Around} {c : Sem α} {Q : α → Shared → Prop} {E : Value → Shared → Prop} {a : Heap} {g : Array GenState} {st : Drawn} {tk : Nat} {wd : OsState}
    (h : ∀ tk', wpAny M A c Q E ⟨a, g, st, tk', wd⟩) : wpAny M A c Q E ⟨a, g, st, tk, wd⟩ := h tk
def Held (p : Prop) : Prop := p
theorem held {p : Prop} (h : Held p) : p := h
theorem Held.go {p : Prop} (h : p) : Held p := h
/-! the twenty names -/
def all20 : List Nm := nsS.flatMap fun x => locS.map fun y => (x, y)
theorem IsNm.mem {n : Nm} (h : IsNm n.1 n.2) : n ∈ all20 := by
  unfold all20
  exact List.mem_flatMap.mpr ⟨n.1, h.1, List.mem_map.mpr ⟨n.2, h.2, rfl⟩⟩
theorem IsNm.ok1 {x y : Str} (h : IsNm x y) : okS x := (show ∀ z ∈ nsS, okS z by decide +kernel) x h.1
theorem IsNm.ok2 {x y : Str} (h : IsNm x y) : okS y := (show ∀ z ∈ locS, okS z by decide +kernel) y h.2
theorem qn_all : ∀ n ∈ all20, okS (qn n.1 n.2) ∧ (qn n.1 n.2).length ≤ 3 ∧ 61 ∉ (qn n.1 n.2).cps.toList := by decide +kernel
theorem qn_inj20 : ∀ a ∈ all20, ∀ b ∈ all20, qn a.1 a.2 = qn b.1 b.2 → a = b := by decide +kernel
theorem qn_ok {n : Nm} (h : IsNm n.1 n.2) : okS (qn n.1 n.2) := (qn_all n h.mem).1
theorem qn_len {n : Nm} (h : IsNm n.1 n.2) : (qn n.1 n.2).length ≤ 3 := (qn_all n h.mem).2.1
theorem qn_61 {n : Nm} (h : IsNm n.1 n.2) : 61 ∉ (qn n.1 n.2).cps.toList := (qn_all n h.mem).2.2
theorem qn_inj {a b : Nm} (h : IsNm a.1 a.2) (k : IsNm b.1 b.2) (e : qn a.1 a.2 = qn b.1 b.2) : a = b := qn_inj20 a h.mem b k.mem e
end At
end
section
open PySem PySem.W PySem.Calls PyProof.Rows Builtin Builtin.Str At
set_option maxRecDepth 100000
set_option linter.unusedVariables false
local macro_rules | `(tactic| walk_at "execs cons") => `(tactic| (k_here; (refine gen_any ?_; intro tk; with_unfolding_all refine wpAny_execs_cons ?_)))
local macro_rules | `(tactic| walk_at "execs nil") => `(tactic| (k_here; (refine gen_any ?_; intro tk; with_unfolding_all refine wpAny_execs_nil ?_)))
local macro_rules | `(tactic| walk_at "eval ListComp") => `(tactic| refine held ?_)
local macro_rules | `(tactic| walk_at "exec For Tuple Name cons nil") => `(tactic| (with_unfolding_all refine wpAny_For ?_ (by intro _; rfl)))
local macro_rules | `(tactic| walk_at "exec For Name Name cons nil") => `(tactic| (with_unfolding_all refine wpAny_For ?_ (by intro _; rfl)))
local macro_rules | `(tactic| walk_at "zz useR") => `(tactic| ((case ur => exact NSRd.keeps (by assumption) (Fr.keep (by assumption))); walk_at "zz use"))
section
open PySem PySem.W PySem.Calls PyProof.Rows Builtin Builtin.Str
set_option Elab.async false
set_option maxRecDepth 100000
set_option linter.unusedVariables false
namespace At
theorem with_fn {K : Frag} {f : Addr} {name qual name' qual' : Str} {params params' : Arguments} {body body' : List Stmt} {scope scope' : Scope} {dV kV doc pm cdv ct oc dV' kV' doc' pm' cdv' ct' oc' : Value} {an od an' od' : Option Addr} {osl osl' : Array (Option Value)}
    (h2 : K.lookup f = some ⟨oc', od', .func (fnOf name' qual' params' body' scope' dV' kV' doc' pm' an' cdv' ct'), osl'⟩) (ho : K.lookup f = some ⟨oc, od, .func (fnOf name qual params body scope dV kV doc pm an cdv ct), osl⟩)
    {P : Str → List Stmt → Scope → Value → Prop} (h : P qual' body' scope' cdv') : P qual body scope cdv := by
  rw [h2] at ho
  cases ho
  exact h
theorem notin_names {prog : Program} {w : World} {A : Around} {E : Value → Shared → Prop} {s : Shared} {a l : Addr} {ns : List Nm} {n : Nm} {Q : Value → Shared → Prop} (ra : NameAt s.heap a n) (rl : ∃ as, Reads s.heap (.ref l) (.list (ns.map dN)) as) (h1 : ∀ n ∈ ns, IsNm n.1 n.2) (h2 : IsNm n.1 n.2) (hu : A.units ≤ 9000)
    (h : Q (.bool (!decide (n ∈ ns))) s) : wpAny (model prog w) A (compareOp .NotIn (.ref a) (.ref l)) Q E s := by
  obtain ⟨as, rl⟩ := rl
  have l1 := Lay.list dN fun n hn => Lay.n (h1 n hn).ok1 (h1 n hn).ok2
  have l2 := (Lay.n h2.ok1 h2.ok2).shaped
  refine SeqAt.notIn_list_reads rl ra.reads (SeqAt.canLay_of_shaped l1) (SeqAt.canLay_of_shaped l2) (room_in_shaped l2 (by unfold cLine; omega)) ?_
  rw [any_eqv dN eqvN]
  rw [decide_eq_decide.mpr Iff.rfl]
  exact h
set_option maxHeartbeats 4000000 in
theorem told_C {prog : Program} {w : World} {s : Shared} {h₀ : Heap} {e : Env} {L₀ L r dv dq D : Addr} {oL o : Obj} {c : Nat} {rs : List PRow} {ys : List Ent} {es : Array DictEntry} {ep : Nat} {m : Str → Option Value} {Q : Value → Shared → Prop}
    {name qual : Str} {params : Arguments} {body : List Stmt} {scope : Scope} {dV kV doc pm cdv ct oc : Value} {an od : Option Addr} {osl : Array (Option Value)}
    (ho : (hd.heap_1 w.params).lookup 290 = some ⟨oc, od, .func (fnOf name qual params body scope dV kV doc pm an cdv ct), osl⟩)
    (B : Base w h₀) (hdt : oL.data = .dict es ep) (hef : e.frame = some L₀) (hek : e.scope.kind ≠ .module)
    (R : NSRd prog w h₀ r dv dq (rs.map PRow.ent) ys) (hrow : RowsIn h₀ rs) (nd : (rs.map (·.nm)).Nodup) (h8 : rs.length ≤ 8)
    (hnm : ∀ x ∈ rs, IsNm x.nm.1 x.nm.2) (hys : ys.map (fun y => (y.nm, y.ka, y.val)) = rs.map (fun x => (x.nm, x.ka, qn x.nm.1 x.nm.2)))
    (hoc : o.cls = .type "list") (hod : o.data = .seq (rs.map fun x => Value.ref x.ka).toArray c)
    (F : Fr h₀ L s.heap m) (N : News h₀ L s.heap [(D, o), (L₀, oL)]) (hDL : D ≠ L₀) (hm1 : m "reader" = some (.ref r)) (hm2 : m "names" = some (.ref D))
    (hQ : ∀ h' tk sl, h₀.StaysIn h' → h'.get? L₀ = some { oL with slots := sl } → Q (.bool true) { s with heap := h', toks := tk }) :
    wpAny (model prog w) ((callerA.deeper e).deeper (envOf qual scope L 290 cdv)) (execs (body.drop 4) (envOf qual scope L 290 cdv)) (fun fl s' => Q (match fl with | .ret v => v | _ => .none) s') noE s := by
  obtain ⟨X, p, loose, mean, mg, mb, T⟩ := id B
  refine' with_fn (P := fun qual body scope cdv => wpAny (model prog w) ((callerA.deeper e).deeper (envOf qual scope L 290 cdv)) (execs (body.drop 4) (envOf qual scope L 290 cdv)) (fun fl s' => Q (match fl with | .ret v => v | _ => .none) s') noE s) ?h2 ho ?_
  (case h2 => k_is)
  clear ho
  dsimp only [List.drop]
  walk_at "zz go"
  rename_i hr F2 N2 _
  have hyn : ys.map (·.nm) = rs.map (·.nm) := by
    have := congrArg (List.map (·.1)) hys
    simpa [List.map_map, Function.comp_def] using this
  have hxn : (rs.map PRow.ent).map (·.nm) = rs.map (·.nm) := by rw [List.map_map]; rfl
  obtain ⟨dx, t, u, hri, hdx⟩ := R.inst
  have Inst := inst_of hri hdx
  refine iter_rangeJ (x := Str.ofString "k") rfl rfl rfl hr (by decide) (by decide) F2 N2
    (fun i m news => (∃ sl, news = [(D, o), (L₀, { oL with slots := sl })]) ∧ m "reader" = some (.ref r) ∧ m "names" = some (.ref D)) ⟨⟨oL.slots, rfl⟩, hm1, hm2⟩ ?_ ?_
  · rintro I i t m₁ news₁ h tk oI hi ⟨⟨sl, rfl⟩, hmr, hmn⟩ hnI F₁ N₁
    clear hr F2 N2
    walk_at "zz go"
    refine' use_fr (A₁ := Lv 20) (name_c ?ub (by omega) (by omega)) ?u1 ?u2 ?u3 ?u4 ?u5 ?u6 ?u7 ?_
    walk_at "zz use"
    rintro _ h2 tk2 - k2 F2 N2 ⟨a, x, y, u1, u2, rfl, hfr, ha, hxy⟩
    have N3 := news_add F₁ N2 hfr ha
    have hIa : a ≠ I := fun e => by rw [e] at hfr; rw [(N₁ _ (.head _)).1] at hfr; cases hfr
    have hDa : a ≠ D := fun e => by rw [e] at hfr; rw [(N₁ _ (.tail _ (.head _))).1] at hfr; cases hfr
    have hLa : a ≠ L₀ := fun e => by rw [e] at hfr; rw [(N₁ _ (.tail _ (.tail _ (.head _)))).1] at hfr; cases hfr
    have hID : D ≠ I := hnI _ (.head _)
    have hIL : L₀ ≠ I := hnI _ (.tail _ (.head _))
    clear N2 N₁ F₁
    walk_at "zz go"
    have F4 := (by assumption : Fr h₀ L _ _)
    have N4 := (by assumption : News h₀ L _ _)
    refine notin_names (n := (x, y)) (ns := rs.map (·.nm)) (nm_tup (N4 _ (.head _)).1) ?_ ?_ hxy (Nat.le_of_ble_eq_true rfl) ?_
    · rw [List.map_map]
      exact reads_map _ _ ⟨_, (N4 _ (.tail _ (.tail _ (.head _)))).1, hoc, _, hod⟩ fun x hx => ⟨_, ((hrow x hx).2.keeps F4.keep).reads⟩
    · intro n hn
      obtain ⟨x, hx, rfl⟩ := List.mem_map.mp hn
      exact hnm x hx
    by_cases hin : (x, y) ∈ rs.map (·.nm)
    · rw [decide_eq_true hin]
      walk_at "zz go"
      have F9 := (by assumption : Fr h₀ L _ _)
      have N9 := (by assumption : News h₀ L _ _)
      refine TurnPost.next F9 (news_sub (b := [(I, oI), (D, o), (L₀, { oL with slots := sl })]) N9 fun p hp => .tail _ hp) hnI ⟨⟨sl, rfl⟩, hmr, hmn⟩
    rw [decide_eq_false hin]
    have hlx : look (rs.map PRow.ent) (x, y) = none := look_eq_none (by rw [hxn]; exact hin)
    have hly : look ys (x, y) = none := look_eq_none (by rw [hyn]; exact hin)
    clear N4 F4 F2 N3
    walk_at "zz go"
    have nmA : ∀ {h : Heap} {ns : List (Addr × Obj)}, News h₀ L h ns → (a, tupObj [.str x u1, .str y u2]) ∈ ns → NameAt h a (x, y) := fun N hm => nm_tup (N _ hm).1
    refine' use_fr (A₁ := Lv 16) (ns_contains (n := (x, y)) ?ub ?ur (nmA (by assumption) (.head _))) ?u1 ?u2 ?u3 ?u4 ?u5 ?u6 ?u7 ?_
    walk_at "zz useR"
    rintro _ h3 tk3 - k3 F3 N3 rfl
    rw [hlx]
    dsimp only [Option.isSome]
    walk_at "zz go"
    refine' use_fr (A₁ := Lv 16) (ns_get2 (n := (x, y)) ?ub ?ur (nmA (by assumption) (.head _))) ?u1 ?u2 ?u3 ?u4 ?u5 ?u6 ?u7 ?_
    walk_at "zz useR"
    rintro _ h4 tk4 - k4 F4 N4 rfl
    rw [hlx]
    dsimp only [Option.map, Option.getD]
    clear k3
    walk_at "zz go"
    clear k4
    have F5 := (by assumption : Fr h₀ L _ _)
    have N5 := (by assumption : News h₀ L _ _)
    refine refused_in (L₀ := L₀) (oL := { oL with slots := sl }) (f := 49) (r := r) (dx := dN (x, y)) (rest := [(a, tupObj [.str x u1, .str y u2]), (I, oI), (D, o)]) hef hek rfl B F5 N5 (.tail _ (.tail _ (.tail _ (.tail _ (.head _))))) hdt (.head _) (by k_is) (fun H _ hH => ⟨_, (nm_tup (hH _ (.head _))).reads⟩) (Lay.n hxy.ok1 hxy.ok2) (fun p hp => ?_) (fun A' outer' s' K' hh' hd' hu' B' k' => th_getValue K' hh' hd' hu' B' (R.keeps fun b o e => k' b o (F5.keep b o e)) ((nm_tup (N5 _ (.tail _ (.head _))).1).keeps k') hlx) fun h6 tk6 sl6 F6 N6 => ?_
    · simp only [List.mem_cons, List.not_mem_nil, or_false] at hp ⊢
      rcases hp with rfl | rfl | rfl
      · exact ⟨.inr (.inl rfl), hLa⟩
      · exact ⟨.inr (.inr (.inl rfl)), Ne.symm hIL⟩
      · exact ⟨.inr (.inr (.inr (.inl rfl))), hDL⟩
    clear N5 F5
    walk_at "zz go"
    have F7 := (by assumption : Fr h₀ L _ _)
    have N7 := (by assumption : News h₀ L _ _)
    refine refused_in (L₀ := L₀) (oL := { oL with slots := sl6 }) (f := 183) (r := r) (dx := dN (x, y)) (rest := [(a, tupObj [.str x u1, .str y u2]), (I, oI), (D, o)]) hef hek rfl B F7 N7 (.tail _ (.head _)) hdt (.head _) (by k_is) (fun H _ hH => ⟨_, (nm_tup (hH _ (.head _))).reads⟩) (Lay.n hxy.ok1 hxy.ok2) (fun p hp => ?_) (fun A' outer' s' K' hh' hd' hu' B' k' => th_getQName K' hh' hd' hu' B' (R.keeps fun b o e => k' b o (F7.keep b o e)) ((nm_tup (N7 _ (.tail _ (.tail _ (.head _)))).1).keeps k') hly) fun h8 tk8 sl8 F8 N8 => ?_
    · simp only [List.mem_cons, List.not_mem_nil, or_false] at hp ⊢
      rcases hp with rfl | rfl | rfl
      · exact ⟨.inr (.inr (.inl rfl)), hLa⟩
      · exact ⟨.inr (.inr (.inr (.inl rfl))), Ne.symm hIL⟩
      · exact ⟨.inr (.inr (.inr (.inr rfl))), hDL⟩
    clear N7 F7
    walk_at "zz go"
    refine' use_fr (A₁ := Lv 20) (qname_c (n := (x, y)) ?ub (nmA (by assumption) (.tail _ (.tail _ (.head _)))) hxy) ?u1 ?u2 ?u3 ?u4 ?u5 ?u6 ?u7 ?_
    walk_at "zz use"
    rintro _ h9 tk9 - k9 F9 N9 ⟨u9, rfl⟩
    clear k9
    walk_at "zz go"
    have hyz : ∀ y' ∈ ys, y'.val ≠ qn x y := fun y' hy' e => by
      have hm : (y'.nm, y'.ka, y'.val) ∈ ys.map (fun y => (y.nm, y.ka, y.val)) := List.mem_map_of_mem hy'
      rw [hys] at hm
      obtain ⟨z, hz, e2⟩ := List.mem_map.mp hm
      injection e2 with e3 e4
      injection e4 with e4 e5
      rw [e] at e5
      exact hin (List.mem_map.mpr ⟨z, hz, qn_inj (a := z.nm) (b := (x, y)) (hnm z hz) hxy e5⟩)
    have F10 := (by assumption : Fr h₀ L _ _)
    have N10 := (by assumption : News h₀ L _ _)
    refine refused_in (L₀ := L₀) (oL := { oL with slots := sl8 }) (f := 176) (r := r) (dx := PyData.str (qn x y)) (rest := [(a, tupObj [.str x u1, .str y u2]), (I, oI), (D, o)]) hef hek rfl B F10 N10 (.tail _ (.head _)) hdt (.head _) (by k_is) (fun H _ hH => ⟨_, .str _ _⟩) (Lay.s (qn_ok (n := (x, y)) hxy)) (fun p hp => ?_) (fun A' outer' s' K' hh' hd' hu' B' k' => th_getNameByQName K' hh' hd' hu' B' (R.keeps fun b o e => k' b o (F10.keep b o e)) hyz) fun h11 tk11 sl11 F11 N11 => ?_
    · simp only [List.mem_cons, List.not_mem_nil, or_false] at hp ⊢
      rcases hp with rfl | rfl | rfl
      · exact ⟨.inr (.inr (.inl rfl)), hLa⟩
      · exact ⟨.inr (.inr (.inr (.inl rfl))), Ne.symm hIL⟩
      · exact ⟨.inr (.inr (.inr (.inr rfl))), hDL⟩
    clear N10 F10
    walk_at "zz go"
    refine' use_fr (A₁ := Lv 20) (qname_c (n := (x, y)) ?ub (nmA (by assumption) (.tail _ (.tail _ (.head _)))) hxy) ?u1 ?u2 ?u3 ?u4 ?u5 ?u6 ?u7 ?_
    walk_at "zz use"
    rintro _ h12 tk12 - k12 F12 N12 ⟨u12, rfl⟩
    clear k12
    walk_at "zz go"
    have F13 := (by assumption : Fr h₀ L _ _)
    have N13 := (by assumption : News h₀ L _ _)
    refine refused_in (L₀ := L₀) (oL := { oL with slots := sl11 }) (f := 169) (r := r) (dx := PyData.str (qn x y)) (rest := [(a, tupObj [.str x u1, .str y u2]), (I, oI), (D, o)]) hef hek rfl B F13 N13 (.tail _ (.head _)) hdt (.head _) (by k_is) (fun H _ hH => ⟨_, .str _ _⟩) (Lay.s (qn_ok (n := (x, y)) hxy)) (fun p hp => ?_) (fun A' outer' s' K' hh' hd' hu' B' k' => th_getValueByQName K' hh' hd' hu' B' (R.keeps fun b o e => k' b o (F13.keep b o e)) hyz) fun h14 tk14 sl14 F14 N14 => ?_
    · simp only [List.mem_cons, List.not_mem_nil, or_false] at hp ⊢
      rcases hp with rfl | rfl | rfl
      · exact ⟨.inr (.inr (.inl rfl)), hLa⟩
      · exact ⟨.inr (.inr (.inr (.inl rfl))), Ne.symm hIL⟩
      · exact ⟨.inr (.inr (.inr (.inr rfl))), hDL⟩
    clear N13 F13
    walk_at "zz go"
    have F9 := (by assumption : Fr h₀ L _ _)
    have N9 := (by assumption : News h₀ L _ _)
    refine TurnPost.next F9 (news_sub (b := [(I, oI), (D, o), (L₀, { oL with slots := sl14 })]) N9 fun p hp => ?_) (fun p hp => ?_) ⟨⟨sl14, rfl⟩, hmr, hmn⟩
    · simp only [List.mem_cons, List.not_mem_nil, or_false] at hp ⊢
      rcases hp with rfl | rfl | rfl
      · exact .inr (.inr (.inl rfl))
      · exact .inr (.inr (.inr rfl))
      · exact .inl rfl
    · simp only [List.mem_cons, List.not_mem_nil, or_false] at hp
      rcases hp with rfl | rfl
      · exact hID
      · exact hIL
  · rintro h' tk' m' news' F' N' ⟨⟨sl, rfl⟩, hmr, hmn⟩
    walk_at "zz go"
    have F9 := (by assumption : Fr h₀ L _ _)
    have N9 := (by assumption : News h₀ L _ _)
    exact hQ _ _ sl F9.keep (N9 _ (.tail _ (.head _))).1
end At
end
section
open PySem PySem.W PySem.Calls PyProof.Rows Builtin Builtin.Str
set_option Elab.async false
set_option maxRecDepth 100000
set_option linter.unusedVariables false
namespace At
local macro_rules | `(tactic| walk_at "compareOp NotEq str str") => `(tactic| refine held ?_)
theorem tup_inj {h : Heap} {a : Addr} {x y : Array Value} (t : IsTup h a x) (u : IsTup h a y) : x = y := by
  obtain ⟨o, ho, hc, k, hd⟩ := t
  obtain ⟨o', ho', hc', k', hd'⟩ := u
  rw [ho] at ho'
  obtain rfl := Option.some.inj ho'
  rw [hd] at hd'
  injection hd'
theorem rows_inj {h : Heap} {rs : List PRow} (R : RowsIn h rs) {x y : PRow} (hx : x ∈ rs) (hy : y ∈ rs) (e : x.a = y.a) : x.ka = y.ka ∧ x.val = y.val ∧ x.tok = y.tok ∧ x.nm = y.nm := by
  have t := (R x hx).1
  have u := (R y hy).1
  rw [e] at t
  have := tup_inj t u
  injection this with e1
  injection e1 with e1 e2
  injection e2 with e2 _
  injection e1 with e1
  injection e2 with e2 e3
  have n := (R x hx).2
  rw [e1] at n
  exact ⟨e1, e2, e3, n.inj (R y hy).2⟩
theorem paired_map {α : Type} {R : Value → Value → Prop} {g f : α → Value} {rs : List α} {ks : List Value} (P : Paired R (rs.map g) ks) (h : ∀ x ∈ rs, ∀ z, R (g x) z → z = f x) : ks = rs.map f := by
  obtain ⟨hl, hp⟩ := Paired.at P
  rw [List.length_map] at hl
  apply List.ext_getElem
  · rw [List.length_map, hl]
  · intro i h1 h2
    rw [List.length_map] at h2
    rw [List.getElem_map]
    exact h _ (List.getElem_mem h2) _ (hp i _ _ (by rw [List.getElem?_map, List.getElem?_eq_getElem h2]; rfl) (List.getElem?_eq_getElem h1))
theorem ne_same {prog : Program} {w : World} {A : Around} {E : Value → Shared → Prop} {s : Shared} {a b : Value} {d : PyData} {Q : Value → Shared → Prop} (ra : ∃ as, Reads s.heap a d as) (rb : ∃ as, Reads s.heap b d as) (hd : SeqAt.shaped d = true) (hu : A.units ≤ 9000)
    (h : Q (.bool false) s) : wpAny (model prog w) A (compareOp .NotEq a b) Q E s := by
  obtain ⟨as, ra⟩ := ra
  obtain ⟨bs, rb⟩ := rb
  refine ne_dataH ra rb hd hd (by unfold cLine; omega) ?_
  rw [SeqAt.eqv_refl _ (SeqAt.canLay_of_shaped hd)]
  exact h
theorem keeps_ex {h h' : Heap} {a : Value} {d : PyData} (r : ∃ as, Reads h a d as) (k : h.StaysIn h') : ∃ as, Reads h' a d as := let ⟨as, r⟩ := r; ⟨as, Reads.keeps k r⟩
theorem ents_of {rs : List PRow} {ys : List Ent} (hys : ys.map (fun y => (y.nm, y.ka, y.val)) = rs.map (fun x => (x.nm, x.ka, qn x.nm.1 x.nm.2))) (nd : (rs.map (·.nm)).Nodup) {x : PRow} (hx : x ∈ rs) :
    ∃ y, look ys x.nm = some y ∧ y.nm = x.nm ∧ y.ka = x.ka ∧ y.val = qn x.nm.1 x.nm.2 := by
  have hyn : ys.map (·.nm) = rs.map (·.nm) := by
    have := congrArg (List.map (·.1)) hys
    simpa [List.map_map, Function.comp_def] using this
  have hm : (x.nm, x.ka, qn x.nm.1 x.nm.2) ∈ rs.map (fun x => (x.nm, x.ka, qn x.nm.1 x.nm.2)) := List.mem_map_of_mem (f := fun x : PRow => (x.nm, x.ka, qn x.nm.1 x.nm.2)) hx
  rw [← hys] at hm
  obtain ⟨y, hy, e⟩ := List.mem_map.mp hm
  injection e with e1 e2
  injection e2 with e2 e3
  have h1 := look_of_mem (by rw [hyn]; exact nd) hy
  rw [e1] at h1
  exact ⟨y, h1, e1, e2, e3⟩
theorem ent_val {rs : List PRow} {ys : List Ent} (hys : ys.map (fun y => (y.nm, y.ka, y.val)) = rs.map (fun x => (x.nm, x.ka, qn x.nm.1 x.nm.2))) (hnm : ∀ x ∈ rs, IsNm x.nm.1 x.nm.2) {y : Ent} (hy : y ∈ ys) : IsNm y.nm.1 y.nm.2 ∧ y.val = qn y.nm.1 y.nm.2 := by
  have hm : (y.nm, y.ka, y.val) ∈ ys.map (fun y => (y.nm, y.ka, y.val)) := List.mem_map_of_mem (f := fun y : Ent => (y.nm, y.ka, y.val)) hy
  rw [hys] at hm
  obtain ⟨z, hz, e⟩ := List.mem_map.mp hm
  injection e with e1 e2
  injection e2 with e2 e3
  rw [← e1, ← e3]
  exact ⟨hnm z hz, rfl⟩
set_option maxHeartbeats 4000000 in
theorem told_B {prog : Program} {w : World} {s : Shared} {h₀ : Heap} {e : Env} {L₀ L r l dv dq D : Addr} {oL o : Obj} {rs : List PRow} {ys : List Ent} {m : Str → Option Value} {Q : Value → Shared → Prop}
    {name qual : Str} {params : Arguments} {body : List Stmt} {scope : Scope} {dV kV doc pm cdv ct oc : Value} {an od : Option Addr} {osl : Array (Option Value)}
    (ho : (hd.heap_1 w.params).lookup 290 = some ⟨oc, od, .func (fnOf name qual params body scope dV kV doc pm an cdv ct), osl⟩)
    (B : Base w h₀) (R : NSRd prog w h₀ r dv dq (rs.map PRow.ent) ys) (hl : h₀.IsList l (rs.map fun x => Value.ref x.a).toArray) (hrow : RowsIn h₀ rs) (nd : (rs.map (·.nm)).Nodup) (h8 : rs.length ≤ 8)
    (hnm : ∀ x ∈ rs, IsNm x.nm.1 x.nm.2) (hok : ∀ x ∈ rs, okS x.val) (hys : ys.map (fun y => (y.nm, y.ka, y.val)) = rs.map (fun x => (x.nm, x.ka, qn x.nm.1 x.nm.2)))
    (F : Fr h₀ L s.heap m) (N : News h₀ L s.heap [(D, o), (L₀, oL)]) (hm1 : m "reader" = some (.ref r)) (hm2 : m "names" = some (.ref D)) (hm3 : m "pairs" = some (.ref l))
    (hQ : ∀ h' tk m', Fr h₀ L h' m' → News h₀ L h' [(D, o), (L₀, oL)] → m' "reader" = some (.ref r) → m' "names" = some (.ref D) →
      wpAny (model prog w) ((callerA.deeper e).deeper (envOf qual scope L 290 cdv)) (execs (body.drop 4) (envOf qual scope L 290 cdv)) (fun fl s' => Q (match fl with | .ret v => v | _ => .none) s') noE { s with heap := h', toks := tk }) :
    wpAny (model prog w) ((callerA.deeper e).deeper (envOf qual scope L 290 cdv)) (execs (body.drop 3) (envOf qual scope L 290 cdv)) (fun fl s' => Q (match fl with | .ret v => v | _ => .none) s') noE s := by
  obtain ⟨X, p, loose, mean, mg, mb, T⟩ := id B
  revert hQ
  refine' with_fn (P := fun qual body scope cdv => (∀ h' tk m', Fr h₀ L h' m' → News h₀ L h' [(D, o), (L₀, oL)] → m' "reader" = some (.ref r) → m' "names" = some (.ref D) →
      wpAny (model prog w) ((callerA.deeper e).deeper (envOf qual scope L 290 cdv)) (execs (body.drop 4) (envOf qual scope L 290 cdv)) (fun fl s' => Q (match fl with | .ret v => v | _ => .none) s') noE { s with heap := h', toks := tk }) → wpAny (model prog w) ((callerA.deeper e).deeper (envOf qual scope L 290 cdv)) (execs (body.drop 3) (envOf qual scope L 290 cdv)) (fun fl s' => Q (match fl with | .ret v => v | _ => .none) s') noE s) ?h2 ho ?_
  (case h2 => k_is)
  clear ho
  dsimp only [List.drop]
  intro hQ
  obtain ⟨dx, t, u, hri, hdx⟩ := R.inst
  have Inst := inst_of hri hdx
  obtain ⟨eq, U⟩ := R.qns
  walk_at "zz go"
  refine iter_list2 (vs := rs.map fun x => Value.ref x.a) (ps := rs.map fun x => (Value.ref x.ka, Value.str x.val x.tok)) rfl rfl rfl rfl (listK_base hl) (fun i v H hv hK => ?_) (by assumption) (by assumption)
    (fun i m => m "reader" = some (.ref r) ∧ m "names" = some (.ref D)) ⟨hm1, hm2⟩ ?_ ?_
  · rw [List.getElem?_map] at hv
    cases hx : rs[i]? with
    | none => rw [hx] at hv; cases hv
    | some x =>
      rw [hx] at hv
      exact ⟨x.a, _, (Option.some.inj hv).symm, by rw [List.getElem?_map, hx]; rfl, tup_tuple ((hrow x (List.mem_of_getElem? hx)).1.keeps hK.1)⟩
  · rintro i p m₁ h tk oI hi hp ⟨hmr, hmn⟩ F₁ N₁
    rw [List.getElem?_map] at hp
    cases hx : rs[i]? with
    | none => rw [hx] at hp; cases hp
    | some x =>
    rw [hx] at hp
    obtain rfl := Option.some.inj hp
    dsimp only at F₁
    have hmem := List.mem_of_getElem? hx
    obtain ⟨y, hly, hyn, hyk, hyv⟩ := ents_of hys nd hmem
    have hlx : look (rs.map PRow.ent) x.nm = some x.ent := look_of_mem (x := x.ent) (by rw [List.map_map]; exact nd) (List.mem_map_of_mem hmem)
    have hnx := (hrow x hmem).2
    have hnx' := hnm x hmem
    have hvx := hok x hmem
    clear hp hx
    walk_at "zz go"
    refine' use_fr (A₁ := Lv 16) (ns_getQNameByName (n := x.nm) ?ub ?ur ?un hly) ?u1 ?u2 ?u3 ?u4 ?u5 ?u6 ?u7 ?_
    (case un => exact hnx.keeps (Fr.keep (by assumption)))
    walk_at "zz useR"
    rintro _ h2 tk2 - k2 F2 N2 rfl
    clear k2
    rw [hyv]
    walk_at "zz go"
    refine' use_fr (A₁ := Lv 20) (qname_c (n := x.nm) ?ub ?un hnx') ?u1 ?u2 ?u3 ?u4 ?u5 ?u6 ?u7 ?_
    (case un => exact hnx.keeps (Fr.keep (by assumption)))
    walk_at "zz use"
    rintro _ h3 tk3 - k3 F3 N3 ⟨u3, rfl⟩
    clear k3
    walk_at "zz go"
    refine Held.go ?_
    refine ne_same (d := .str (qn x.nm.1 x.nm.2)) ⟨_, .str _ _⟩ ⟨_, .str _ _⟩ (Lay.s (qn_ok hnx')).shaped (Nat.le_of_ble_eq_true rfl) ?_
    walk_at "zz go"
    have hyu : ∀ y' ∈ ys, y'.val = qn x.nm.1 x.nm.2 → y' = y := fun y' hy' e => by
      obtain ⟨g1, g2⟩ := ent_val hys hnm hy'
      rw [g2] at e
      have e2 := qn_inj (a := y'.nm) (b := x.nm) g1 hnx' e
      have e3 := look_of_mem (U.nd) hy'
      rw [e2, hly] at e3
      exact (Option.some.inj e3).symm
    refine' use_fr (A₁ := Lv 14) (ns_getNameByQName (x := y) ?ub ?ur (by rw [hyn]; exact hly) hyv hyu) ?u1 ?u2 ?u3 ?u4 ?u5 ?u6 ?u7 ?_
    walk_at "zz useR"
    rintro _ h4 tk4 - k4 F4 N4 rfl
    clear k4
    rw [hyk]
    walk_at "zz go"
    refine ne_same (d := dN x.nm) ⟨_, (hnx.keeps (Fr.keep (by assumption))).reads⟩ ⟨_, (hnx.keeps (Fr.keep (by assumption))).reads⟩ (Lay.n hnx'.ok1 hnx'.ok2).shaped (Nat.le_of_ble_eq_true rfl) ?_
    walk_at "zz go"
    refine' use_fr (A₁ := Lv 14) (ns_getValueByQName (x := y) (y := x.ent) ?ub ?ur (by rw [hyn]; exact hly) hyv hyu (by rw [hyn]; exact hlx)) ?u1 ?u2 ?u3 ?u4 ?u5 ?u6 ?u7 ?_
    walk_at "zz useR"
    rintro _ h5 tk5 - k5 F5 N5 rfl
    clear k5
    walk_at "zz go"
    refine Held.go ?_
    refine ne_same (d := .str x.val) ⟨_, .str _ _⟩ ⟨_, .str _ _⟩ (Lay.s hvx).shaped (Nat.le_of_ble_eq_true rfl) ?_
    walk_at "zz go"
    refine' use_fr (A₁ := Lv 16) (ns_getValue ?ub ?ur ?un hlx) ?u1 ?u2 ?u3 ?u4 ?u5 ?u6 ?u7 ?_
    (case un => exact hnx.keeps (Fr.keep (by assumption)))
    walk_at "zz useR"
    rintro _ h6 tk6 - k6 F6 N6 rfl
    clear k6
    walk_at "zz go"
    refine Held.go ?_
    refine ne_same (d := .str x.val) ⟨_, .str _ _⟩ ⟨_, .str _ _⟩ (Lay.s hvx).shaped (Nat.le_of_ble_eq_true rfl) ?_
    walk_at "zz go"
    refine' use_fr (A₁ := Lv 16) (ns_getitem ?ub ?ur ?un hlx) ?u1 ?u2 ?u3 ?u4 ?u5 ?u6 ?u7 ?_
    (case un => exact hnx.keeps (Fr.keep (by assumption)))
    walk_at "zz useR"
    rintro _ h7 tk7 - k7 F7 N7 rfl
    clear k7
    walk_at "zz go"
    refine Held.go ?_
    refine ne_same (d := .str x.val) ⟨_, .str _ _⟩ ⟨_, .str _ _⟩ (Lay.s hvx).shaped (Nat.le_of_ble_eq_true rfl) ?_
    walk_at "zz go"
    refine' use_fr (A₁ := Lv 16) (ns_get1 (n := x.nm) ?ub ?ur ?un) ?u1 ?u2 ?u3 ?u4 ?u5 ?u6 ?u7 ?_
    (case un => exact hnx.keeps (Fr.keep (by assumption)))
    walk_at "zz useR"
    rintro _ h8 tk8 - k8 F8 N8 rfl
    clear k8
    rw [hlx]
    dsimp only [Option.map, Option.getD]
    walk_at "zz go"
    refine Held.go ?_
    refine ne_same (d := .str x.val) ⟨_, .str _ _⟩ ⟨_, .str _ _⟩ (Lay.s hvx).shaped (Nat.le_of_ble_eq_true rfl) ?_
    walk_at "zz go"
    refine' use_fr (A₁ := Lv 16) (ns_contains (n := x.nm) ?ub ?ur ?un) ?u1 ?u2 ?u3 ?u4 ?u5 ?u6 ?u7 ?_
    (case un => exact hnx.keeps (Fr.keep (by assumption)))
    walk_at "zz useR"
    rintro _ h9 tk9 - k9 F9 N9 rfl
    clear k9
    rw [hlx]
    dsimp only [Option.isSome]
    walk_at "zz go"
    refine' use_fr (A₁ := Lv 16) (ns_getType ?ub ?ur) ?u1 ?u2 ?u3 ?u4 ?u5 ?u6 ?u7 ?_
    walk_at "zz useR"
    rintro _ h10 tk10 - k10 F10 N10 ⟨t10, rfl⟩
    clear k10
    walk_at "zz go"
    refine Held.go ?_
    refine ne_same (d := .str (Str.ofString "CDATA")) ⟨_, .str _ _⟩ ⟨_, .str _ _⟩ (Lay.s (by decide +kernel)).shaped (Nat.le_of_ble_eq_true rfl) ?_
    walk_at "zz go"
    have F9 := (by assumption : Fr h₀ L _ _)
    have N9 := (by assumption : News h₀ L _ _)
    exact PurePost.next F9 N9 (fun _ hp => hp) ⟨hmr, hmn⟩
  · rintro h' tk' m' F' N' ⟨hmr, hmn⟩
    exact hQ _ _ _ F' N' hmr hmn
end At
end
section
open PySem PySem.W PySem.Calls PyProof.Rows Builtin Builtin.Str
set_option Elab.async false
set_option maxRecDepth 100000
set_option linter.unusedVariables false
namespace At
theorem with_ho {K : Frag} {f : Addr} {name' qual' : Str} {params' : Arguments} {body' : List Stmt} {scope' : Scope} {dV' kV' doc' pm' cdv' ct' oc' : Value} {an' od' : Option Addr} {osl' : Array (Option Value)} {P : Prop}
    (h2 : K.lookup f = some ⟨oc', od', .func (fnOf name' qual' params' body' scope' dV' kV' doc' pm' an' cdv' ct'), osl'⟩) (h : K.lookup f = some ⟨oc', od', .func (fnOf name' qual' params' body' scope' dV' kV' doc' pm' an' cdv' ct'), osl'⟩ → P) : P := h h2
-- (the walk keeps its rules by their number: this file's number must be its own)
local macro_rules | `(tactic| walk_at "zz none") => `(tactic| skip)
local macro_rules | `(tactic| walk_at "zz none") => `(tactic| skip)
local macro_rules | `(tactic| walk_at "execs cons") => `(tactic| (k_here; (with_reducible show wpAny _ _ (execs (Stmt.For _ _ _ _ _ :: _) _) _ _ _); refine held ?_))
set_option maxHeartbeats 4000000 in
theorem law_told {prog : Program} {w : World} {E : Value → Shared → Prop} {s : Shared} {h₀ : Heap} {e : Env} {L₀ r l dv dq : Addr} {oL : Obj} {rs : List PRow} {ys : List Ent} {es : Array DictEntry} {ep : Nat} {Q : Value → Shared → Prop}
    (B : Base w h₀) (k0 : h₀.StaysIn s.heap) (hz : h₀.objs.size = s.heap.objs.size) (hL0 : h₀.get? L₀ = none) (hL : s.heap.get? L₀ = some oL) (hdt : oL.data = .dict es ep) (hef : e.frame = some L₀) (hek : e.scope.kind ≠ .module)
    (R : NSRd prog w h₀ r dv dq (rs.map PRow.ent) ys) (hl : h₀.IsList l (rs.map fun x => Value.ref x.a).toArray) (hrow : RowsIn h₀ rs) (nd : (rs.map (·.nm)).Nodup) (h8 : rs.length ≤ 8)
    (hnm : ∀ x ∈ rs, IsNm x.nm.1 x.nm.2) (hok : ∀ x ∈ rs, okS x.val) (hys : ys.map (fun y => (y.nm, y.ka, y.val)) = rs.map (fun x => (x.nm, x.ka, qn x.nm.1 x.nm.2)))
    (hQ : ∀ h' tk sl, h₀.StaysIn h' → h'.get? L₀ = some { oL with slots := sl } → Q (.bool true) { s with heap := h', toks := tk }) :
    wpAny (model prog w) (callerA.deeper e) (call (.ref 290) [.ref r, .ref l]) Q E s := by
  obtain ⟨X, p, loose, mean, mg, mb, T⟩ := id B
  refine' call_over [(Str.ofString "reader", .ref r), (Str.ofString "pairs", .ref l)] k0 hz hL0 hL ?kX ?kT ?ko ?kc ?kr ?kb ?kl ?c1 ?c2 ?c3 ?c4 ?_
  (case kX => assumption); (case kT => exact Top.nolimit (by assumption)); (case ko => k_is); (case kc => k_is); (case kr => exact of_decide_eq_true rfl); (case kb => first | exact BindsTo.of_eq rfl | exact binds_K (by assumption) rfl (by k_is) rfl rfl rfl); (case kl => exact locs rfl); (case c1 => decide); (case c2 => rfl); (case c3 => rfl); (case c4 => rfl)
  intro L h₁ tk F N
  try dsimp only
  walk_at "execs cons"
  refine comp_assign (vs := rs.map fun x => Value.ref x.a) (fun v z => ∀ x ∈ rs, v = .ref x.a → z = .ref x.ka) rfl rfl (by decide) (by decide) rfl (by decide) rfl rfl rfl (by intro _; rfl) F N (F.lst hl) (by simp; omega) (fun Q' hq => ?_) (fun C v s₂ m₂ E' hv hn hm hk => ?_) fun D o c h' tk ks hP hoc hod F' N' hne => ?_
  · walk_at "zz go"
    exact hq
  · obtain ⟨x, hx, rfl⟩ := List.mem_map.mp hv
    have ht := ((hrow x hx).1.keeps F.keep).keeps hk
    refine block_item hn hm (tup_tuple ht) (by decide) (by decide) (by rfl) (by rfl) fun tk => ⟨fun x' hx' e => ?_, _, _, rfl, fun _ _ e => e⟩
    injection e with e
    rw [(rows_inj hrow hx hx' e).1]
  obtain rfl := paired_map (f := fun x => Value.ref x.ka) hP fun x hx z hz => hz x hx rfl
  clear N F
  obtain ⟨dx, t, u, hr, hdx⟩ := R.inst
  have I := inst_of hr hdx
  walk_at "zz go"
  refine' use_fr (A₁ := Lv 16) (ns_getNames ?ub ?ur) ?u1 ?u2 ?u3 ?u4 ?u5 ?u6 ?u7 ?_
  walk_at "zz useR"
  rintro _ h2 tk2 - k2 F2 N2 ⟨l2, rfl, hl2⟩
  walk_at "zz go"
  refine ne_same (d := .list (rs.map fun x => dN x.nm)) ?_ ?_ ?_ (Nat.le_of_ble_eq_true rfl) ?_
  · rw [List.map_map] at hl2
    exact reads_map _ _ hl2 fun x hx => ⟨_, ((hrow x hx).2.keeps (Fr.keep (by assumption))).reads⟩
  · have N9 := (by assumption : News h₀ L _ _)
    exact reads_map _ _ ⟨_, (N9 _ (.head _)).1, hoc, _, hod⟩ fun x hx => ⟨_, ((hrow x hx).2.keeps (Fr.keep (by assumption))).reads⟩
  · exact Lay.list _ fun x hx => Lay.n (hnm x hx).ok1 (hnm x hx).ok2
  walk_at "zz go"
  refine' use_fr (A₁ := Lv 16) (ns_keys ?ub ?ur) ?u1 ?u2 ?u3 ?u4 ?u5 ?u6 ?u7 ?_
  walk_at "zz useR"
  rintro _ h3 tk3 - k3 F3 N3 ⟨l3, rfl, hl3⟩
  walk_at "zz go"
  refine ne_same (d := .list (rs.map fun x => dN x.nm)) ?_ ?_ ?_ (Nat.le_of_ble_eq_true rfl) ?_
  · rw [List.map_map] at hl3
    exact reads_map _ _ hl3 fun x hx => ⟨_, ((hrow x hx).2.keeps (Fr.keep (by assumption))).reads⟩
  · have N9 := (by assumption : News h₀ L _ _)
    exact reads_map _ _ ⟨_, (N9 _ (.head _)).1, hoc, _, hod⟩ fun x hx => ⟨_, ((hrow x hx).2.keeps (Fr.keep (by assumption))).reads⟩
  · exact Lay.list _ fun x hx => Lay.n (hnm x hx).ok1 (hnm x hx).ok2
  clear k2 F2 N2 hl2
  walk_at "zz go"
  refine' use_fr (A₁ := Lv 16) (ns_getQNames ?ub ?ur) ?u1 ?u2 ?u3 ?u4 ?u5 ?u6 ?u7 ?_
  walk_at "zz useR"
  rintro _ h4 tk4 - k4 F4 N4 ⟨l4, rfl, hl4⟩
  have hyv : ys.map (fun y => PyData.str y.val) = rs.map (fun x => PyData.str (qn x.nm.1 x.nm.2)) := by
    have := congrArg (List.map (fun t => PyData.str t.2.2)) hys
    simpa [List.map_map, Function.comp_def] using this
  walk_at "zz go"
  refine Held.go ?_
  refine comp_eval (vs := rs.map fun x => Value.ref x.ka) (fun v z => ∀ x ∈ rs, v = .ref x.ka → ∃ u, z = .str (qn x.nm.1 x.nm.2) u) rfl (by decide) (by decide) rfl (by decide) rfl (by intro _; rfl) F4 N4 ⟨_, (N4 _ (.head _)).1, hoc, _, hod⟩ (by simp; omega) (fun Q' hq => ?_) (fun C v s₂ m₂ E' hv hn hm hk => ?_) fun D5 o5 c5 h5 tk5 zs hP5 hoc5 hod5 F5 N5 k5 hne5 => ?_
  · walk_at "zz go"
    exact hq
  · obtain ⟨x, hx, rfl⟩ := List.mem_map.mp hv
    have K9 : h₀.StaysIn s₂.heap := fun b o e => hk b o (F4.keep b o e)
    refine block_call (X.keeps K9) (T.keeps K9) hn hm (by k_is) (by k_is) rfl rfl ?_
    refine does_use (A₁ := Lv 20) (qname_c (B.keeps K9) ((hrow x hx).2.keeps K9) (hnm x hx)) rfl (Nat.le_of_ble_eq_true rfl) (Nat.le_of_ble_eq_true rfl) rfl rfl ?_
    rintro _ h' tk' _ k' ⟨u, rfl⟩
    refine ⟨fun x' hx' e => ?_, _, _, rfl, k'⟩
    injection e with e
    have n := (hrow x hx).2
    rw [e] at n
    rw [n.inj (hrow x' hx').2]
    exact ⟨u, rfl⟩
  obtain ⟨hl5, hp5⟩ := Paired.at hP5
  rw [List.length_map] at hl5
  walk_at "zz go"
  refine ne_same (d := .list (rs.map fun x => PyData.str (qn x.nm.1 x.nm.2))) ?_ ?_ ?_ (Nat.le_of_ble_eq_true rfl) ?_
  · rw [← hyv]
    refine keeps_ex (reads_map _ _ hl4 fun y hy => ⟨_, .str _ _⟩) ?_
    exact k5
  · refine reads_listOf ⟨_, (N5 _ (.head _)).1, hoc5, _, hod5⟩ (by simp [hl5]) fun i v d h1 h2 => ?_
    rw [List.getElem?_map] at h2
    cases hx : rs[i]? with
    | none => rw [hx] at h2; cases h2
    | some x =>
      rw [hx] at h2
      obtain rfl := Option.some.inj h2
      obtain ⟨u, rfl⟩ := hp5 i (.ref x.ka) v (by rw [List.getElem?_map, hx]; rfl) h1 x (List.mem_of_getElem? hx) rfl
      exact ⟨_, .str _ _⟩
  · exact Lay.list _ fun x hx => Lay.s (qn_ok (hnm x hx))
  clear k3 F3 N3 hl3
  walk_at "zz go"
  clear k4 F4 N4 hl4 k5 hP5 hoc5 hod5 hp5 hl5 hne5
  refine' use_fr (A₁ := Lv 16) (ns_items ?ub ?ur) ?u1 ?u2 ?u3 ?u4 ?u5 ?u6 ?u7 ?_
  walk_at "zz useR"
  rintro _ h6 tk6 - k6 F6 N6 ⟨l6, rfl, as6, hl6, hn6, hi6⟩
  rw [List.length_map] at hn6
  walk_at "zz go"
  refine ne_same (d := .list (rs.map fun x => dP (x.nm, x.val))) ?_ ?_ ?_ (Nat.le_of_ble_eq_true rfl) ?_
  · refine reads_listOf hl6 (by simp [hn6]) fun i v d h1 h2 => ?_
    rw [List.getElem?_map] at h1 h2
    cases ha : as6[i]? with
    | none => rw [ha] at h1; cases h1
    | some a =>
      cases hx : rs[i]? with
      | none => rw [hx] at h2; cases h2
      | some x =>
        rw [ha] at h1
        rw [hx] at h2
        obtain rfl := Option.some.inj h1
        obtain rfl := Option.some.inj h2
        exact reads_pair (hi6 i a x.ent ha (by rw [List.getElem?_map, hx]; rfl)) ((hrow x (List.mem_of_getElem? hx)).2.keeps (Fr.keep (by assumption)))
  · exact reads_map _ _ (Fr.lst (by assumption) hl) fun x hx => reads_pair ((hrow x hx).1.keeps (Fr.keep (by assumption))) ((hrow x hx).2.keeps (Fr.keep (by assumption)))
  · exact Lay.list _ fun x hx => Lay.p (hnm x hx).ok1 (hnm x hx).ok2 (hok x hx)
  walk_at "zz go"
  refine' use_fr (A₁ := Lv 16) (ns_values ?ub ?ur) ?u1 ?u2 ?u3 ?u4 ?u5 ?u6 ?u7 ?_
  walk_at "zz useR"
  rintro _ h7 tk7 - k7 F7 N7 ⟨l7, rfl, hl7⟩
  clear k6 F6 N6 hl6 hi6 hn6
  walk_at "zz go"
  refine Held.go ?_
  refine comp_eval (vs := rs.map fun x => Value.ref x.a) (fun v z => ∀ x ∈ rs, v = .ref x.a → z = .str x.val x.tok) rfl (by decide) (by decide) rfl (by decide) rfl (by intro _; rfl) F7 N7 (F7.lst hl) (by simp; omega) (fun Q' hq => ?_) (fun C v s₂ m₂ E' hv hn hm hk => ?_) fun D8 o8 c8 hh8 tk8 zs hP8 hoc8 hod8 F8 N8 k8 hne8 => ?_
  · walk_at "zz go"
    exact hq
  · obtain ⟨x, hx, rfl⟩ := List.mem_map.mp hv
    have ht := ((hrow x hx).1.keeps F7.keep).keeps hk
    refine block_item hn hm (tup_tuple ht) (by decide) (by decide) (by rfl) (by rfl) fun tk => ⟨fun x' hx' e => ?_, _, _, rfl, fun _ _ e => e⟩
    injection e with e
    rw [(rows_inj hrow hx hx' e).2.1, (rows_inj hrow hx hx' e).2.2.1]
  obtain rfl := paired_map (f := fun x => Value.str x.val x.tok) hP8 fun x hx z hz => hz x hx rfl
  walk_at "zz go"
  refine ne_same (d := .list (rs.map fun x => PyData.str x.val)) ?_ ?_ ?_ (Nat.le_of_ble_eq_true rfl) ?_
  · rw [List.map_map] at hl7
    exact keeps_ex (reads_map _ _ hl7 fun y hy => ⟨_, .str _ _⟩) k8
  · exact reads_map _ _ ⟨_, (N8 _ (.head _)).1, hoc8, _, hod8⟩ fun y hy => ⟨_, .str _ _⟩
  · exact Lay.list _ fun x hx => Lay.s (hok x hx)
  clear k7 F7 N7 hl7 hne8
  walk_at "zz go"
  refine' use_fr (A₁ := Lv 16) (ns_len ?ub ?ur) ?u1 ?u2 ?u3 ?u4 ?u5 ?u6 ?u7 ?_
  walk_at "zz useR"
  rintro _ h9 tk9 - k9 F9 N9 ⟨t9, rfl⟩
  clear k8 F8 N8
  dsimp only [W.LenBack]
  rw [List.length_map]
  walk_at "zz go"
  refine PyProof.Rows.len_list (F9.lst hl) (by simp; omega) ?_
  simp only [List.size_toArray, List.length_map]
  refine ne_same (d := .int rs.length) ⟨_, .int _ _⟩ ⟨_, .int _ _⟩ rfl (Nat.le_of_ble_eq_true rfl) ?_
  walk_at "zz go"
  refine' use_fr (A₁ := Lv 16) (ns_getLength ?ub ?ur) ?u1 ?u2 ?u3 ?u4 ?u5 ?u6 ?u7 ?_
  walk_at "zz useR"
  rintro _ h10 tk10 - k10 F10 N10 ⟨t10, rfl⟩
  clear k9 F9 N9
  rw [List.length_map]
  walk_at "zz go"
  refine PyProof.Rows.len_list (F10.lst hl) (by simp; omega) ?_
  simp only [List.size_toArray, List.length_map]
  refine ne_same (d := .int rs.length) ⟨_, .int _ _⟩ ⟨_, .int _ _⟩ rfl (Nat.le_of_ble_eq_true rfl) ?_
  walk_at "zz go"
  refine Held.go ?_
  have F11 := (by assumption : Fr h₀ L _ _)
  have N11 := (by assumption : News h₀ L _ _)
  have N11 := news_sub (b := [(D, o), (L₀, oL)]) N11 fun p hp => .tail _ (.tail _ hp)
  have hDL : D ≠ L₀ := fun e => hne (L₀, oL) (.head _) e.symm
  refine' with_ho (K := hd.heap_1 w.params) (f := 290) ?h2 ?_
  (case h2 => k_is)
  intro ho
  refine told_B (o := o) ho B R hl hrow nd h8 hnm hok hys F11 N11 rfl rfl rfl fun h' tk m' F' N' hm1 hm2 => ?_
  exact told_C (Q := Q) ho B hdt hef hek R hrow nd h8 hnm hys hoc hod F' N' hDL hm1 hm2 hQ
end At
end
section
open PySem PySem.W PySem.Calls PyProof.Rows Builtin Builtin.Str
set_option Elab.async false
set_option maxRecDepth 100000
set_option linter.unusedVariables false
namespace At
theorem news_of_fresh {h₀ h h' : Heap} {L : Addr} {m : Str → Option Value} {objs news : List (Addr × Obj)} (F : Fr h₀ L h m) (N : News h₀ L h' news) (f : Fresh h h' objs) : News h₀ L h' (objs ++ news) := by
  intro p hp
  rcases List.mem_append.mp hp with hp | hp
  · obtain ⟨h1, h2⟩ := f p hp
    refine ⟨h1, ?_, ?_⟩
    · intro e
      obtain ⟨oL, _, _, hL, _⟩ := F.ns
      rw [← e, h2] at hL; cases hL
    · cases q : h₀.get? p.1 with
      | none => rfl
      | some o' => have := F.keep _ o' q; rw [h2] at this; cases this
  · exact N p hp
theorem exec_then {prog : Program} {w : World} {A : Around} {E : Value → Shared → Prop} {s : Shared} {st : Stmt} {rest : List Stmt} {env : Env} {Q : Flow → Shared → Prop} (P : Shared → Prop)
    (h : wpAny (model prog w) A (exec st env) (fun f s' => f = .next ∧ P s') E s) (k : ∀ s', P s' → wpAny (model prog w) A (execs rest env) Q E s') : wpAny (model prog w) A (execs (st :: rest) env) Q E s := by
  with_unfolding_all refine wpAny_execs_cons ?_
  refine wpAny_mono h (fun f s' hf => ?_) fun _ _ x => x
  obtain ⟨rfl, hp⟩ := hf
  exact k s' hp
theorem set_last {prog : Program} {w : World} {A : Around} {E : Value → Shared → Prop} {s : Shared} {l : Addr} {ys : List Value} {x v : Value} {t : Tok} {c : Nat} {Q : Unit → Shared → Prop} (ho : s.heap.get? l = some (lstObj (ys ++ [x]).toArray c))
    (hQ : ∀ h' c', h'.get? l = some (lstObj (ys ++ [v]).toArray c') → Heap.SameBut l s.heap h' → Q () { s with heap := h' }) : wpAny (model prog w) A (setItem (.ref l) (.int (-1) t) v) Q E s := by
  have hl : s.heap.IsList l (ys ++ [x]).toArray := ⟨_, ho, rfl, _, rfl⟩
  have hidx : seqIndex? (Int.negSucc 0) (ys ++ [x]).toArray.size = some ys.length := by
    rw [seqIndex_neg (by decide) (by simp; omega)]
    simp
    omega
  have hx : (ys ++ [x]).toArray[ys.length]? = some x := by simp
  unfold setItem
  try with_reducible refine wpAny_holding ?_
  first | refine wpAny_bind (wpAny_pure ?_) | skip
  refine wpAny_bind (wpAny_sequenceKey hl.typeIs (by decide) ?_)
  refine wpAny_bind (wpAny_callSpecial?_slot (name := Str.ofString "__setitem__") hl.typeIs slot_list_setitem
    (wpAny_call_entry slot_list_setitem hl.typeIs entry_list_setitem ?_ (args_list_setitem _ _ _)))
  show wpAny _ _ (Builtin.List.listSubscript? (.int (-1) t) >>= _) _ _ s
  refine wpAny_bind (wpAny_listSubscript_int (fitsIndex_neg (by decide) (by decide)) ?_)
  show wpAny _ _ ((Builtin.List.listItems (.ref l) >>= fun xs => pure ((seqIndex? (Int.negSucc 0) xs.size).bind fun i => xs[i]?.map (i, ·))) >>= _) _ _ s
  refine wpAny_bind (wpAny_bind ?_)
  show wpAny _ _ (seqItems? (.ref l) >>= _) _ _ s
  refine wpAny_bind (wpAny_seqItems ho rfl (wpAny_pure (wpAny_pure ?_)))
  rw [hidx]
  simp only [Option.bind_some, hx, Option.map_some]
  show wpAny _ _ (setSeqItemAt l ys.length v >>= _) _ _ s
  obtain ⟨n', e⟩ : ∃ n', Obj.mapSeq (·.setIfInBounds ys.length v) (lstObj (ys ++ [x]).toArray c) = lstObj ((ys ++ [x]).toArray.setIfInBounds ys.length v) n' := ⟨_, rfl⟩
  have e2 : (ys ++ [x]).toArray.setIfInBounds ys.length v = (ys ++ [v]).toArray := by simp
  rw [e2] at e
  have hfin := Heap.get?_update_self (Obj.mapSeq (·.setIfInBounds ys.length v)) ho (by rw [e]; rfl)
  rw [e] at hfin
  refine wpAny_bind (wpAny_setSeqItemAt ho rfl ?_)
  have key : Q () { s with heap := s.heap.update l (Obj.mapSeq (·.setIfInBounds ys.length v)) } := hQ _ _ hfin (Heap.SameBut.update ..)
  first
    | exact wpAny_bind (wpAny_pure (wpAny_pure ⟨.none, rfl, wpAny_pure key⟩))
    | exact wpAny_pure ⟨.none, rfl, wpAny_pure key⟩
theorem item_last {prog : Program} {w : World} {A : Around} {E : Value → Shared → Prop} {s : Shared} {value slice : PySem.Expr} {l : Addr} {ys : List Value} {x : Value} {u : Tok} {Q : Value → Shared → Prop} (hl : s.heap.IsList l (ys ++ [x]).toArray) (h : Q x s)
    (hs : subscripted slice false (.ref l) (.int (-1) u) = operate [.ref l, .int (-1) u] (getItem (.ref l) (.int (-1) u)) := by with_unfolding_all rfl) (hg : ∀ r, letTemporaryGo value (.ref l) r = pure () := by intro _; with_unfolding_all rfl) :
    wpAny (model prog w) A (subscriptTail value slice (.ref l) (.int (-1) u)) Q E s := by
  refine subscriptTail_builtin hl.typeIs slot_list_getitem.lookup (wpAny_getItem_list_neg hl (by decide) (by simp; omega) (by decide) ?_ h) hs hg
  have : ((-1 : Int) + ((ys ++ [x]).toArray.size : Int)).toNat = ys.length := by simp; omega
  rw [this]; simp
structure GoodR (b : Nat) (rs : List PRow) : Prop where
  nd : (rs.map (·.nm)).Nodup
  le : rs.length ≤ 8
  nm : ∀ x ∈ rs, IsNm x.nm.1 x.nm.2
  len : ∀ x ∈ rs, x.val.length ≤ b
  ok : ∀ x ∈ rs, okS x.val
abbrev rowList (rs : List PRow) (c : Nat) : Obj := lstObj (rs.map fun x => Value.ref x.a).toArray c
/-- the two lists stand -/
def St (s : Shared) (h₀ : Heap) (L l l1 c1 : Nat) (rs1 : List PRow) (b : Nat) (s' : Shared) : Prop :=
  ∃ (h' : Heap) (tk : Nat) (m' : Str → Option Value) (l2 : Addr) (c2 : Nat) (rs2 : List PRow) (objs : List (Addr × Obj)), s' = { s with heap := h', toks := tk } ∧ Fr h₀ L h' m' ∧ News h₀ L h' ((l2, rowList rs2 c2) :: (l1, rowList rs1 c1) :: objs) ∧
    (∀ H, Has objs H → RowsIn H rs1 ∧ RowsIn H rs2) ∧ GoodR b rs2 ∧ (∀ p ∈ objs, p.1 ≠ l2) ∧ l1 ≠ l2 ∧ m' "pairs" = some (.ref l1) ∧ m' "others" = some (.ref l2) ∧ m' "script" = some (.ref l)
end At
end
section
open PySem PySem.W PySem.Calls PyProof.Rows Builtin Builtin.Str
set_option Elab.async false
set_option maxRecDepth 100000
set_option linter.unusedVariables false
namespace At
local macro_rules | `(tactic| walk_at "execs cons") => `(tactic| refine held ?_)
local macro_rules | `(tactic| walk_at "zz step") => `(tactic| (refine Held.go ?_; refine gen_any ?_; intro tk; with_unfolding_all refine wpAny_execs_cons ?_))
set_option maxHeartbeats 4000000 in
theorem law_A1 {prog : Program} {w : World} {s : Shared} {h₀ : Heap} {L l f : Addr} {cd : Value} {vs : List Value} {ns : List Int} {m : Str → Option Value} {Q : Flow → Shared → Prop}
    {name qual : Str} {params : Arguments} {body : List Stmt} {scope : Scope} {dV kV doc pm cdv ct oc : Value} {an od : Option Addr} {osl : Array (Option Value)}
    (ho : (hd.heap_1 w.params).lookup 302 = some ⟨oc, od, .func (fnOf name qual params body scope dV kV doc pm an cdv ct), osl⟩)
    (B : Base w h₀) (hl : h₀.IsList l vs.toArray) (hi : IntsAre vs ns) (h63 : ns.length ≤ 63)
    (F : Fr h₀ L s.heap m) (N : News h₀ L s.heap []) (hm1 : m "script" = some (.ref l))
    (hQ : ∀ l1 c1 rs1 s', GoodR 18 rs1 → St s h₀ L l l1 c1 rs1 18 s' → wpAny (model prog w) (callerA.deeper (envOf qual scope L f cd)) (execs (body.drop 3) (envOf qual scope L f cd)) Q noE s') :
    wpAny (model prog w) (callerA.deeper (envOf qual scope L f cd)) (execs (body.drop 0) (envOf qual scope L f cd)) Q noE s := by
  obtain ⟨X, p, loose, mean, mg, mb, T⟩ := id B
  revert hQ
  refine' with_fn (P := fun qual body scope cdv => (∀ l1 c1 rs1 s', GoodR 18 rs1 → St s h₀ L l l1 c1 rs1 18 s' → wpAny (model prog w) (callerA.deeper (envOf qual scope L f cd)) (execs (body.drop 3) (envOf qual scope L f cd)) Q noE s') → wpAny (model prog w) (callerA.deeper (envOf qual scope L f cd)) (execs (body.drop 0) (envOf qual scope L f cd)) Q noE s) ?h2 ho ?_
  (case h2 => k_is)
  clear ho
  dsimp only [List.drop]
  intro hQ
  refine held ?_
  walk_at "zz step"
  walk_at "zz go"
  refine' use_fr (A₁ := Lv 10) (law_pairs (vs := vs) ?ub ?ul ?ui) ?u1 ?u2 ?u3 ?u4 ?u5 ?u6 ?u7 ?_
  (case ul => exact Fr.lst (by assumption) hl)
  (case ui => exact IntsAre.all hi)
  walk_at "zz use"
  rintro _ h2 tk2 - k2 F2 N2 ⟨l1, c1, rs1, objs1, rfl, hf1, hr1, hne1, nd1, le1, hg1⟩
  have N3 := news_of_fresh F N2 hf1
  rw [List.append_nil] at N3
  clear N2 N
  walk_at "zz go"
  walk_at "zz step"
  walk_at "zz go"
  have g1 : GoodR 18 rs1 := ⟨nd1, le1, fun x hx => (hg1 x hx).1, fun x hx => (hg1 x hx).2.1, fun x hx => (hg1 x hx).2.2⟩
  refine Held.go ?_
  refine exec_then (St s h₀ L l l1 c1 rs1 18) ?_ ?_
  · walk_at "zz go"
    · walk_at "zz step"
      walk_at "zz go"
      have hpos : (0 : Int) < (ns.length : Int) := by omega
      have hk0 := Int.fmod_nonneg_of_pos (if ns.getD (Int.toNat 0) 0 < 0 then -ns.getD (Int.toNat 0) 0 else ns.getD (Int.toNat 0) 0) hpos
      have hk1 := Int.fmod_lt_of_pos (if ns.getD (Int.toNat 0) 0 < 0 then -ns.getD (Int.toNat 0) 0 else ns.getD (Int.toNat 0) 0) hpos
      rename_i F3 N3
      generalize (if ns.getD (Int.toNat 0) 0 < 0 then -ns.getD (Int.toNat 0) 0 else ns.getD (Int.toNat 0) 0).fmod (ns.length : Int) = kk at F3 hk0 hk1
      walk_at "zz step"
      walk_at "zz go"
      have hvl : vs.length = ns.length := hi.length
      refine slice_list (s := ⟨_, s.gens, s.drawn, _, s.os⟩) (lo := some kk) (hi := none) F3 N3 (F3.lst hl) (by first | exact .int _ _ | exact .none) (by first | exact .int _ _ | exact .none) (fun h4 F4 N4 => ?_) (hsz := by rw [sizeLine_eq]; simp; omega)
      clear F3 N3
      walk_at "zz go"
      refine slice_list (s := ⟨_, s.gens, s.drawn, _, s.os⟩) (lo := none) (hi := some kk) F4 N4 (F4.lst hl) (by first | exact .int _ _ | exact .none) (by first | exact .int _ _ | exact .none) (fun h5 F5 N5 => ?_) (hsz := by rw [sizeLine_eq]; simp; omega)
      clear F4 N4
      have i1 := slice_ints_fromW hi hk0
      have i2 := slice_ints_uptoW hi hk0
      walk_at "zz go"
      rename_i D6 ws6 h6 F6 N6 i3 l6
      refine' use_fr (A₁ := Lv 10) (law_pairs (vs := ws6) ?ub ⟨_, (N6 _ (.head _)).1, rfl, _, rfl⟩ (IntsAre.all i3)) ?u1 ?u2 ?u3 ?u4 ?u5 ?u6 ?u7 ?_
      walk_at "zz use"
      rintro _ h7 tk7 - k7 F7 N7 ⟨l2, c2, rs2, objs2, rfl, hf2, hr2, hne2, nd2, le2, hg2⟩
      have N8 := news_of_fresh F6 (news_sub (b := (l1, rowList rs1 c1) :: objs1) N7 fun p hp => .tail _ (.tail _ (.tail _ (.tail _ hp)))) hf2
      have hfl2 := (hf2 _ (.head _)).2
      have hl12 : l1 ≠ l2 := fun e => by
        have := (N6 _ (.tail _ (.tail _ (.tail _ (.tail _ (.head _)))))).1
        rw [show ((l1, rowList rs1 c1) : Addr × Obj).1 = l2 from e] at this
        rw [hfl2] at this; cases this
      have ho2 : ∀ p ∈ objs1, p.1 ≠ l2 := fun p hp e => by
        have := (N6 _ (.tail _ (.tail _ (.tail _ (.tail _ (.tail _ hp)))))).1
        rw [e, hfl2] at this; cases this
      clear N6 F6 N7
      walk_at "zz go"
      have F9 := (by assumption : Fr h₀ L _ _)
      have N9 := (by assumption : News h₀ L _ _)
      refine ⟨_, _, _, l2, c2, rs2, objs2 ++ objs1, rfl, F9, news_sub N9 fun p hp => ?_, fun H h => ⟨hr1 H fun p hp => h p (List.mem_append_right _ hp), hr2 H fun p hp => h p (List.mem_append_left _ hp)⟩, ⟨nd2, le2, fun x hx => (hg2 x hx).1, fun x hx => (hg2 x hx).2.1, fun x hx => (hg2 x hx).2.2⟩, fun p hp => ?_, hl12, rfl, rfl, hm1⟩
      · rcases List.mem_cons.mp hp with rfl | hp
        · exact .head _
        rcases List.mem_cons.mp hp with rfl | hp
        · exact List.mem_append_right _ (.head _)
        rcases List.mem_append.mp hp with hp | hp
        · exact List.mem_append_left _ (.tail _ hp)
        · exact List.mem_append_right _ (.tail _ hp)
      · rcases List.mem_append.mp hp with hp | hp
        · exact hne2 p hp
        · exact ho2 p hp
    · have F9 := (by assumption : Fr h₀ L _ _)
      have N9 := (by assumption : News h₀ L _ _)
      have hlt := (by assumption : _ < _ ∧ AllLt _ objs1)
      exact ⟨_, _, _, _, _, rs1, objs1, rfl, F9, N9, fun H h => ⟨hr1 H h, hr1 H h⟩, g1, fun p hp => Nat.ne_of_lt (tb_ltOf hlt.2 p hp), Nat.ne_of_lt hlt.1, rfl, rfl, hm1⟩
  intro s' hs'
  exact hQ _ _ _ s' g1 hs'
end At
end
section
open PySem PySem.W PySem.Calls PyProof.Rows Builtin Builtin.Str
set_option Elab.async false
set_option maxRecDepth 100000
set_option linter.unusedVariables false
namespace At
local macro_rules | `(tactic| walk_at "execs cons") => `(tactic| refine held ?_)
local macro_rules | `(tactic| walk_at "zz step") => `(tactic| (refine Held.go ?_; refine gen_any ?_; intro tk; with_unfolding_all refine wpAny_execs_cons ?_))
set_option maxHeartbeats 4000000 in
theorem law_A2 {prog : Program} {w : World} {s s' : Shared} {h₀ : Heap} {L l f : Addr} {cd : Value} {vs : List Value} {ns : List Int} {l1 c1 : Nat} {rs1 : List PRow} {Q : Flow → Shared → Prop}
    {name qual : Str} {params : Arguments} {body : List Stmt} {scope : Scope} {dV kV doc pm cdv ct oc : Value} {an od : Option Addr} {osl : Array (Option Value)}
    (ho : (hd.heap_1 w.params).lookup 302 = some ⟨oc, od, .func (fnOf name qual params body scope dV kV doc pm an cdv ct), osl⟩)
    (B : Base w h₀) (hl : h₀.IsList l vs.toArray) (hi : IntsAre vs ns) (h63 : ns.length ≤ 63) (hs : St s h₀ L l l1 c1 rs1 18 s')
    (hQ : ∀ s', St s h₀ L l l1 c1 rs1 19 s' → wpAny (model prog w) (callerA.deeper (envOf qual scope L f cd)) (execs (body.drop 5) (envOf qual scope L f cd)) Q noE s') :
    wpAny (model prog w) (callerA.deeper (envOf qual scope L f cd)) (execs (body.drop 3) (envOf qual scope L f cd)) Q noE s' := by
  obtain ⟨X, p, loose, mean, mg, mb, T⟩ := id B
  revert hQ
  refine' with_fn (P := fun qual body scope cdv => (∀ s', St s h₀ L l l1 c1 rs1 19 s' → wpAny (model prog w) (callerA.deeper (envOf qual scope L f cd)) (execs (body.drop 5) (envOf qual scope L f cd)) Q noE s') → wpAny (model prog w) (callerA.deeper (envOf qual scope L f cd)) (execs (body.drop 3) (envOf qual scope L f cd)) Q noE s') ?h2 ho ?_
  (case h2 => k_is)
  clear ho
  dsimp only [List.drop]
  intro hQ
  obtain ⟨h', tk, m', l2, c2, rs2, objs, rfl, F, N, hr, g2, ho2, hl12, hp1, hp2, hp3⟩ := hs
  refine exec_then (St s h₀ L l l1 c1 rs1 19) ?_ ?_
  · walk_at "zz go"
    refine PyProof.Rows.len_list ⟨_, (N _ (.head _)).1, rfl, _, rfl⟩ (by have := g2.le; simp; omega) ?_
    simp only [List.size_toArray, List.length_map]
    walk_at "zz go"
    · obtain ⟨ys, x, rfl⟩ : ∃ ys x, rs2 = ys ++ [x] := by
        rcases List.eq_nil_or_concat rs2 with e | ⟨ys, x, e⟩
        · subst e
          have := (by assumption : (0 : Int) < (([] : List PRow).length : Int))
          simp at this
        · exact ⟨ys, x, by rw [e, List.concat_eq_append]⟩
      have hxm : x ∈ ys ++ [x] := List.mem_append_right _ (.head _)
      have hxr := (hr h' fun p hp => (N p (.tail _ (.tail _ hp))).1).2 x hxm
      have hxl := g2.len x hxm
      have hN := N
      unfold rowList at hN
      rw [List.map_append, List.map_cons, List.map_nil] at hN
      clear N
      walk_at "zz step"
      walk_at "zz go"
      have hlast := (hN _ (.head _)).1
      dsimp only at hlast
      refine item_last ⟨_, hlast, rfl, _, rfl⟩ ?_
      walk_at "zz go"
      refine item_tupleT (l := [.ref x.ka, .str x.val x.tok]) (j := 0) hxr.1 (by decide) (by decide) rfl rfl ?_
      walk_at "zz go"
      refine item_last ⟨_, hlast, rfl, _, rfl⟩ ?_
      walk_at "zz go"
      refine item_tupleT (l := [.ref x.ka, .str x.val x.tok]) (j := 1) hxr.1 (by decide) (by decide) rfl rfl ?_
      walk_at "zz go"
      rename_i t9 k9 a9 D9 h9 F9 N9 l9
      have hl2 := N9 _ (.tail _ (.head _))
      refine set_last hl2.1 fun h10 c10 ho10 hs10 => ?_
      have F10 := F9.change hs10 hl2.2.1 hl2.2.2
      have hD2 : D9 ≠ l2 := Nat.ne_of_gt l9.1
      have N10 : News h₀ L h10 ((l2, lstObj (ys.map (fun x => Value.ref x.a) ++ [Value.ref D9]).toArray c10) :: (l1, rowList rs1 c1) :: (D9, tupObj [.ref x.ka, .str (x.val ++ Str.ofString "&") t9]) :: objs) := by
        have hrest : News h₀ L h10 ((D9, tupObj [.ref x.ka, .str (x.val ++ Str.ofString "&") t9]) :: (l1, rowList rs1 c1) :: objs) := by
          refine News.same (news_sub N9 fun p hp => ?_) hs10 fun p hp => ?_
          · rcases List.mem_cons.mp hp with rfl | hp
            · exact .head _
            · exact .tail _ (.tail _ hp)
          · rcases List.mem_cons.mp hp with rfl | hp
            · exact hD2
            rcases List.mem_cons.mp hp with rfl | hp
            · exact hl12
            · exact ho2 p hp
        intro p hp
        rcases List.mem_cons.mp hp with rfl | hp
        · exact ⟨ho10, hl2.2⟩
        rcases List.mem_cons.mp hp with rfl | hp
        · exact hrest _ (.tail _ (.head _))
        rcases List.mem_cons.mp hp with rfl | hp
        · exact hrest _ (.head _)
        · exact hrest _ (.tail _ (.tail _ hp))
      clear N9 F9
      walk_at "zz go"
      have F11 := (by assumption : Fr h₀ L _ _)
      have N11 := (by assumption : News h₀ L _ _)
      have hym : ∀ y ∈ ys, y ∈ ys ++ [x] := fun y hy => List.mem_append_left _ hy
      refine ⟨_, _, _, l2, c10, ys ++ [⟨D9, x.ka, x.nm, x.val ++ Str.ofString "&", t9⟩], (D9, tupObj [.ref x.ka, .str (x.val ++ Str.ofString "&") t9]) :: objs, rfl, F11, ?_, fun H hH => ?_, ⟨?_, ?_, fun y hy => ?_, fun y hy => ?_, fun y hy => ?_⟩, fun p hp => ?_, hl12, hp1, hp2, hp3⟩
      · unfold rowList
        rw [List.map_append, List.map_cons, List.map_nil]
        exact N11
      · obtain ⟨r1, r2⟩ := hr H fun p hp => hH p (.tail _ hp)
        refine ⟨r1, fun y hy => ?_⟩
        rcases List.mem_append.mp hy with hy | hy
        · exact r2 y (hym y hy)
        · obtain rfl := List.mem_singleton.mp hy
          exact ⟨⟨_, hH _ (.head _), rfl, _, rfl⟩, (r2 x hxm).2⟩
      · have := g2.nd
        rw [List.map_append] at this ⊢
        exact this
      · have := g2.le
        simpa using this
      · rcases List.mem_append.mp hy with hy | hy
        · exact g2.nm y (hym y hy)
        · obtain rfl := List.mem_singleton.mp hy
          exact g2.nm x hxm
      · rcases List.mem_append.mp hy with hy | hy
        · exact Nat.le_trans (g2.len y (hym y hy)) (by decide)
        · obtain rfl := List.mem_singleton.mp hy
          show (x.val ++ Str.ofString "&").length ≤ 19
          have e1 : (Str.ofString "&").length = 1 := by decide +kernel
          rw [Str.length_append, e1]; omega
      · rcases List.mem_append.mp hy with hy | hy
        · exact g2.ok y (hym y hy)
        · obtain rfl := List.mem_singleton.mp hy
          exact okS_append (g2.ok x hxm) (by decide +kernel)
      · rcases List.mem_cons.mp hp with rfl | hp
        · exact hD2
        · exact ho2 p hp
    · exact ⟨_, _, _, l2, c2, rs2, objs, rfl, F, N, hr, ⟨g2.nd, g2.le, g2.nm, fun x hx => Nat.le_trans (g2.len x hx) (by decide), g2.ok⟩, ho2, hl12, hp1, hp2, hp3⟩
    · exact ⟨_, _, _, l2, c2, rs2, objs, rfl, F, N, hr, ⟨g2.nd, g2.le, g2.nm, fun x hx => Nat.le_trans (g2.len x hx) (by decide), g2.ok⟩, ho2, hl12, hp1, hp2, hp3⟩
  clear hp1 hp2 hp3 hl12 ho2 hr g2 N F
  rintro s' ⟨h', tk, m', l2, c2, rs2, objs, rfl, F, N, hr, g2, ho2, hl12, hp1, hp2, hp3⟩
  refine Held.go ?_
  refine exec_then (St s h₀ L l l1 c1 rs1 19) ?_ fun s' hs => hQ s' hs
  walk_at "zz go"
  · walk_at "zz step"
    walk_at "zz go"
    have hle := g2.le
    have hlt : ∀ p ∈ (l1, rowList rs1 c1) :: objs, p.1 < h'.objs.size := fun p hp => Heap.lt_size (N p (.tail _ hp)).1
    refine slice_list (s := ⟨h', s.gens, s.drawn, _, s.os⟩) (lo := some 1) (hi := none) F N ⟨_, (N _ (.head _)).1, rfl, _, rfl⟩ (by first | exact .int _ _ | exact .none) (by first | exact .int _ _ | exact .none) (fun h4 F4 N4 => ?_) (hsz := by rw [sizeLine_eq]; simp; omega)
    walk_at "zz go"
    have F9 := (by assumption : Fr h₀ L _ _)
    have N9 := (by assumption : News h₀ L _ _)
    have e1 : slicePick (rs2.map fun x => Value.ref x.a).toArray (some 1) none none = ((rs2.drop 1).map fun x => Value.ref x.a).toArray := by
      rw [show (some (1 : Int)) = some ((1 : Nat) : Int) from rfl, slicePick_from', List.map_drop]
    rw [e1] at N9
    have hdm : ∀ x ∈ rs2.drop 1, x ∈ rs2 := fun x hx => List.mem_of_mem_drop hx
    refine ⟨_, _, _, h'.objs.size + 1, 0, rs2.drop 1, objs, rfl, F9, news_sub N9 fun p hp => ?_, fun H hH => ⟨(hr H hH).1, fun x hx => (hr H hH).2 x (hdm x hx)⟩, ⟨?_, ?_, fun x hx => g2.nm x (hdm x hx), fun x hx => g2.len x (hdm x hx), fun x hx => g2.ok x (hdm x hx)⟩, fun p hp => ?_, ?_, hp1, rfl, hp3⟩
    · rcases List.mem_cons.mp hp with rfl | hp
      · exact .head _
      · exact .tail _ (.tail _ hp)
    · rw [List.map_drop]
      exact List.Pairwise.sublist (List.drop_sublist _ _) g2.nd
    · rw [List.length_drop]; omega
    · exact Nat.ne_of_lt (Nat.lt_succ_of_lt (hlt p (.tail _ hp)))
    · exact Nat.ne_of_lt (Nat.lt_succ_of_lt (hlt (l1, rowList rs1 c1) (.head _)))
  · exact ⟨_, _, _, l2, c2, rs2, objs, rfl, F, N, hr, g2, ho2, hl12, hp1, hp2, hp3⟩
end At
end
section
open PySem PySem.W PySem.Calls PyProof.Rows Builtin Builtin.Str
set_option Elab.async false
set_option maxRecDepth 100000
set_option linter.unusedVariables false
namespace At
/-- a reader and the list that it was made of, borne by a ledger -/
def Rdr (prog : Program) (w : World) (objs : List (Addr × Obj)) (r l : Addr) (rs : List PRow) : Prop :=
  ∃ (dv dq : Addr) (ys : List Ent), (∀ H, Has objs H → NSRd prog w H r dv dq (rs.map PRow.ent) ys ∧ H.IsList l (rs.map fun x => Value.ref x.a).toArray ∧ RowsIn H rs) ∧
    ys.map (fun y => (y.nm, y.ka, y.val)) = rs.map (fun x => (x.nm, x.ka, qn x.nm.1 x.nm.2)) ∧ GoodR 19 rs
theorem Has.mono {a b : List (Addr × Obj)} {H : Heap} (h : Has b H) (s : ∀ p ∈ a, p ∈ b) : Has a H := fun p hp => h p (s p hp)
theorem Rdr.mono {prog : Program} {w : World} {a b : List (Addr × Obj)} {r l : Addr} {rs : List PRow} (h : Rdr prog w a r l rs) (s : ∀ p ∈ a, p ∈ b) : Rdr prog w b r l rs :=
  let ⟨dv, dq, ys, f, e, g⟩ := h; ⟨dv, dq, ys, fun H hH => f H (hH.mono s), e, g⟩
theorem has_news {h₀ h : Heap} {L : Addr} {a news : List (Addr × Obj)} (N : News h₀ L h news) (s : ∀ p ∈ a, p ∈ news) : Has a h := fun p hp => (N p (s p hp)).1
theorem inst_has {h₀ h : Heap} {L r C : Addr} {ox od : Obj} {objs news : List (Addr × Obj)} (I : ∀ H, Has objs H → InstAt H r ox C (some od)) (N : News h₀ L h news) (s : ∀ p ∈ objs, p ∈ news) : InstAt h r ox C (some od) := I h (has_news N s)
theorem has_hide {objs : List (Addr × Obj)} {h : Heap} {a : Addr} (hH : Has objs h) (n : ∀ p ∈ objs, p.1 ≠ a) : Has objs (h.hide a) := fun p hp => by rw [Heap.hide_ne _ (n p hp)]; exact hH p hp
theorem Rdr.instAt {prog : Program} {w : World} {h : Heap} {objs : List (Addr × Obj)} {r l : Addr} {rs : List PRow} (x : Rdr prog w objs r l rs) (hH : Has objs h) : ∃ (dx dv dq : Addr) (t u : Nat), ∀ H, Has objs H → InstAt H r (instObj 200 dx) 200 (some (dictOf (nsE w t u dv dq) 2)) := by
  obtain ⟨dv, dq, ys, fx, _, _⟩ := x
  obtain ⟨dx, t, u, h1, h2⟩ := (fx h hH).1.inst
  have m1 : ∃ p ∈ objs, p.1 = r := by
    by_cases q : ∃ p ∈ objs, p.1 = r
    · exact q
    · obtain ⟨_, _, _, e, _⟩ := (fx (h.hide r) (has_hide hH fun p hp e => q ⟨p, hp, e⟩)).1.inst
      rw [Heap.hide_self] at e; cases e
  obtain ⟨⟨a1, o1⟩, hm1, rfl⟩ := m1
  have e1 := hH _ hm1
  dsimp only at e1 h1
  rw [h1] at e1
  obtain rfl := Option.some.inj e1
  have m2 : ∃ p ∈ objs, p.1 = dx := by
    by_cases q : ∃ p ∈ objs, p.1 = dx
    · exact q
    · have hd := has_hide hH fun p hp e => q ⟨p, hp, e⟩
      obtain ⟨dx', _, _, e, e'⟩ := (fx (h.hide dx) hd).1.inst
      have e2 := hd _ hm1
      dsimp only at e2
      rw [e2] at e
      have e3 := Option.some.inj e
      have e4 : some dx = some dx' := congrArg Obj.dict e3
      obtain rfl := Option.some.inj e4
      rw [Heap.hide_self] at e'; cases e'
  obtain ⟨⟨a2, o2⟩, hm2, rfl⟩ := m2
  have e2 := hH _ hm2
  dsimp only at e2 h2
  rw [h2] at e2
  obtain rfl := Option.some.inj e2
  exact ⟨_, dv, dq, t, u, fun H hH' => inst_of (hH' _ hm1) (hH' _ hm2)⟩
/-- told, from the law's own frame -/
theorem told_in {prog : Program} {w : World} {E : Value → Shared → Prop} {s : Shared} {h₀ : Heap} {L r l f : Addr} {q : Str} {sc : Scope} {cd : Value} {m : Str → Option Value} {news objs : List (Addr × Obj)} {rs : List PRow} {Q : Value → Shared → Prop}
    (B : Base w h₀) (F : Fr h₀ L s.heap m) (N : News h₀ L s.heap news) (x : Rdr prog w objs r l rs) (hs : ∀ p ∈ objs, p ∈ news) (hk : sc.kind = .function)
    (hQ : ∀ h' tk, Fr h₀ L h' m → News h₀ L h' news → Q (.bool true) { s with heap := h', toks := tk }) :
    wpAny (model prog w) (callerA.deeper (envOf q sc L f cd)) (call (.ref 290) [.ref r, .ref l]) Q E s := by
  obtain ⟨dv, dq, ys, fx, hys, g⟩ := x
  obtain ⟨oL, es, ep, hL, hdt, rL⟩ := id F.ns
  have hL0 := kts_self F
  have kh : h₀.StaysIn (s.heap.hide L) := fun b o e => by
    have hb : b ≠ L := by rintro rfl; rw [hL0] at e; cases e
    rw [Heap.hide_ne _ hb]; exact F.keep b o e
  have hH : Has objs (s.heap.hide L) := fun p hp => by
    have := N p (hs p hp)
    rw [Heap.hide_ne _ this.2.1]; exact this.1
  obtain ⟨R, hl, hrow⟩ := fx _ hH
  refine law_told (h₀ := s.heap.hide L) (B.keeps kh) (fun b o e => Heap.of_hide e) (Heap.hide_size _ _) (Heap.hide_self _ _) hL hdt rfl (by show sc.kind ≠ .module; rw [hk]; decide) R hl hrow g.nd g.le g.nm g.ok hys fun h' tk sl k hsl => ?_
  refine hQ h' tk ⟨⟨_, es, ep, hsl, hdt, rL⟩, fun b o e => k b o (kh b o e), F.above⟩ fun p hp => ?_
  have := N p hp
  exact ⟨k _ _ (by rw [Heap.hide_ne _ this.2.1]; exact this.1), this.2⟩
local macro_rules | `(tactic| walk_at "execs cons") => `(tactic| refine held ?_)
local macro_rules | `(tactic| walk_at "zz step") => `(tactic| (refine Held.go ?_; refine gen_any ?_; intro tk; with_unfolding_all refine wpAny_execs_cons ?_))
local macro_rules | `(tactic| k_inst) => `(tactic| (refine inst_has (by assumption) (by assumption) ?_; (intro p hp; repeat' (first | exact hp | apply List.Mem.tail | apply List.mem_append_right))))
/-- both readers stand -/
def St2 (prog : Program) (w : World) (s : Shared) (h₀ : Heap) (L : Nat) (s' : Shared) : Prop :=
  ∃ (h' : Heap) (tk : Nat) (m' : Str → Option Value) (l1 l2 r1 r2 : Addr) (rs1 rs2 : List PRow) (objs : List (Addr × Obj)), s' = { s with heap := h', toks := tk } ∧ Fr h₀ L h' m' ∧ News h₀ L h' objs ∧
    Rdr prog w objs r1 l1 rs1 ∧ Rdr prog w objs r2 l2 rs2 ∧ m' "pairs" = some (.ref l1) ∧ m' "others" = some (.ref l2) ∧ m' "first" = some (.ref r1) ∧ m' "second" = some (.ref r2)
set_option maxHeartbeats 4000000 in
theorem law_B {prog : Program} {w : World} {s s' : Shared} {h₀ : Heap} {L l f : Addr} {cd : Value} {l1 c1 : Nat} {rs1 : List PRow} {Q : Flow → Shared → Prop}
    {name qual : Str} {params : Arguments} {body : List Stmt} {scope : Scope} {dV kV doc pm cdv ct oc : Value} {an od : Option Addr} {osl : Array (Option Value)}
    (ho : (hd.heap_1 w.params).lookup 302 = some ⟨oc, od, .func (fnOf name qual params body scope dV kV doc pm an cdv ct), osl⟩)
    (B : Base w h₀) (g1 : GoodR 18 rs1) (hs : St s h₀ L l l1 c1 rs1 19 s')
    (hQ : ∀ s', St2 prog w s h₀ L s' → wpAny (model prog w) (callerA.deeper (envOf qual scope L f cd)) (execs (body.drop 7) (envOf qual scope L f cd)) Q noE s') :
    wpAny (model prog w) (callerA.deeper (envOf qual scope L f cd)) (execs (body.drop 5) (envOf qual scope L f cd)) Q noE s' := by
  obtain ⟨X, p, loose, mean, mg, mb, T⟩ := id B
  revert hQ
  refine' with_fn (P := fun qual body scope cdv => (∀ s', St2 prog w s h₀ L s' → wpAny (model prog w) (callerA.deeper (envOf qual scope L f cd)) (execs (body.drop 7) (envOf qual scope L f cd)) Q noE s') → wpAny (model prog w) (callerA.deeper (envOf qual scope L f cd)) (execs (body.drop 5) (envOf qual scope L f cd)) Q noE s') ?h2 ho ?_
  (case h2 => k_is)
  clear ho
  dsimp only [List.drop]
  intro hQ
  obtain ⟨h', tk, m', l2, c2, rs2, objs, rfl, F, N, hr, g2, ho2, hl12, hp1, hp2, hp3⟩ := hs
  refine held ?_
  walk_at "zz step"
  walk_at "zz go"
  have hb1 := hr h' fun p hp => (N p (.tail _ (.tail _ hp))).1
  refine' use_fr (A₁ := Lv 12) (law_reader ?ub ⟨_, (N _ (.tail _ (.head _))).1, rfl, _, rfl⟩ hb1.1 g1.nd g1.le g1.nm) ?u1 ?u2 ?u3 ?u4 ?u5 ?u6 ?u7 ?_
  walk_at "zz use"
  rintro _ h2 tk2 - k2 F2 N2 ⟨r1, dv1, dq1, ys1, objs1, rfl, hf1, hys1, hrd1⟩
  have N3 := news_of_fresh F N2 hf1
  clear N2
  walk_at "zz go"
  have h2objs : Has objs h2 := fun p hp => (N3 p (List.mem_append_right _ (.tail _ (.tail _ hp)))).1
  have hb2 := hr h2 h2objs
  have hl2 := (N3 (l2, rowList rs2 c2) (List.mem_append_right _ (.head _))).1
  refine' use_fr (A₁ := Lv 12) (law_reader ?ub ⟨_, hl2, rfl, _, rfl⟩ hb2.2 g2.nd g2.le g2.nm) ?u1 ?u2 ?u3 ?u4 ?u5 ?u6 ?u7 ?_
  walk_at "zz use"
  rintro _ h3 tk3 - k3 F3 N4 ⟨r2, dv2, dq2, ys2, objs2, rfl, hf2, hys2, hrd2⟩
  have N5 := news_of_fresh F2 N4 hf2
  clear N4 N3 F2 N F k2 k3 hf1 hf2 hb1 hb2 hl2 h2objs
  have R1 : Rdr prog w (objs2 ++ (objs1 ++ (l2, rowList rs2 c2) :: (l1, rowList rs1 c1) :: objs)) r1 l1 rs1 := by
    refine ⟨dv1, dq1, ys1, fun H hH => ?_, hys1, g1.nd, g1.le, g1.nm, fun x hx => Nat.le_trans (g1.len x hx) (by decide), g1.ok⟩
    have hR := (hr H fun p hp => hH p (List.mem_append_right _ (List.mem_append_right _ (.tail _ (.tail _ hp))))).1
    exact ⟨hrd1 H (fun p hp => hH p (List.mem_append_right _ (List.mem_append_left _ hp))) hR, ⟨_, hH _ (List.mem_append_right _ (List.mem_append_right _ (.tail _ (.head _)))), rfl, _, rfl⟩, hR⟩
  have R2 : Rdr prog w (objs2 ++ (objs1 ++ (l2, rowList rs2 c2) :: (l1, rowList rs1 c1) :: objs)) r2 l2 rs2 := by
    refine ⟨dv2, dq2, ys2, fun H hH => ?_, hys2, g2⟩
    have hR := (hr H fun p hp => hH p (List.mem_append_right _ (List.mem_append_right _ (.tail _ (.tail _ hp))))).2
    exact ⟨hrd2 H (fun p hp => hH p (List.mem_append_left _ hp)) hR, ⟨_, hH _ (List.mem_append_right _ (List.mem_append_right _ (.head _))), rfl, _, rfl⟩, hR⟩
  generalize objs2 ++ (objs1 ++ (l2, rowList rs2 c2) :: (l1, rowList rs1 c1) :: objs) = all at R1 R2 N5
  clear hrd1 hrd2 hys1 hys2 hr g1 g2 ho2 hl12
  walk_at "zz go"
  have F6 := (by assumption : Fr h₀ L _ _)
  have N6 := (by assumption : News h₀ L _ _)
  have N7 := news_sub (b := all) N6 fun p hp => .tail _ hp
  clear N6
  obtain ⟨dx2, dv2', dq2', t2', u2', I2⟩ := R2.instAt (has_news N7 fun p hp => hp)
  refine Held.go ?_
  refine exec_then (St2 prog w s h₀ L) ?_ fun s' hs => hQ s' hs
  walk_at "zz go"
  refine told_in B F6 N7 R1 (fun p hp => hp) rfl fun h8 tk8 F8 N8 => ?_
  clear F6 N7
  walk_at "zz go"
  obtain ⟨dv2, dq2, ys2, fx2, hys2, g2⟩ := R2
  refine' use_fr (A₁ := Lv 14) (ns_copyR ?ub (fx2 _ (has_news N8 fun p hp => hp)).1) ?u1 ?u2 ?u3 ?u4 ?u5 ?u6 ?u7 ?_
  walk_at "zz use"
  rintro _ h9 tk9 - k9 F9 N9 ⟨r3, objs3, rfl, hf3, hrd3⟩
  have N10 := news_of_fresh F8 N9 hf3
  clear N9 F8 N8
  have R3 : Rdr prog w (objs3 ++ all) r3 l2 rs2 := ⟨dv2, dq2, ys2, fun H hH => ⟨hrd3 H (fun p hp => hH p (List.mem_append_left _ hp)) (fx2 H fun p hp => hH p (List.mem_append_right _ hp)).1, (fx2 H fun p hp => hH p (List.mem_append_right _ hp)).2⟩, hys2, g2⟩
  walk_at "zz go"
  refine told_in B F9 N10 R3 (fun p hp => hp) rfl fun h11 tk11 F11 N11 => ?_
  clear F9 N10
  walk_at "zz go"
  have F12 := (by assumption : Fr h₀ L _ _)
  exact ⟨_, _, _, l1, l2, r1, r2, rs1, rs2, objs3 ++ all, rfl, F12, N11, R1.mono fun p hp => List.mem_append_right _ hp, Rdr.mono ⟨dv2, dq2, ys2, fx2, hys2, g2⟩ fun p hp => List.mem_append_right _ hp, hp1, hp2, rfl, rfl⟩
end At
end
section
open PySem PySem.W PySem.Calls PyProof.Rows Builtin Builtin.Str
set_option Elab.async false
set_option maxRecDepth 100000
set_option linter.unusedVariables false
namespace At
/-! two tags are the same text exactly if they were written from the same rows -/
theorem cut_at {c : Nat} : ∀ {u u' r r' : List Nat}, u ++ c :: r = u' ++ c :: r' → c ∉ u → c ∉ u' → u = u' ∧ r = r'
  | [], [], r, r', e, _, _ => ⟨rfl, by injection e⟩
  | [], x :: u', r, r', e, _, h => by
    rw [List.nil_append, List.cons_append] at e
    injection e with e1 _
    exact absurd (e1 ▸ List.Mem.head _) h
  | x :: u, [], r, r', e, h, _ => by
    rw [List.nil_append, List.cons_append] at e
    injection e with e1 _
    exact absurd (e1 ▸ List.Mem.head _) h
  | x :: u, y :: u', r, r', e, h, h' => by
    rw [List.cons_append, List.cons_append] at e
    injection e with e1 e2
    obtain ⟨e3, e4⟩ := cut_at e2 (fun m => h (.tail _ m)) (fun m => h' (.tail _ m))
    exact ⟨by rw [e1, e3], e4⟩
theorem qa_cut {x y : Str} {r r' : List Nat} (e : (qa x).cps.toList ++ r = (qa y).cps.toList ++ r') : x = y ∧ r = r' := by
  obtain ⟨q, b, _, h1, n1, u1, _⟩ := qa_spec x
  obtain ⟨q', b', _, h2, n2, u2, _⟩ := qa_spec y
  rw [h1, h2, List.cons_append, List.cons_append, List.append_assoc, List.append_assoc] at e
  injection e with e1 e2
  subst e1
  obtain ⟨e3, e4⟩ := cut_at (r := r) (r' := r') e2 n1 n2
  subst e3
  rw [u1] at u2
  exact ⟨str_ext u2, e4⟩
theorem seg_cut {p p' : Nm × Str} (h : IsNm p.1.1 p.1.2) (h' : IsNm p'.1.1 p'.1.2) {r r' : List Nat} (e : segL p ++ r = segL p' ++ r') : p = p' ∧ r = r' := by
  unfold segL at e
  rw [List.cons_append, List.cons_append] at e
  injection e with _ e
  rw [List.append_assoc, List.append_assoc, List.cons_append, List.cons_append] at e
  obtain ⟨e1, e2⟩ := cut_at e (qn_61 (n := p.1) h) (qn_61 (n := p'.1) h')
  obtain ⟨e3, e4⟩ := qa_cut e2
  have e5 := qn_inj (a := p.1) (b := p'.1) h h' (str_ext e1)
  obtain ⟨a, b⟩ := p
  obtain ⟨a', b'⟩ := p'
  simp only at e3 e5
  rw [e3, e5]
  exact ⟨rfl, e4⟩
theorem segs_cut : ∀ (a b : List (Nm × Str)), (∀ p ∈ a, IsNm p.1.1 p.1.2) → (∀ p ∈ b, IsNm p.1.1 p.1.2) → a.flatMap segL ++ [62] = b.flatMap segL ++ [62] → a = b
  | [], [], _, _, _ => rfl
  | [], q :: b, _, _, e => by
    rw [List.flatMap_nil, List.flatMap_cons] at e
    unfold segL at e
    simp at e
  | p :: a, [], _, _, e => by
    rw [List.flatMap_nil, List.flatMap_cons] at e
    unfold segL at e
    simp at e
  | p :: a, q :: b, ha, hb, e => by
    rw [List.flatMap_cons, List.flatMap_cons, List.append_assoc, List.append_assoc] at e
    obtain ⟨e1, e2⟩ := seg_cut (ha p (.head _)) (hb q (.head _)) e
    rw [e1, segs_cut a b (fun p hp => ha p (.tail _ hp)) (fun p hp => hb p (.tail _ hp)) e2]
theorem tag_inj {a b : List (Nm × Str)} (ha : ∀ p ∈ a, IsNm p.1.1 p.1.2) (hb : ∀ p ∈ b, IsNm p.1.1 p.1.2) (e : tagText a = tagText b) : a = b := by
  have e1 := congrArg (fun s : Str => s.cps.toList) e
  simp only [tag_list, List.append_assoc] at e1
  exact segs_cut a b ha hb (List.append_cancel_left e1)
/-! sorted lists are one -/
theorem sorted_uniq {α : Type} {lt : α → α → Bool} (irr : ∀ a, lt a a = false) (tr : ∀ a b c, lt a b = true → lt b c = true → lt a c = true) : ∀ {a b : List α}, a.Perm b → a.Pairwise (fun x y => lt x y = true) → b.Pairwise (fun x y => lt x y = true) → a = b
  | [], b, h, _, _ => (List.nil_perm.mp h).symm
  | x :: a, [], h, _, _ => absurd (List.Perm.symm h) (by simp)
  | x :: a, y :: b, h, ha, hb => by
    obtain ⟨h1, h2⟩ := List.pairwise_cons.mp ha
    obtain ⟨h3, h4⟩ := List.pairwise_cons.mp hb
    have hxy : x = y := by
      rcases List.mem_cons.mp (h.mem_iff.mp (.head _) : x ∈ y :: b) with e | hx
      · exact e
      rcases List.mem_cons.mp (h.mem_iff.mpr (.head _) : y ∈ x :: a) with e | hy
      · exact e.symm
      have := tr _ _ _ (h1 y hy) (h3 x hx)
      rw [irr] at this; cases this
    subst hxy
    rw [sorted_uniq irr tr (List.Perm.cons_inv h) h2 h4]
end At
end
section
open PySem PySem.W PySem.Calls PyProof.Rows Builtin Builtin.Str
set_option Elab.async false
set_option maxRecDepth 100000
set_option linter.unusedVariables false
namespace At
/-- what a row list sorts to -/
structure SortsTo (rs : List PRow) (a : List (Nm × Str)) : Prop where
  perm : a.Perm (rs.map fun x => (x.nm, x.val))
  ord : a.Pairwise fun x y => nlt x.1 y.1 = true
theorem SortsTo.uniq {rs : List PRow} {a b : List (Nm × Str)} (x : SortsTo rs a) (y : SortsTo rs b) : a = b :=
  sorted_uniq (lt := fun x y => nlt x.1 y.1) (fun _ => nlt_irr _) (fun a b c h k => nlt_trans (a := a.1) (b := b.1) (c := c.1) h k) (x.perm.trans y.perm.symm) x.ord y.ord
theorem SortsTo.mem {rs : List PRow} {a : List (Nm × Str)} (x : SortsTo rs a) {p : Nm × Str} (h : p ∈ a) : ∃ z ∈ rs, p = (z.nm, z.val) := by
  obtain ⟨z, hz, e⟩ := List.mem_map.mp (x.perm.mem_iff.mp h)
  exact ⟨z, hz, e.symm⟩
theorem sorts_ents {rs : List PRow} {zs : List Ent} (p : zs.Perm (rs.map PRow.ent)) (o : zs.Pairwise fun a b => nlt a.nm b.nm = true) : SortsTo rs (zs.map fun x => (x.nm, x.val)) := by
  refine ⟨?_, by rw [List.pairwise_map]; exact o⟩
  have := p.map fun x : Ent => (x.nm, x.val)
  rw [List.map_map] at this
  exact this
theorem sorts_rows {rs : List PRow} {zs : List (Value × PRow)} (p : zs.Perm ((rs.map fun x => Value.ref x.a).zip rs)) (o : (zs.map (·.2)).Pairwise fun a b => nlt a.nm b.nm = true) :
    SortsTo rs (zs.map fun z => (z.2.nm, z.2.val)) ∧ ∀ z ∈ zs, z.1 = .ref z.2.a ∧ z.2 ∈ rs := by
  refine ⟨⟨?_, ?_⟩, fun z hz => ?_⟩
  · have h1 := p.map fun z : Value × PRow => (z.2.nm, z.2.val)
    have h2 : ((rs.map fun x => Value.ref x.a).zip rs).map (fun z : Value × PRow => (z.2.nm, z.2.val)) = rs.map fun x => (x.nm, x.val) := by
      rw [show (fun z : Value × PRow => (z.2.nm, z.2.val)) = (fun x : PRow => (x.nm, x.val)) ∘ Prod.snd from rfl, ← List.map_map, List.map_snd_zip (by simp)]
    rw [h2] at h1
    exact h1
  · rw [List.pairwise_map] at o ⊢
    exact o
  · have hm := p.mem_iff.mp hz
    obtain ⟨i, hi⟩ := List.mem_iff_getElem?.mp hm
    rw [List.getElem?_zip_eq_some] at hi
    obtain ⟨h1, h2⟩ := hi
    rw [List.getElem?_map, h2] at h1
    exact ⟨(Option.some.inj h1).symm, List.mem_of_getElem? h2⟩
theorem does_mono {M : Model} {A : Around} {α : Type} {t : Sem α} {s : Shared} {P P' : α → Heap → Prop} (d : Does M A t s P) (h : ∀ v h', P v h' → P' v h') : Does M A t s P' := fun E =>
  wpAny_mono (d E) (fun v s' ⟨h', tk', e, ht, hk, hP⟩ => ⟨h', tk', e, ht, hk, h v h' hP⟩) fun _ _ x => x
theorem tag_c {prog : Program} {w : World} {s : Shared} {r dv dq : Addr} {rs : List PRow} {ys : List Ent} (B : Base w s.heap) (R : NSRd prog w s.heap r dv dq (rs.map PRow.ent) ys) (hys : ys.map (fun y => (y.nm, y.ka, y.val)) = rs.map (fun x => (x.nm, x.ka, qn x.nm.1 x.nm.2))) (g : GoodR 19 rs) :
    Does (model prog w) (Lv 12) (call (.ref 271) [.ref r]) s (fun v h' => ∃ a u, SortsTo rs a ∧ v = .str (tagText a) u) := by
  refine does_mono (law_tag B R (fun x hx => ?_) (fun x hx => ?_) fun x hx => ?_) fun v h' ⟨zs, u, hp, ho, e⟩ => ⟨_, u, sorts_ents hp ho, e⟩
  · obtain ⟨z, hz, rfl⟩ := List.mem_map.mp hx
    obtain ⟨y, h1, _, _, h2⟩ := ents_of hys g.nd hz
    exact ⟨y, h1, h2⟩
  · obtain ⟨z, hz, rfl⟩ := List.mem_map.mp hx
    exact qn_len (n := z.nm) (g.nm z hz)
  · obtain ⟨z, hz, rfl⟩ := List.mem_map.mp hx
    exact g.len z hz
theorem row_pair {h : Heap} {rs : List PRow} (R : RowsIn h rs) {i : Nat} {v : Value} {x : PRow} (hv : (rs.map fun x => Value.ref x.a)[i]? = some v) (hx : rs[i]? = some x) : RowAt h v x.nm [x.val] := by
  rw [List.getElem?_map, hx] at hv
  obtain rfl := Option.some.inj hv
  have := R x (List.mem_of_getElem? hx)
  exact ⟨x.a, x.ka, [.str x.val x.tok], rfl, this.1, this.2, .cons _ _ .nil⟩
theorem eq_dataU {prog : Program} {w : World} {A : Around} {E : Value → Shared → Prop} {s : Shared} {a b : Value} {da db : PyData} {as bs : List Addr} {Q : Value → Shared → Prop} (ra : Reads s.heap a da as) (rb : Reads s.heap b db bs) (ha : SeqAt.shaped da = true) (hb : SeqAt.shaped db = true) (hu : A.units ≤ 9000)
    (h : Q (.bool (PyData.eqv da db)) s) : wpAny (model prog w) A (compareOp .Eq a b) Q E s := eq_dataH ra rb ha hb (by unfold cLine; omega) h
local macro_rules | `(tactic| walk_at "execs cons") => `(tactic| refine held ?_)
local macro_rules | `(tactic| walk_at "zz step") => `(tactic| (refine Held.go ?_; refine gen_any ?_; intro tk; with_unfolding_all refine wpAny_execs_cons ?_))
local macro_rules | `(tactic| k_inst) => `(tactic| (refine inst_has (by assumption) (by assumption) ?_; (intro p hp; repeat' (first | exact hp | apply List.Mem.tail | apply List.mem_append_right))))
local macro_rules | `(tactic| walk_at "compareOp Eq ref ref") => `(tactic| refine held ?_)
local macro_rules | `(tactic| walk_at "compareOp NotEq bool bool") => `(tactic| refine held ?_)
set_option maxHeartbeats 4000000 in
theorem law_C {prog : Program} {w : World} {s s' : Shared} {h₀ : Heap} {L f : Addr} {cd : Value} {Q : Flow → Shared → Prop}
    {name qual : Str} {params : Arguments} {body : List Stmt} {scope : Scope} {dV kV doc pm cdv ct oc : Value} {an od : Option Addr} {osl : Array (Option Value)}
    (ho : (hd.heap_1 w.params).lookup 302 = some ⟨oc, od, .func (fnOf name qual params body scope dV kV doc pm an cdv ct), osl⟩)
    (B : Base w h₀) (hs : St2 prog w s h₀ L s')
    (hQ : ∀ s', St2 prog w s h₀ L s' → wpAny (model prog w) (callerA.deeper (envOf qual scope L f cd)) (execs (body.drop 8) (envOf qual scope L f cd)) Q noE s') :
    wpAny (model prog w) (callerA.deeper (envOf qual scope L f cd)) (execs (body.drop 7) (envOf qual scope L f cd)) Q noE s' := by
  obtain ⟨X, p, loose, mean, mg, mb, T⟩ := id B
  revert hQ
  refine' with_fn (P := fun qual body scope cdv => (∀ s', St2 prog w s h₀ L s' → wpAny (model prog w) (callerA.deeper (envOf qual scope L f cd)) (execs (body.drop 8) (envOf qual scope L f cd)) Q noE s') → wpAny (model prog w) (callerA.deeper (envOf qual scope L f cd)) (execs (body.drop 7) (envOf qual scope L f cd)) Q noE s') ?h2 ho ?_
  (case h2 => k_is)
  clear ho
  dsimp only [List.drop]
  intro hQ
  obtain ⟨h', tk, m', l1, l2, r1, r2, rs1, rs2, all, rfl, F, N, R1, R2, hp1, hp2, hp3, hp4⟩ := hs
  obtain ⟨dx2, dv2', dq2', t2', u2', I2⟩ := R2.instAt (has_news N fun p hp => hp)
  obtain ⟨dv1, dq1, ys1, fx1, hys1, g1⟩ := R1
  obtain ⟨dv2, dq2, ys2, fx2, hys2, g2⟩ := R2
  refine exec_then (St2 prog w s h₀ L) ?_ fun s' hs => hQ s' hs
  walk_at "zz go"
  refine' use_fr (A₁ := Lv 12) (tag_c ?ub (fx1 _ (has_news N fun p hp => hp)).1 hys1 g1) ?u1 ?u2 ?u3 ?u4 ?u5 ?u6 ?u7 ?_
  walk_at "zz use"
  rintro _ h2 tk2 - k2 F2 N2 ⟨a1, u1, S1, rfl⟩
  clear k2 F N
  walk_at "zz go"
  have N3 := (by assumption : News h₀ L _ _)
  refine' use_fr (A₁ := Lv 14) (ns_copyR ?ub (fx2 _ (has_news N2 fun p hp => hp)).1) ?u1 ?u2 ?u3 ?u4 ?u5 ?u6 ?u7 ?_
  walk_at "zz use"
  rintro _ h9 tk9 - k9 F9 N9 ⟨r3, objs3, rfl, hf3, hrd3⟩
  have N10 := news_of_fresh F2 N9 hf3
  have hR3 := hrd3 h9 (has_news N10 fun p hp => List.mem_append_left _ hp) (fx2 h9 (has_news N10 fun p hp => List.mem_append_right _ hp)).1
  clear N9 F2 N2 N3 k9
  walk_at "zz go"
  refine' use_fr (A₁ := Lv 12) (tag_c ?ub hR3 hys2 g2) ?u1 ?u2 ?u3 ?u4 ?u5 ?u6 ?u7 ?_
  walk_at "zz use"
  rintro _ h4 tk4 - k4 F4 N4 ⟨a2, u2, S2, rfl⟩
  clear k4 N10 F9 hR3
  walk_at "zz go"
  have hle1 := g1.le
  have hle2 := g2.le
  refine sorted_rows (xs := rs1) (nm := PRow.nm) (rest := fun x => [x.val]) F4 N4 (Nat.le_of_ble_eq_true rfl) (fx1 h4 (has_news N4 fun p hp => List.mem_append_right _ hp)).2.1 (by simp) g1.nd (by simp; omega)
    (fun H hK i v x h1 h2 => row_pair (fx1 H fun p hp => hK.2 p (List.mem_append_right _ hp)).2.2 h1 h2) fun D5 c5 h5 zs1 hz1 ho1 F5 N5 hlt5 => ?_
  obtain ⟨T1, hv1⟩ := sorts_rows hz1 ho1
  clear F4 N4
  walk_at "zz go"
  refine sorted_rows (xs := rs2) (nm := PRow.nm) (rest := fun x => [x.val]) F5 N5 (Nat.le_of_ble_eq_true rfl) (fx2 h5 (has_news N5 fun p hp => .tail _ (List.mem_append_right _ hp))).2.1 (by simp) g2.nd (by simp; omega)
    (fun H hK i v x h1 h2 => row_pair (fx2 H fun p hp => hK.2 p (.tail _ (List.mem_append_right _ hp))).2.2 h1 h2) fun D6 c6 h6 zs2 hz2 ho2 F6 N6 hlt6 => ?_
  obtain ⟨T2, hv2⟩ := sorts_rows hz2 ho2
  clear F5 N5
  walk_at "zz go"
  have b1 := (fx1 h6 (has_news N6 fun p hp => .tail _ (.tail _ (List.mem_append_right _ hp)))).2.2
  have b2 := (fx2 h6 (has_news N6 fun p hp => .tail _ (.tail _ (List.mem_append_right _ hp)))).2.2
  have rd1 : ∃ as, Reads h6 (.ref D5) (.list (a1.map dP)) as := by
    rw [S1.uniq T1, List.map_map]
    refine reads_map _ _ ⟨_, (N6 _ (.tail _ (.head _))).1, rfl, _, rfl⟩ fun z hz => ?_
    obtain ⟨e, hm⟩ := hv1 z hz
    rw [e]
    exact reads_pair (b1 _ hm).1 (b1 _ hm).2
  have rd2 : ∃ as, Reads h6 (.ref D6) (.list (a2.map dP)) as := by
    rw [S2.uniq T2, List.map_map]
    refine reads_map _ _ ⟨_, (N6 _ (.head _)).1, rfl, _, rfl⟩ fun z hz => ?_
    obtain ⟨e, hm⟩ := hv2 z hz
    rw [e]
    exact reads_pair (b2 _ hm).1 (b2 _ hm).2
  have n1 : ∀ p ∈ a1, IsNm p.1.1 p.1.2 := fun p hp => by obtain ⟨z, hz, rfl⟩ := S1.mem hp; exact g1.nm z hz
  have n2 : ∀ p ∈ a2, IsNm p.1.1 p.1.2 := fun p hp => by obtain ⟨z, hz, rfl⟩ := S2.mem hp; exact g2.nm z hz
  have o1 : ∀ p ∈ a1, okS p.2 := fun p hp => by obtain ⟨z, hz, rfl⟩ := S1.mem hp; exact g1.ok z hz
  have o2 : ∀ p ∈ a2, okS p.2 := fun p hp => by obtain ⟨z, hz, rfl⟩ := S2.mem hp; exact g2.ok z hz
  obtain ⟨as1, rd1⟩ := rd1
  obtain ⟨as2, rd2⟩ := rd2
  refine Held.go ?_
  refine eq_dataU rd1 rd2 (Lay.list dP fun p hp => Lay.p (n1 p hp).ok1 (n1 p hp).ok2 (o1 p hp)) (Lay.list dP fun p hp => Lay.p (n2 p hp).ok1 (n2 p hp).ok2 (o2 p hp)) (Nat.le_of_ble_eq_true rfl) ?_
  rw [eqv_list dP eqvP]
  have e9 : (tagText a1 == tagText a2) = decide (a1 = a2) := by
    by_cases q : a1 = a2
    · subst q; simp
    · have : tagText a1 ≠ tagText a2 := fun e => q (tag_inj n1 n2 e)
      simp [q, this]
  walk_at "zz go"
  refine Held.go ?_
  rw [e9]
  refine ne_same (d := .bool (decide (a1 = a2))) ⟨_, .bool _⟩ ⟨_, .bool _⟩ rfl (Nat.le_of_ble_eq_true rfl) ?_
  walk_at "zz go"
  exact ⟨_, _, _, l1, l2, r1, r2, rs1, rs2, all, rfl, F6, news_sub N6 fun p hp => .tail _ (.tail _ (List.mem_append_right _ hp)), ⟨dv1, dq1, ys1, fx1, hys1, g1⟩, ⟨dv2, dq2, ys2, fx2, hys2, g2⟩, hp1, hp2, hp3, hp4⟩
end At
end
section
open PySem PySem.W PySem.Calls PyProof.Rows Builtin Builtin.Str
set_option Elab.async false
set_option maxRecDepth 100000
set_option linter.unusedVariables false
namespace At
section
variable {prog : Program} {w : World} {A : Around} {E : Value → Shared → Prop} {s : Shared} {env : Env} {h₀ : Heap} {m : Str → Option Value} {news : List (Addr × Obj)}
abbrev tups (ts : List (Addr × List Value)) : List (Addr × Obj) := ts.map fun t => (t.1, tupObj t.2)
/-- [(a, b, ..) for x, y in l]: new tuples, each in the ledger -/
theorem comp_pairs {l : Addr} {vs : List Value} {ps : List (Value × Value)} {elt iter : Expr} {x y : Str} {px py pt : Pos} {x1 : Nat} {scope : Scope} {pos : Pos} {Q : Value → Shared → Prop} (G : Nat → List Value → Prop)
    (hh : A.handled = none) (hfree : ∀ z ∈ scope.names, z.2 ≠ .free) (hcell : ∀ z ∈ scope.names, z.2 ≠ .cell) (hkind : scope.kind = .function)
    (hnames : ∀ z ∈ scope.names, z.2 = .local → scope.names.lookup z.1 = some .local) (hx : scope.names.lookup x = some .local) (hy : scope.names.lookup y = some .local)
    (hs : ∀ x, foldedSetIterable iter env x = pure x)
    (F : Fr h₀ env.locals s.heap m) (N : News h₀ env.locals s.heap news) (hl : ListK h₀ news l vs)
    (hps : ∀ (i : Nat) v H, vs[i]? = some v → Kept h₀ news H → ∃ a p, v = .ref a ∧ ps[i]? = some p ∧ H.IsTuple a #[p.1, p.2]) (hsz : vs.length ≤ 1000)
    (hi : ∀ Q' : Value → Shared → Prop, Q' (.ref l) s → wpAny (model prog w) A (eval iter env) Q' E s)
    (helt : ∀ C (i : Nat) p (s₂ : Shared) m₂ E', ps[i]? = some p → s₂.heap.Ns C m₂ → (x = y ∨ m₂ x = some p.1) → m₂ y = some p.2 → Kept h₀ news s₂.heap →
      wpAny (model prog w) A (eval elt (compEnv scope C env)) (fun z s₃ => ∃ T its h₃ tk₃, z = .ref T ∧ s₂.heap.get? T = none ∧ s₃ = { s₂ with heap := h₃, toks := tk₃ } ∧ h₃.get? T = some (tupObj its) ∧ s₂.heap.StaysIn h₃ ∧ G i its) E' s₂)
    (h : ∀ D o c h' tk (ts : List (Addr × List Value)), ts.length = vs.length → (∀ (i : Nat) t, ts[i]? = some t → G i t.2) → o.cls = .type "list" → o.data = .seq (ts.map fun t => Value.ref t.1).toArray c → Fr h₀ env.locals h' m →
      News h₀ env.locals h' ((D, o) :: (tups ts ++ news)) → Q (.ref D) { s with heap := h', toks := tk }) :
    wpAny (model prog w) A (eval (.ListComp elt [⟨.Tuple [.Name x px, .Name y py] x1 pt, iter, [], 0⟩] scope pos) env) Q E s := by
  have hls : s.heap.IsList l vs.toArray := hl _ (kept_here F N)
  refine wpAny_ListComp hfree hkind hnames (hi _ ?_) hs
  refine wpAny_pyIter_list hls (wpAny_newObj_type (hd := by size_fits) (wpAny_newFunctionEnv hcell (by intro y hy; simp at hy) (fun h₁ hns₁ hsb₁ => ?_) hkind))
  dsimp only at hns₁ hsb₁ ⊢
  obtain ⟨ol, hol, hol'⟩ := id hls
  have hax : l < s.heap.objs.size := Heap.lt_size hol
  generalize hH1 : s.heap.push { cls := .type "list_iterator", data := .fields #[.ref l, .int 0 0] } = H1 at hns₁ hsb₁ ⊢
  have hD : H1.objs.size = s.heap.objs.size + 1 := by rw [← hH1, Heap.size_push]
  generalize hH2 : H1.push { cls := .type "list", dict := none, data := .seq ([] : List Value).toArray } = H2 at hns₁ hsb₁ ⊢
  have hC : H2.objs.size = s.heap.objs.size + 2 := by rw [← hH2, Heap.size_push, hD]
  have hDI : H1.objs.size ≠ s.heap.objs.size := by omega
  have hDC : H1.objs.size ≠ H2.objs.size := by omega
  have hIC : s.heap.objs.size ≠ H2.objs.size := by omega
  have below : ∀ b, b < s.heap.objs.size → b ≠ H2.objs.size ∧ b ≠ s.heap.objs.size ∧ b ≠ H1.objs.size := fun b hb => ⟨by omega, by omega, by omega⟩
  have old : ∀ b o, s.heap.get? b = some o → h₁.get? b = some o := fun b o e =>
    hsb₁.extBut b o (below b (Heap.lt_size e)).1 (Heap.get?_push_of_some _ (hH2 ▸ Heap.get?_push_of_some _ (hH1 ▸ Heap.get?_push_of_some _ e)))
  have hit : h₁.get? s.heap.objs.size = some { cls := .type "list_iterator", data := .fields #[.ref l, .int 0 0] } :=
    hsb₁.extBut _ _ hIC (Heap.get?_push_of_some _ (hH2 ▸ Heap.get?_push_of_some _ (hH1 ▸ Heap.get?_push_size _ rfl)))
  have hacc : h₁.IsList H1.objs.size #[] := ⟨_, hsb₁.extBut _ _ hDC (Heap.get?_push_of_some _ (hH2 ▸ Heap.get?_push_size _ rfl)), rfl, _, rfl⟩
  have fresh : ∀ a, s.heap.objs.size ≤ a → s.heap.get? a = none := fun a ha => by
    cases e : s.heap.get? a with
    | none => rfl
    | some o' => exact absurd (Heap.lt_size e) (Nat.not_lt.mpr ha)
  have fresh0 : ∀ a, s.heap.objs.size ≤ a → h₀.get? a = none := fun a ha => by
    cases e : h₀.get? a with
    | none => rfl
    | some o' => have := F.keep a o' e; rw [fresh a ha] at this; cases this
  obtain ⟨oL, hoL⟩ : ∃ oL, s.heap.get? env.locals = some oL ∧ ∀ h' : Heap, h'.get? env.locals = some oL → h'.Ns env.locals m := by
    obtain ⟨oL, es, ep, e, r⟩ := F.ns
    exact ⟨oL, e, fun h' e' => ⟨oL, es, ep, e', r⟩⟩
  have hLlt : env.locals < s.heap.objs.size := Heap.lt_size hoL.1
  have hfrC : ∀ {h : Heap} {mC : Str → Option Value}, h.Ns H2.objs.size mC → h₀.StaysIn h → Fr h₀ H2.objs.size h mC := fun hn k => ⟨hn, k, Nat.le_trans F.above (Nat.le_trans (Nat.le_of_lt hLlt) (by omega))⟩
  let cenv := compEnv scope H2.objs.size env
  have D := draws_list2 (prog := prog) (w := w) (A := A) (env := cenv) (h₀ := h₀) (I := s.heap.objs.size) (l := l) (vs := vs) (ps := ps) (Sx := fun H => Kept h₀ news H) (x := x) (y := y) (px := px) (py := py) (pt := pt) (x1 := x1) hh (Nat.ne_of_gt hax)
    (fun H hK => hl H hK) (fun H H' hK hk => kept_mono F N H H' hK fun b o hb e => hk b o hb e) (fresh0 _ (Nat.le_refl _)) hkind hx hy hps
  let Inv : Nat → Shared → Prop := fun k s' => ∃ (h' : Heap) (tk i : Nat) (ts : List (Addr × List Value)) (mC : Str → Option Value) (oI : Obj), s' = { s with heap := h', toks := tk } ∧ i ≤ vs.length ∧ k = vs.length + 1 - i ∧ ts.length = i ∧
    h'.get? s.heap.objs.size = some oI ∧ (oI.cls = .type "list_iterator" ∧ oI.data = .fields #[.ref l, .int i 0]) ∧ h'.Ns H2.objs.size mC ∧ h'.IsList H1.objs.size (ts.map fun t => Value.ref t.1).toArray ∧
    (∀ b o, s.heap.get? b = some o → h'.get? b = some o) ∧ (∀ t ∈ ts, h'.get? t.1 = some (tupObj t.2) ∧ s.heap.get? t.1 = none ∧ t.1 ≠ s.heap.objs.size ∧ t.1 ≠ H1.objs.size ∧ t.1 ≠ H2.objs.size) ∧ (∀ (i : Nat) t, ts[i]? = some t → G i t.2)
  have loop : ∀ s₂ : Shared, s₂ = { s with heap := h₁, toks := s.toks + ([] : List (Str × Value)).length } →
      codeAny (model prog w) A (.compLoop (.ListComp elt [⟨.Tuple [.Name x px, .Name y py] x1 pt, iter, [], 0⟩] scope pos) 0 (.ref s.heap.objs.size) (.ref H1.objs.size) cenv)
        (fun r s' => ∃ m, s'.heap.Ns H2.objs.size m ∧ ∀ h', Heap.SameBut H2.objs.size s'.heap h' →
          match r with | .ok _ => Q (.ref H1.objs.size) { s' with heap := h' } | .error x => wpAny (model prog w) A (passOn "comprehension.variables-let-go" x cenv) Q E { s' with heap := h' }) s₂ := by
    rintro s₂ rfl
    refine LCp.codeAny_compLoop_pair Inv ?_ (vs.length + 1) ⟨h₁, _, 0, [], _, _, rfl, Nat.zero_le _, rfl, rfl, hit, ⟨rfl, rfl⟩, hns₁, hacc, old, fun _ h => (nomatch h), fun i t h => by simp at h⟩
    rintro k s' ⟨h', tk, i, ts, mC, oI, rfl, hile, rfl, hts, hoI, hIt, hnC, hlD, hold, htup, hG⟩
    have hK : Kept h₀ news h' := ⟨fun b o e => hold b o (F.keep b o e), fun p hp => hold _ _ (N p hp).1⟩
    have FC := hfrC hnC hK.1
    by_cases hlt : i < vs.length
    · refine wpAny_mono (D.item i { s with heap := h', toks := tk } mC oI (Q := fun _ s₃ => wpAny (model prog w) A (eval elt cenv) (fun x s₄ =>
          wpAny (model prog w) A (call (.builtin "list.append") [.ref H1.objs.size, x]) (fun _ s₅ => ∃ m, m < vs.length + 1 - i ∧ Inv m s₅) noE s₄) noE s₃) hlt hoI hIt hK hIC FC fun u h₂ tk₂ o₂ hu ho₂ hit₂ F₂ hk₂ => ?_) (fun r s₁ h₁' => ?_) fun _ _ x => x.elim
      · obtain ⟨p, hp, rfl⟩ := hu
        have hold2 : ∀ b o, s.heap.get? b = some o → h₂.get? b = some o := fun b o e => hk₂ b o (below b (Heap.lt_size e)).1 (below b (Heap.lt_size e)).2.1 (hold b o e)
        have hK2 : Kept h₀ news h₂ := ⟨F₂.keep, fun p hp => hold2 _ _ (N p hp).1⟩
        have hlD2 : h₂.IsList H1.objs.size (ts.map fun t => Value.ref t.1).toArray := by
          obtain ⟨o, ho, r⟩ := hlD
          exact ⟨o, hk₂ _ _ hDC hDI ho, r⟩
        refine wpAny_mono (helt H2.objs.size i p { s with heap := h₂, toks := tk₂ } _ noE hp F₂.ns (by
          by_cases e : x = y
          · exact .inl e
          · refine .inr ?_; simp [e]) (by simp) hK2) (fun z s₄ hz => ?_) fun _ _ x => x
        obtain ⟨T, its, h₃, tk₃, rfl, hT, rfl, hT3, k3, hGi⟩ := hz
        have hlD3 : h₃.IsList H1.objs.size (ts.map fun t => Value.ref t.1).toArray := let ⟨o, ho, r⟩ := hlD2; ⟨o, k3 _ _ ho, r⟩
        have hT2 : h₂.get? T = none := hT
        have hTI : T ≠ s.heap.objs.size := fun e => by rw [e, ho₂] at hT2; cases hT2
        have hTD : T ≠ H1.objs.size := fun e => by obtain ⟨o, ho, _⟩ := hlD2; rw [e, ho] at hT2; cases hT2
        have hTC : T ≠ H2.objs.size := fun e => by
          obtain ⟨o, _, _, ho, _⟩ := F₂.ns
          have ho' : h₂.get? H2.objs.size = some o := ho
          rw [e, ho'] at hT2; cases hT2
        have hTs : s.heap.get? T = none := by
          cases q : s.heap.get? T with
          | none => rfl
          | some o => have := hold2 T o q; rw [hT2] at this; cases this
        refine wpAny_list_append hlD3 (fun h₅ hl₅ hs₅ => ?_) (by rw [sizeLine_eq]; simp; omega)
        have k5 : ∀ b o, b ≠ H1.objs.size → h₃.get? b = some o → h₅.get? b = some o := fun b o hb e => (hs₅.2 b hb).trans e
        have hnC5 := F₂.ns.at' (h' := h₅) fun o e => k5 _ o (Ne.symm hDC) (k3 _ o e)
        refine ⟨vs.length + 1 - (i + 1), by omega, h₅, tk₃, i + 1, ts ++ [(T, its)], _, o₂, rfl, hlt, rfl, by simp [hts], k5 _ _ (Ne.symm hDI) (k3 _ _ ho₂), hit₂, hnC5, ?_, fun b o e => k5 b o (below b (Heap.lt_size e)).2.2 (k3 b o (hold2 b o e)), fun t ht => ?_, fun j t hj => ?_⟩
        · have e : (ts.map fun t => Value.ref t.1).toArray.push (Value.ref T) = ((ts ++ [(T, its)]).map fun t => Value.ref t.1).toArray := by simp
          rw [← e]
          exact hl₅
        · rcases List.mem_append.mp ht with ht | ht
          · obtain ⟨q1, q2, q3, q4, q5⟩ := htup t ht
            exact ⟨k5 _ _ q4 (k3 _ _ (hk₂ _ _ q5 q3 q1)), q2, q3, q4, q5⟩
          · obtain rfl := List.mem_singleton.mp ht
            exact ⟨k5 _ _ hTD hT3, hTs, hTI, hTD, hTC⟩
        · by_cases hj' : j < ts.length
          · rw [List.getElem?_append_left hj'] at hj
            exact hG j t hj
          · rw [List.getElem?_append_right (Nat.le_of_not_lt hj')] at hj
            have : j - ts.length = 0 := by
              cases q : j - ts.length with
              | zero => rfl
              | succ n => rw [q] at hj; simp at hj
            rw [this] at hj
            simp at hj
            subst hj
            have : j = i := by omega
            subst this
            exact hGi
      · cases r with
        | none => exact h₁'.elim
        | some v => exact wpAny_mono h₁' (fun _ s₂ h₂ => wpAny_mono h₂ (fun _ s₃ h₃ => wpAny_mono h₃ (fun x s₄ h₄ => wpAny_mono h₄ (fun _ s₅ h₅ => h₅) fun _ _ x => x.elim) fun _ _ x => x.elim) fun _ _ x => x.elim) fun _ _ x => x.elim
    · have hin : i = vs.length := by omega
      subst hin
      refine wpAny_mono (D.done { s with heap := h', toks := tk } oI (Q := fun r s₁ => r = none ∧ ∃ m, s₁.heap.Ns H2.objs.size m ∧ ∀ h', Heap.SameBut H2.objs.size s₁.heap h' → Q (.ref H1.objs.size) { s₁ with heap := h' }) hoI hIt hK fun h₂ tk₂ hk₂ => ⟨rfl, mC, hnC.at' fun o e => hk₂ _ o (Ne.symm hIC) e, fun h₃ hs₃ => ?_⟩) (fun r s₁ h₁' => ?_) fun _ _ x => x.elim
      · have k3 : ∀ b o, b ≠ s.heap.objs.size → b ≠ H2.objs.size → h'.get? b = some o → h₃.get? b = some o := fun b o h1 h2 e => (hs₃.2 b h2).trans (hk₂ b o h1 e)
        have hold3 : ∀ b o, s.heap.get? b = some o → h₃.get? b = some o := fun b o e => k3 b o (below b (Heap.lt_size e)).2.1 (below b (Heap.lt_size e)).1 (hold b o e)
        obtain ⟨oD, hoD, hDc, c, hDd⟩ := hlD
        have hoD3 := k3 _ _ hDI hDC hoD
        refine h H1.objs.size oD c h₃ tk₂ ts hts hG hDc hDd ⟨hoL.2 _ (hold3 _ _ hoL.1), fun b o e => hold3 b o (F.keep b o e), F.above⟩ fun p hp => ?_
        rcases List.mem_cons.mp hp with rfl | hp
        · exact ⟨hoD3, Nat.ne_of_gt (Nat.lt_of_lt_of_le hLlt (by omega)), fresh0 _ (by omega)⟩
        rcases List.mem_append.mp hp with hp | hp
        · obtain ⟨t, ht, rfl⟩ := List.mem_map.mp hp
          obtain ⟨q1, q2, q3, q4, q5⟩ := htup t ht
          refine ⟨k3 _ _ q3 q5 q1, ?_, ?_⟩
          · intro e
            dsimp only at e
            rw [e, hoL.1] at q2; cases q2
          · cases q : h₀.get? t.1 with
            | none => rfl
            | some o' => have := F.keep _ o' q; rw [q2] at this; cases this
        · exact ⟨hold3 _ _ (N p hp).1, (N p hp).2⟩
      · obtain ⟨rfl, mm, hn, hq⟩ := h₁'
        exact ⟨mm, hn, fun h' hs' => hq h' hs'⟩
  exact codeAny_compStart_list (loop _ rfl) (wpAny_pyIter_listiter ⟨_, hit, rfl, rfl⟩ (loop _ rfl))
end
end At
end
section
open PySem PySem.W PySem.Calls PyProof.Rows Builtin Builtin.Str
set_option Elab.async false
set_option maxRecDepth 100000
set_option linter.unusedVariables false
namespace At
theorem pl_instAt {w : World} {h : Heap} {objs : List (Addr × Obj)} {r d : Addr} {zs : List Row} (fx : ∀ H, Has objs H → PlRd w H r d zs) (hH : Has objs h) : ∃ (dx : Addr) (t : Nat), ∀ H, Has objs H → InstAt H r (instObj 144 dx) 144 (some (dictOf [selfE w (Str.ofString "_attrs") t d] 1)) := by
  obtain ⟨dx, t, h1, h2⟩ := (fx h hH).inst
  have m1 : ∃ p ∈ objs, p.1 = r := by
    by_cases q : ∃ p ∈ objs, p.1 = r
    · exact q
    · obtain ⟨_, _, e, _⟩ := (fx (h.hide r) (has_hide hH fun p hp e => q ⟨p, hp, e⟩)).inst
      rw [Heap.hide_self] at e; cases e
  obtain ⟨⟨a1, o1⟩, hm1, rfl⟩ := m1
  have e1 := hH _ hm1
  dsimp only at e1 h1
  rw [h1] at e1
  obtain rfl := Option.some.inj e1
  have m2 : ∃ p ∈ objs, p.1 = dx := by
    by_cases q : ∃ p ∈ objs, p.1 = dx
    · exact q
    · have hd := has_hide hH fun p hp e => q ⟨p, hp, e⟩
      obtain ⟨dx', _, e, e'⟩ := (fx (h.hide dx) hd).inst
      have e2 := hd _ hm1
      dsimp only at e2
      rw [e2] at e
      have e3 := Option.some.inj e
      have e4 : some dx = some dx' := congrArg Obj.dict e3
      obtain rfl := Option.some.inj e4
      rw [Heap.hide_self] at e'; cases e'
  obtain ⟨⟨a2, o2⟩, hm2, rfl⟩ := m2
  have e2 := hH _ hm2
  dsimp only at e2 h2
  rw [h2] at e2
  obtain rfl := Option.some.inj e2
  exact ⟨_, t, fun H hH' => inst_of (hH' _ hm1) (hH' _ hm2)⟩
theorem SortsTo.nm {rs : List PRow} {a : List (Nm × Str)} {b : Nat} (x : SortsTo rs a) (g : GoodR b rs) {p : Nm × Str} (h : p ∈ a) : IsNm p.1.1 p.1.2 := by obtain ⟨z, hz, rfl⟩ := x.mem h; exact g.nm z hz
theorem SortsTo.len {rs : List PRow} {a : List (Nm × Str)} {b : Nat} (x : SortsTo rs a) (g : GoodR b rs) {p : Nm × Str} (h : p ∈ a) : p.2.length ≤ b := by obtain ⟨z, hz, rfl⟩ := x.mem h; exact g.len z hz
theorem SortsTo.ok {rs : List PRow} {a : List (Nm × Str)} {b : Nat} (x : SortsTo rs a) (g : GoodR b rs) {p : Nm × Str} (h : p ∈ a) : okS p.2 := by obtain ⟨z, hz, rfl⟩ := x.mem h; exact g.ok z hz
theorem SortsTo.length {rs : List PRow} {a : List (Nm × Str)} (x : SortsTo rs a) : a.length = rs.length := by rw [x.perm.length_eq, List.length_map]
theorem SortsTo.qnd {rs : List PRow} {a : List (Nm × Str)} {b : Nat} (x : SortsTo rs a) (g : GoodR b rs) : (a.map fun p => qn p.1.1 p.1.2).Nodup := by
  unfold List.Nodup
  rw [List.pairwise_map]
  refine List.Pairwise.imp_of_mem (fun {p q} hp hq h e => ?_) x.ord
  have := qn_inj (a := p.1) (b := q.1) (x.nm g hp) (x.nm g hq) e
  rw [this, nlt_irr] at h
  cases h
theorem read_c {prog : Program} {w : World} {s : Shared} {rs : List PRow} {a : List (Nm × Str)} {tt : Nat} (B : Base w s.heap) (x : SortsTo rs a) (g : GoodR 19 rs) :
    Does (model prog w) (Lv 12) (call (.ref 278) [.str (tagText a) tt]) s (fun v h' => ∃ (r d : Addr) (zs : List Row) (objs : List (Addr × Obj)), v = .ref r ∧ Fresh s.heap h' objs ∧ zs.map (fun z => (z.nm, z.val)) = a.map (fun p => (qn p.1.1 p.1.2, p.2)) ∧ ∀ H, Has objs H → PlRd w H r d zs) :=
  law_read B (by rw [x.length]; exact g.le) (fun p hp => qn_len (n := p.1) (x.nm g hp)) (fun p hp => qn_61 (n := p.1) (x.nm g hp)) (fun p hp => x.len g hp) (x.qnd g)
/-- a row of `due`: what it is of, its tuple, its qualified name's mark -/
structure TRow where
  x : PRow
  t : Addr
  u : Nat
abbrev TRow.vals (e : TRow) : List Value := [.ref e.x.ka, .str (qn e.x.nm.1 e.x.nm.2) e.u, .str e.x.val e.x.tok]
abbrev TRow.obj (e : TRow) : Addr × Obj := (e.t, tupObj e.vals)
def tripOf (x : PRow) (its : List Value) : Prop := ∃ u, its = [.ref x.ka, .str (qn x.nm.1 x.nm.2) u, .str x.val x.tok]
theorem trows : ∀ {rs : List PRow} {ts : List (Addr × List Value)}, ts.length = rs.length → (∀ (i : Nat) t x, ts[i]? = some t → rs[i]? = some x → tripOf x t.2) →
    ∃ es : List TRow, es.map (·.x) = rs ∧ es.map (fun e => Value.ref e.t) = ts.map (fun t => Value.ref t.1) ∧ ∀ e ∈ es, e.obj ∈ tups ts
  | [], [], _, _ => ⟨[], rfl, rfl, fun _ h => (nomatch h)⟩
  | [], _ :: _, h, _ => by cases h
  | _ :: _, [], h, _ => by cases h
  | x :: rs, t :: ts, h, hG => by
    obtain ⟨es, e1, e2, e3⟩ := trows (rs := rs) (ts := ts) (Nat.succ.inj h) fun i t x h1 h2 => hG (i + 1) t x h1 h2
    obtain ⟨u, hu⟩ := hG 0 t x rfl rfl
    obtain ⟨a, its⟩ := t
    dsimp only at hu
    subst hu
    refine ⟨⟨x, a, u⟩ :: es, by rw [List.map_cons, e1], by rw [List.map_cons, e2]; rfl, fun e he => ?_⟩
    rcases List.mem_cons.mp he with rfl | he
    · exact .head _
    · exact .tail _ (e3 e he)
theorem sorts_trows {rs : List PRow} {es : List TRow} {zs : List (Value × TRow)} (e1 : es.map (·.x) = rs) (p : zs.Perm ((es.map fun e => Value.ref e.t).zip es)) (o : (zs.map (·.2)).Pairwise fun a b => nlt a.x.nm b.x.nm = true) :
    SortsTo rs ((zs.map (·.2)).map fun e => (e.x.nm, e.x.val)) ∧ zs.map (·.1) = (zs.map (·.2)).map (fun e => Value.ref e.t) ∧ ∀ e ∈ zs.map (·.2), e ∈ es := by
  have hz : ∀ z ∈ zs, z.1 = .ref z.2.t ∧ z.2 ∈ es := fun z hz => by
    have hm := p.mem_iff.mp hz
    obtain ⟨i, hi⟩ := List.mem_iff_getElem?.mp hm
    rw [List.getElem?_zip_eq_some] at hi
    obtain ⟨h1, h2⟩ := hi
    rw [List.getElem?_map, h2] at h1
    exact ⟨(Option.some.inj h1).symm, List.mem_of_getElem? h2⟩
  refine ⟨⟨?_, ?_⟩, ?_, fun e he => ?_⟩
  · have h1 := p.map (·.2)
    rw [List.map_snd_zip (by simp)] at h1
    have h2 := h1.map fun e : TRow => (e.x.nm, e.x.val)
    have e : rs.map (fun x => (x.nm, x.val)) = es.map (fun e => (e.x.nm, e.x.val)) := by rw [← e1, List.map_map]; rfl
    rw [e]
    exact h2
  · rw [List.pairwise_map]; exact o
  · rw [List.map_map]
    exact List.map_congr_left fun z hz' => (hz z hz').1
  · obtain ⟨z, hz', rfl⟩ := List.mem_map.mp he
    exact (hz z hz').2
theorem row_trip {h : Heap} {e : TRow} (t : h.get? e.t = some (tupObj e.vals)) (n : NameAt h e.x.ka e.x.nm) : RowAt h (.ref e.t) e.x.nm [qn e.x.nm.1 e.x.nm.2, e.x.val] :=
  ⟨e.t, e.x.ka, [.str (qn e.x.nm.1 e.x.nm.2) e.u, .str e.x.val e.x.tok], rfl, ⟨_, t, rfl, _, rfl⟩, n, .cons _ _ (.cons _ _ .nil)⟩
end At
end
section
open PySem PySem.W PySem.Calls PyProof.Rows Builtin Builtin.Str
set_option Elab.async false
set_option maxRecDepth 100000
set_option linter.unusedVariables false
namespace At
theorem val_uniq {rs : List PRow} {b : Nat} (g : GoodR b rs) {x y : PRow} (hx : x ∈ rs) (hy : y ∈ rs) (e : x.nm = y.nm) : x.val = y.val := by
  have nd : ((rs.map PRow.ent).map (·.nm)).Nodup := by rw [List.map_map]; exact g.nd
  have h1 : look (rs.map PRow.ent) x.nm = some x.ent := look_of_mem (x := x.ent) nd (List.mem_map_of_mem hx)
  have h2 : look (rs.map PRow.ent) y.nm = some y.ent := look_of_mem (x := y.ent) nd (List.mem_map_of_mem hy)
  rw [e, h2] at h1
  have := Option.some.inj h1
  exact (congrArg Ent.val this).symm
theorem look_plain {rs : List PRow} {b : Nat} {zs : List Row} {fs : List TRow} (g : GoodR b rs) (hz : zs.map (fun z => (z.nm, z.val)) = fs.map (fun e => (qn e.x.nm.1 e.x.nm.2, e.x.val))) (hf : ∀ e ∈ fs, e.x ∈ rs) {e : TRow} (he : e ∈ fs) :
    ∃ z, lookP zs (qn e.x.nm.1 e.x.nm.2) = some z ∧ z.val = e.x.val := by
  have hm : (qn e.x.nm.1 e.x.nm.2, e.x.val) ∈ zs.map (fun z => (z.nm, z.val)) := by
    rw [hz]; exact List.mem_map_of_mem (f := fun e : TRow => (qn e.x.nm.1 e.x.nm.2, e.x.val)) he
  obtain ⟨z0, hz0, e0⟩ := List.mem_map.mp hm
  injection e0 with e1 e2
  cases q : lookP zs (qn e.x.nm.1 e.x.nm.2) with
  | none =>
    have := List.find?_eq_none.mp q z0 hz0
    simp [e1] at this
  | some z =>
    refine ⟨z, rfl, ?_⟩
    have h1 := List.mem_of_find?_eq_some q
    have h2 : z.nm = qn e.x.nm.1 e.x.nm.2 := by
      have := List.find?_some (p := fun z : Row => decide (z.nm = qn e.x.nm.1 e.x.nm.2)) q
      exact of_decide_eq_true this
    have h3 : (z.nm, z.val) ∈ fs.map (fun e => (qn e.x.nm.1 e.x.nm.2, e.x.val)) := by
      rw [← hz]; exact List.mem_map_of_mem (f := fun z : Row => (z.nm, z.val)) h1
    obtain ⟨e', he', e3⟩ := List.mem_map.mp h3
    injection e3 with e4 e5
    rw [h2] at e4
    have := qn_inj (a := e'.x.nm) (b := e.x.nm) (g.nm _ (hf e' he')) (g.nm _ (hf e he)) e4
    rw [← e5]
    exact val_uniq g (hf e' he') (hf e he) this
theorem tobj_inj {h : Heap} {e e' : TRow} (t : h.get? e.t = some (tupObj e.vals)) (t' : h.get? e'.t = some (tupObj e'.vals)) (q : e.t = e'.t) : e.vals = e'.vals := by
  rw [q, t'] at t
  have := congrArg Obj.data (Option.some.inj t)
  injection this with h1 _
  exact (congrArg Array.toList h1).symm
theorem block_two {prog : Program} {w : World} {A : Around} {E : Value → Shared → Prop} {s : Shared} {env : Env} {scope : Scope} {C t : Addr} {x : Str} {px1 px2 pc1 pc2 p1 p2 pos : Pos} {c1 c2 c3 : Nat} {its : List Value} {a b : Value} {m₂ : Str → Option Value} {Q : Value → Shared → Prop}
    (hn : s.heap.Ns C m₂) (hx : m₂ x = some (.ref t)) (ht : s.heap.IsTuple t its.toArray) (hl : its.length = 3) (ha : its[1]? = some a) (hb : its[2]? = some b)
    (h : ∀ tk, Q (.ref s.heap.objs.size) { s with heap := s.heap.push (tupObj [a, b]), toks := tk })
    (hk : scope.kind = .function := by rfl) (hlc : scope.names.lookup x = some .local := by rfl) (hd : (x == ("__debug__" : Str)) = false := by decide) :
    wpAny (model prog w) A (eval (.Tuple [.Subscript (.Name x px1) (.Constant (.int 1) c1 pc1) p1, .Subscript (.Name x px2) (.Constant (.int 2) c2 pc2) p2] c3 pos) (compEnv scope C env)) Q E s := by
  refine wpAny_Tuple_spliced ?_
  refine spliced_more (block_item (j := 1) hn hx ht (by decide) (by decide) (by rw [hl]; rfl) ha (fun tk => ?_) hk hlc hd)
  refine spliced_more (block_item (s := { s with toks := tk }) (j := 2) hn hx ht (by decide) (by decide) (by rw [hl]; rfl) hb (fun tk2 => ?_) hk hlc hd)
  exact spliced_none ⟨by rw [sizeLine_eq]; show 2 ≤ 16777216; decide, h tk2⟩
end At
end
section
open PySem PySem.W PySem.Calls PyProof.Rows Builtin Builtin.Str
set_option Elab.async false
set_option maxRecDepth 100000
set_option linter.unusedVariables false
namespace At
local macro_rules | `(tactic| walk_at "execs cons") => `(tactic| refine held ?_)
local macro_rules | `(tactic| walk_at "zz step") => `(tactic| (refine Held.go ?_; refine gen_any ?_; intro tk; with_unfolding_all refine wpAny_execs_cons ?_))
local macro_rules | `(tactic| k_inst) => `(tactic| (refine inst_has (by assumption) (by assumption) ?_; (intro p hp; repeat' (first | exact hp | exact List.mem_append_left _ hp | apply List.Mem.tail | apply List.mem_append_right))))
local macro_rules | `(tactic| walk_at "compareOp NotEq bool bool") => `(tactic| refine held ?_)
local macro_rules | `(tactic| walk_at "exec For Tuple List cons nil") => `(tactic| (with_unfolding_all refine wpAny_For ?_ (by intro _; rfl)))
local macro_rules | `(tactic| k_inst) => `(tactic| assumption)
local macro_rules | `(tactic| walk_at "compareOp NotEq str str") => `(tactic| refine held ?_)
set_option maxHeartbeats 4000000 in
theorem law_D {prog : Program} {w : World} {s s' : Shared} {h₀ : Heap} {L f : Addr} {cd : Value} {Q : Flow → Shared → Prop}
    {name qual : Str} {params : Arguments} {body : List Stmt} {scope : Scope} {dV kV doc pm cdv ct oc : Value} {an od : Option Addr} {osl : Array (Option Value)}
    (ho : (hd.heap_1 w.params).lookup 302 = some ⟨oc, od, .func (fnOf name qual params body scope dV kV doc pm an cdv ct), osl⟩)
    (B : Base w h₀) (hs : St2 prog w s h₀ L s')
    (hQ : ∀ h' tk, h₀.StaysIn h' → Q (.ret (.bool true)) { s with heap := h', toks := tk }) :
    wpAny (model prog w) (callerA.deeper (envOf qual scope L f cd)) (execs (body.drop 8) (envOf qual scope L f cd)) Q noE s' := by
  obtain ⟨X, p, loose, mean, mg, mb, T⟩ := id B
  refine' with_fn (P := fun qual body scope cdv => wpAny (model prog w) (callerA.deeper (envOf qual scope L f cd)) (execs (body.drop 8) (envOf qual scope L f cd)) Q noE s') ?h2 ho ?_
  (case h2 => k_is)
  clear ho
  dsimp only [List.drop]
  obtain ⟨h', tk, m', l1, l2, r1, r2, rs1, rs2, all, rfl, F, N, R1, R2, hp1, hp2, hp3, hp4⟩ := hs
  obtain ⟨dx1, dv1', dq1', t1', u1', I1⟩ := R1.instAt (has_news N fun p hp => hp)
  refine held ?_
  walk_at "zz step"
  walk_at "zz go"
  obtain ⟨dv1, dq1, ys1, fx1, hys1, g1⟩ := R1
  have F1 := (by assumption : Fr h₀ L h' m')
  refine' use_fr (A₁ := Lv 14) (ns_copyR ?ub (fx1 _ (has_news N fun p hp => hp)).1) ?u1 ?u2 ?u3 ?u4 ?u5 ?u6 ?u7 ?_
  walk_at "zz use"
  rintro _ h9 tk9 - k9 F9 N9 ⟨r3, objs3, rfl, hf3, hrd3⟩
  have N10 := news_of_fresh F1 N9 hf3
  clear N9 N F1 k9
  have R3 : Rdr prog w (objs3 ++ all) r3 l1 rs1 := ⟨dv1, dq1, ys1, fun H hH => ⟨hrd3 H (fun p hp => hH p (List.mem_append_left _ hp)) (fx1 H fun p hp => hH p (List.mem_append_right _ hp)).1, (fx1 H fun p hp => hH p (List.mem_append_right _ hp)).2⟩, hys1, g1⟩
  have R4 := R2.mono (b := objs3 ++ all) fun p hp => List.mem_append_right _ hp
  generalize objs3 ++ all = all2 at N10 R3 R4
  clear R2 hrd3 fx1 I1
  walk_at "zz go"
  rename_i Dt1 _ _ Dt2 _ _ ll _ F11 N11 _
  obtain ⟨all11, N12, mll, mt1, mt2, msub⟩ : ∃ all11, News h₀ L _ all11 ∧ (ll, W.listOf #[.ref Dt1, .ref Dt2] 0) ∈ all11 ∧ (Dt1, tupObj [.ref r3, .ref l1]) ∈ all11 ∧ (Dt2, tupObj [.ref r2, .ref l2]) ∈ all11 ∧ ∀ p ∈ all2, p ∈ all11 :=
    ⟨_, N11, .head _, .tail _ (.tail _ (.head _)), .tail _ (.head _), fun p hp => .tail _ (.tail _ (.tail _ hp))⟩
  clear N11
  refine iter_list2 (x := Str.ofString "reader") (y := Str.ofString "some") (vs := [.ref Dt1, .ref Dt2]) (ps := [(.ref r3, .ref l1), (.ref r2, .ref l2)]) rfl rfl rfl rfl (listK_news mll rfl) (fun i v H hv hK => ?_) F11 N12 (fun i m => True) trivial ?_ ?_
  · match i, hv with
    | 0, hv => exact ⟨Dt1, (.ref r3, .ref l1), (Option.some.inj hv).symm, rfl, _, hK.2 _ mt1, rfl, _, rfl⟩
    | 1, hv => exact ⟨Dt2, (.ref r2, .ref l2), (Option.some.inj hv).symm, rfl, _, hK.2 _ mt2, rfl, _, rfl⟩
    | i + 2, hv => simp at hv
  · rintro i p m₁ h tk o hi hp - F₁ N₁
    obtain ⟨r, l, rs, rfl, R⟩ : ∃ r l rs, p = (Value.ref r, Value.ref l) ∧ Rdr prog w all11 r l rs := by
      match i, hp with
      | 0, hp => exact ⟨r3, l1, rs1, (Option.some.inj hp).symm, R3.mono msub⟩
      | 1, hp => exact ⟨r2, l2, rs2, (Option.some.inj hp).symm, R4.mono msub⟩
      | i + 2, hp => simp at hp
    dsimp only at F₁
    clear hi hp R3 R4 mll mt1 mt2 msub N12 F11 hys1 g1
    obtain ⟨dxr, dvr', dqr', tr', ur', Ir⟩ := R.instAt (has_news N₁ fun p hp => .tail _ hp)
    obtain ⟨dv, dq, ys, fx, hys, g⟩ := R
    walk_at "zz go"
    walk_at "zz step"
    walk_at "zz go"
    refine' use_fr (A₁ := Lv 12) (tag_c ?ub (fx _ (has_news N₁ fun p hp => .tail _ hp)).1 hys g) ?u1 ?u2 ?u3 ?u4 ?u5 ?u6 ?u7 ?_
    walk_at "zz use"
    rintro _ h2 tk2 - k2 F2 N2 ⟨a, u2, S, rfl⟩
    clear k2 F₁ N₁
    walk_at "zz go"
    refine' use_fr (A₁ := Lv 12) (read_c ?ub S g) ?u1 ?u2 ?u3 ?u4 ?u5 ?u6 ?u7 ?_
    walk_at "zz use"
    rintro _ h4 tk4 - k4 F4 N4 ⟨rp, dp, zsP, objsP, rfl, hfP, hzP, fp⟩
    have N5 := news_of_fresh F2 N4 hfP
    clear N4 N2 F2 k4 hfP
    walk_at "zz go"
    walk_at "zz step"
    walk_at "zz go"
    have F6 := (by assumption : Fr h₀ L _ _)
    have N6 := (by assumption : News h₀ L _ _)
    obtain ⟨all4, N7, subI, subA, subP⟩ : ∃ all4, News h₀ L _ all4 ∧ (∀ p ∈ (_, o) :: all11, p ∈ all4) ∧ (∀ p ∈ all11, p ∈ all4) ∧ ∀ p ∈ objsP, p ∈ all4 :=
      ⟨_, N6, fun p hp => List.mem_append_right _ hp, fun p hp => List.mem_append_right _ (.tail _ hp), fun p hp => List.mem_append_left _ hp⟩
    obtain ⟨dxp, tp, Ip⟩ := pl_instAt fp (has_news N7 subP)
    have fx4 : ∀ H, Has all4 H → NSRd prog w H r dv dq (rs.map PRow.ent) ys ∧ H.IsList l (rs.map fun x => Value.ref x.a).toArray ∧ RowsIn H rs := fun H hH => fx H (hH.mono subA)
    have fp4 : ∀ H, Has all4 H → PlRd w H rp dp zsP := fun H hH => fp H (hH.mono subP)
    have Ir4 : ∀ H, Has all4 H → InstAt H r (instObj 200 dxr) 200 (some (dictOf (nsE w tr' ur' dvr' dqr') 2)) := fun H hH => Ir H (hH.mono subA)
    have Ip4 : ∀ H, Has all4 H → InstAt H rp (instObj 144 dxp) 144 (some (dictOf [selfE w (Str.ofString "_attrs") tp dp] 1)) := fun H hH => Ip H (hH.mono subP)
    clear fx fp Ir Ip N6 subA subP N5
    have hle := g.le
    refine Held.go ?_
    refine comp_pairs (x := Str.ofString "name") (y := Str.ofString "value") (vs := rs.map fun x => Value.ref x.a) (ps := rs.map fun x => (Value.ref x.ka, Value.str x.val x.tok)) (fun i its => ∀ x, rs[i]? = some x → tripOf x its)
      rfl (by decide) (by decide) rfl (by decide) rfl rfl (by intro _; rfl) F6 N7 (fun H hK => (fx4 H hK.2).2.1) (fun i v H hv hK => ?_) (by simp; omega) (fun Q' hq => ?_) (fun C i p s₂ m₂ E' hp hn hmx hmy hK => ?_) fun D8 o8 c8 h8 tk8 ts hts hG hoc8 hod8 F8 N8 => ?_
    · rw [List.getElem?_map] at hv
      cases hx : rs[i]? with
      | none => rw [hx] at hv; cases hv
      | some x =>
        rw [hx] at hv
        exact ⟨x.a, _, (Option.some.inj hv).symm, by rw [List.getElem?_map, hx]; rfl, tup_tuple ((fx4 H hK.2).2.2 x (List.mem_of_getElem? hx)).1⟩
    · walk_at "zz go"
      exact hq
    · rw [List.getElem?_map] at hp
      cases hx : rs[i]? with
      | none => rw [hx] at hp; cases hp
      | some x =>
      rw [hx] at hp
      obtain rfl := Option.some.inj hp
      dsimp only at hmx hmy
      have hmx := hmx.resolve_left (by decide)
      have hmem := List.mem_of_getElem? hx
      have hb := B.keeps hK.1
      have hnx := ((fx4 _ hK.2).2.2 x hmem).2
      refine wpAny_Tuple_spliced ?_
      refine spliced_more (block_name hn hmx ?_)
      refine spliced_more (block_call (X.keeps hK.1) (T.keeps hK.1) hn hmx (by k_is) (by k_is) rfl rfl ?_)
      refine does_use (A₁ := Lv 20) (qname_c hb hnx (g.nm x hmem)) rfl (Nat.le_of_ble_eq_true rfl) (Nat.le_of_ble_eq_true rfl) rfl rfl ?_
      rintro _ h7 tk7 _ k7 ⟨u7, rfl⟩
      refine spliced_more (block_name (s := { s₂ with heap := h7, toks := tk7 }) (hn.keeps k7) hmy ?_)
      refine spliced_none ⟨by rw [sizeLine_eq]; show 3 ≤ 16777216; decide, h7.objs.size, [.ref x.ka, .str (qn x.nm.1 x.nm.2) u7, .str x.val x.tok], _, tk7, rfl, ?_, rfl, Heap.get?_push_size _ rfl, fun b o e => Heap.get?_push_of_some _ (k7 b o e), fun x' hx' => ?_⟩
      · cases q : s₂.heap.get? h7.objs.size with
        | none => rfl
        | some o' => exact absurd (Heap.lt_size (k7 _ _ q)) (Nat.lt_irrefl _)
      · obtain rfl := Option.some.inj hx'
        exact ⟨u7, rfl⟩
    obtain ⟨es, e1, e2, e3⟩ := trows (rs := rs) (by rw [hts]; simp) fun i t x h1 h2 => hG i t h1 x h2
    walk_at "zz go"
    have hexr : ∀ e ∈ es, e.x ∈ rs := fun e he => e1 ▸ List.mem_map_of_mem (f := fun e : TRow => e.x) he
    have hesl : es.length = rs.length := by rw [← e1, List.length_map]
    refine sorted_rows (vs := es.map fun e => Value.ref e.t) (xs := es) (nm := fun e : TRow => e.x.nm) (rest := fun e => [qn e.x.nm.1 e.x.nm.2, e.x.val]) F8 N8 (Nat.le_of_ble_eq_true rfl) ⟨o8, (N8 _ (.head _)).1, hoc8, _, by rw [e2]; exact hod8⟩ (by simp)
      (by have := g.nd; rw [← e1, List.map_map] at this; exact this) (by simp; omega) (fun H hK i v e h1 h2 => ?_) fun D9 c9 h9 zs hz9 ho9 F9 N9 _ => ?_
    · rw [List.getElem?_map, h2] at h1
      obtain rfl := Option.some.inj h1
      have hme := List.mem_of_getElem? h2
      exact row_trip (hK.2 _ (.tail _ (List.mem_append_left _ (e3 e hme)))) ((fx4 H fun p hp => hK.2 p (.tail _ (List.mem_append_right _ hp))).2.2 _ (hexr e hme)).2
    obtain ⟨T1, eV, hsub⟩ := sorts_trows e1 hz9 ho9
    have hfl : (zs.map (·.2)).length ≤ 8 := by
      have := hz9.length_eq
      simp at this
      simp; omega
    generalize zs.map (·.2) = fs at T1 eV hsub hfl
    rw [eV] at N9
    have ea := S.uniq T1
    subst ea
    have hfr : ∀ e ∈ fs, e.x ∈ rs := fun e he => hexr e (hsub e he)
    have hfo : ∀ e ∈ fs, e.obj ∈ tups ts := fun e he => e3 e (hsub e he)
    clear F8 N8 hz9 ho9 eV e1 e2 e3 hexr hesl hG hts hsub hoc8 hod8
    walk_at "zz go"
    have F10 := (by assumption : Fr h₀ L _ _)
    have N10 := (by assumption : News h₀ L _ _)
    obtain ⟨all5, N11, mD, mO, sub4⟩ : ∃ all5, News h₀ L _ all5 ∧ (D9, W.listOf (fs.map fun e => Value.ref e.t).toArray c9) ∈ all5 ∧ (∀ e ∈ fs, e.obj ∈ all5) ∧ (∀ p ∈ all4, p ∈ all5) :=
      ⟨_, N10, .head _, fun e he => .tail _ (.tail _ (List.mem_append_left _ (hfo e he))), fun p hp => .tail _ (.tail _ (List.mem_append_right _ hp))⟩
    have fx5 : ∀ H, Has all5 H → NSRd prog w H r dv dq (rs.map PRow.ent) ys ∧ H.IsList l (rs.map fun x => Value.ref x.a).toArray ∧ RowsIn H rs := fun H hH => fx4 H (hH.mono sub4)
    have fp5 : ∀ H, Has all5 H → PlRd w H rp dp zsP := fun H hH => fp4 H (hH.mono sub4)
    have Ir5 : ∀ H, Has all5 H → InstAt H r (instObj 200 dxr) 200 (some (dictOf (nsE w tr' ur' dvr' dqr') 2)) := fun H hH => Ir4 H (hH.mono sub4)
    have Ip5 : ∀ H, Has all5 H → InstAt H rp (instObj 144 dxp) 144 (some (dictOf [selfE w (Str.ofString "_attrs") tp dp] 1)) := fun H hH => Ip4 H (hH.mono sub4)
    have subI5 := fun p (hp : p ∈ (_, o) :: all11) => sub4 p (subI p hp)
    clear fx4 fp4 Ir4 Ip4 sub4 subI N10 N9 F9 hfo T1
    rw [List.map_map] at hzP
    have hzP : zsP.map (fun z => (z.nm, z.val)) = fs.map (fun e => (qn e.x.nm.1 e.x.nm.2, e.x.val)) := hzP
    have hnf : ∀ e ∈ fs, IsNm e.x.nm.1 e.x.nm.2 := fun e he => g.nm _ (hfr e he)
    have hokf : ∀ e ∈ fs, okS e.x.val := fun e he => g.ok _ (hfr e he)
    have hzl : zsP.length = rs.length := by
      have h1 := congrArg List.length hzP
      have h2 := S.length
      simp at h1 h2
      omega
    walk_at "zz step"
    walk_at "zz go"
    refine' use_fr (A₁ := Lv 16) (pl_items ?ub (fp5 _ (has_news N11 fun p hp => hp))) ?u1 ?u2 ?u3 ?u4 ?u5 ?u6 ?u7 ?_
    walk_at "zz use"
    rintro _ h12 tk12 - k12 F12 N12 ⟨l12, rfl, as12, hl12, hn12, hi12⟩
    clear k12 F10 N11
    walk_at "zz go"
    refine Held.go ?_
    have hD12 := (N12 _ mD).1
    refine comp_tups (x := Str.ofString "row") (vs := fs.map fun e => Value.ref e.t) (fun v its => ∀ e ∈ fs, v = .ref e.t → its = #[.str (qn e.x.nm.1 e.x.nm.2) e.u, .str e.x.val e.x.tok]) rfl (by decide) (by decide) rfl (by decide) rfl (by intro _; rfl) F12 N12 ⟨_, hD12, rfl, _, rfl⟩ (by simp; omega) (fun Q' hq => ?_) (fun C v s₂ m₂ E' hv hn hm hk => ?_) fun D13 o13 c13 h13 tk13 ks hP hoc13 hod13 F13 N13 k13 hne13 => ?_
    · walk_at "zz go"
      exact hq
    · obtain ⟨e, he, rfl⟩ := List.mem_map.mp hv
      have ht := hk _ _ (N12 _ (mO e he)).1
      refine block_two hn hm ⟨_, ht, rfl, _, rfl⟩ rfl rfl rfl fun tk => ⟨⟨_, _, rfl, ?_, ⟨_, Heap.get?_push_size _ rfl, rfl, _, rfl⟩, fun e' he' q => ?_⟩, _, _, rfl, fun b o e => Heap.get?_push_of_some _ e⟩
      · cases q : s₂.heap.get? s₂.heap.objs.size with
        | none => rfl
        | some o' => exact absurd (Heap.lt_size q) (Nat.lt_irrefl _)
      · injection q with q
        have hv2 := tobj_inj ht (hk _ _ (N12 _ (mO e' he')).1) q
        injection hv2 with _ hv2
        injection hv2 with hv3 hv2
        injection hv2 with hv4 _
        rw [hv3, hv4]
    obtain ⟨hl13, hp13⟩ := Paired.at hP
    rw [List.length_map] at hl13
    walk_at "zz go"
    refine ne_same (d := .list (fs.map fun e => dQ (qn e.x.nm.1 e.x.nm.2, e.x.val))) ?_ ?_ ?_ (Nat.le_of_ble_eq_true rfl) ?_
    · have e1 : fs.map (fun e => dQ (qn e.x.nm.1 e.x.nm.2, e.x.val)) = zsP.map fun z => dQ (z.nm, z.val) := by
        have := congrArg (List.map dQ) hzP
        rw [List.map_map, List.map_map] at this
        exact this.symm
      rw [e1]
      refine keeps_ex (reads_listOf hl12 (by simp [hn12]) fun i v d h1 h2 => ?_) k13
      rw [List.getElem?_map] at h1 h2
      cases ha : as12[i]? with
      | none => rw [ha] at h1; cases h1
      | some a =>
        cases hx : zsP[i]? with
        | none => rw [hx] at h2; cases h2
        | some z =>
          rw [ha] at h1
          rw [hx] at h2
          obtain rfl := Option.some.inj h1
          obtain rfl := Option.some.inj h2
          exact reads_two (hi12 i a z ha hx)
    · refine reads_listOf ⟨_, (N13 _ (.head _)).1, hoc13, _, hod13⟩ (by simp [hl13]) fun i v d h1 h2 => ?_
      rw [List.getElem?_map] at h2
      cases hx : fs[i]? with
      | none => rw [hx] at h2; cases h2
      | some e =>
        rw [hx] at h2
        obtain rfl := Option.some.inj h2
        obtain ⟨Tt, its, rfl, hT, hG⟩ := hp13 i (.ref e.t) v (by rw [List.getElem?_map, hx]; rfl) h1
        have := hG e (List.mem_of_getElem? hx) rfl
        subst this
        exact reads_two hT
    · exact Lay.list _ fun e he => Lay.q (qn_ok (hnf e he)) (hokf e he)
    clear F12 N12 hl12 hi12 hn12 hP hp13 hl13 hoc13 hod13 hne13 k13
    walk_at "zz go"
    refine' use_fr (A₁ := Lv 16) (pl_getQNames ?ub (fp5 _ (has_news N13 fun p hp => .tail _ hp))) ?u1 ?u2 ?u3 ?u4 ?u5 ?u6 ?u7 ?_
    walk_at "zz use"
    rintro _ h14 tk14 - k14 F14 N14 ⟨l14, rfl, hl14⟩
    clear k14 F13 N13
    walk_at "zz go"
    refine Held.go ?_
    refine comp_eval (x := Str.ofString "row") (vs := fs.map fun e => Value.ref e.t) (fun v z => ∀ e ∈ fs, v = .ref e.t → z = .str (qn e.x.nm.1 e.x.nm.2) e.u) rfl (by decide) (by decide) rfl (by decide) rfl (by intro _; rfl) F14 N14 ⟨_, (N14 _ (.tail _ mD)).1, rfl, _, rfl⟩ (by simp; omega) (fun Q' hq => ?_) (fun C v s₂ m₂ E' hv hn hm hk => ?_) fun D15 o15 c15 h15 tk15 ks15 hP hoc15 hod15 F15 N15 k15 hne15 => ?_
    · walk_at "zz go"
      exact hq
    · obtain ⟨e, he, rfl⟩ := List.mem_map.mp hv
      have ht := hk _ _ (N14 _ (.tail _ (mO e he))).1
      refine block_item (j := 1) hn hm ⟨_, ht, rfl, _, rfl⟩ (by decide) (by decide) (by rfl) (by rfl) fun tk => ⟨fun e' he' q => ?_, _, _, rfl, fun _ _ e => e⟩
      injection q with q
      have hv2 := tobj_inj ht (hk _ _ (N14 _ (.tail _ (mO e' he'))).1) q
      injection hv2 with _ hv2
      injection hv2 with hv3 hv2
    obtain rfl := paired_map (f := fun e : TRow => Value.str (qn e.x.nm.1 e.x.nm.2) e.u) hP fun e he z hz => hz e he rfl
    walk_at "zz go"
    refine ne_same (d := .list (fs.map fun e => PyData.str (qn e.x.nm.1 e.x.nm.2))) ?_ ?_ ?_ (Nat.le_of_ble_eq_true rfl) ?_
    · have e1 : fs.map (fun e => PyData.str (qn e.x.nm.1 e.x.nm.2)) = zsP.map fun z => PyData.str z.nm := by
        have := congrArg (List.map (fun p => PyData.str p.1)) hzP
        rw [List.map_map, List.map_map] at this
        exact this.symm
      rw [e1]
      exact keeps_ex (reads_map _ _ hl14 fun z hz => ⟨_, .str _ _⟩) k15
    · exact reads_map _ _ ⟨_, (N15 _ (.head _)).1, hoc15, _, hod15⟩ fun e he => ⟨_, .str _ _⟩
    · exact Lay.list _ fun e he => Lay.s (qn_ok (hnf e he))
    clear F14 N14 hl14 hP hoc15 hod15 hne15 k15
    walk_at "zz go"
    refine' use_fr (A₁ := Lv 14) (pl_copy ?ub (fp5 _ (has_news N15 fun p hp => .tail _ (.tail _ hp)))) ?u1 ?u2 ?u3 ?u4 ?u5 ?u6 ?u7 ?_
    walk_at "zz use"
    rintro _ h16 tk16 - k16 F16 N16 ⟨rc, rfl, Rc⟩
    clear k16 F15 N15
    obtain ⟨dxc, tc, hc1, hc2⟩ := Rc.inst
    have Ic := inst_of hc1 hc2
    walk_at "zz go"
    refine' use_fr (A₁ := Lv 16) (pl_len ?ub Rc) ?u1 ?u2 ?u3 ?u4 ?u5 ?u6 ?u7 ?_
    walk_at "zz use"
    rintro _ h17 tk17 - k17 F17 N17 ⟨t17, rfl⟩
    clear k17 F16 N16 Ic hc1 hc2 Rc
    dsimp only [W.LenBack]
    rw [hzl]
    walk_at "zz go"
    refine PyProof.Rows.len_list (fx5 _ (has_news N17 fun p hp => .tail _ (.tail _ hp))).2.1 (by simp; omega) ?_
    simp only [List.size_toArray, List.length_map]
    refine ne_same (d := .int rs.length) ⟨_, .int _ _⟩ ⟨_, .int _ _⟩ rfl (Nat.le_of_ble_eq_true rfl) ?_
    walk_at "zz go"
    walk_at "zz step"
    walk_at "zz go"
    refine iter_list3 (x := Str.ofString "name") (y := Str.ofString "qname") (z := Str.ofString "value") (vs := fs.map fun e => Value.ref e.t) (ps := fs.map fun e => (Value.ref e.x.ka, Value.str (qn e.x.nm.1 e.x.nm.2) e.u, Value.str e.x.val e.x.tok)) rfl rfl rfl rfl rfl (listK_news (.tail _ (.tail _ mD)) rfl) (fun i v H hv hK => ?_) F17 N17
      (fun i m => m "plain" = some (.ref rp) ∧ m "reader" = some (.ref r)) ⟨rfl, rfl⟩ ?_ ?_
    · rw [List.getElem?_map] at hv
      cases hx : fs[i]? with
      | none => rw [hx] at hv; cases hv
      | some e =>
        rw [hx] at hv
        exact ⟨e.t, _, (Option.some.inj hv).symm, by rw [List.getElem?_map, hx]; rfl, _, hK.2 _ (.tail _ (.tail _ (mO e (List.mem_of_getElem? hx)))), rfl, _, rfl⟩
    · rintro i p m₁ h tk oI hi hp ⟨hmp, hmr⟩ F₁ N₁
      rw [List.getElem?_map] at hp
      cases hx : fs[i]? with
      | none => rw [hx] at hp; cases hp
      | some e =>
      rw [hx] at hp
      obtain rfl := Option.some.inj hp
      dsimp only at F₁
      have hme := List.mem_of_getElem? hx
      obtain ⟨zz, hlz, hzv⟩ := look_plain g hzP hfr hme
      have hmx := hfr e hme
      have hnx := hnf e hme
      have hox := hokf e hme
      obtain ⟨y, hly, hyn, hyk, hyv⟩ := ents_of hys g.nd hmx
      have hlx : look (rs.map PRow.ent) e.x.nm = some e.x.ent := look_of_mem (x := e.x.ent) (by rw [List.map_map]; exact g.nd) (List.mem_map_of_mem hmx)
      clear hp hx F17 N17
      walk_at "zz go"
      walk_at "zz step"
      walk_at "zz go"
      refine' use_fr (A₁ := Lv 16) (pl_getValueByQName ?ub (fp5 _ (has_news N₁ fun p hp => .tail _ (.tail _ (.tail _ hp)))) hlz) ?u1 ?u2 ?u3 ?u4 ?u5 ?u6 ?u7 ?_
      walk_at "zz use"
      rintro _ h2 tk2 - k2 F2 N2 rfl
      clear k2 F₁ N₁
      rw [hzv]
      walk_at "zz go"
      have R2 := (fx5 _ (has_news N2 fun p hp => .tail _ (.tail _ (.tail _ hp)))).1
      have hyu : ∀ y' ∈ ys, y'.val = qn e.x.nm.1 e.x.nm.2 → y' = y := fun y' hy' q => by
        obtain ⟨g1, g2⟩ := ent_val hys g.nm hy'
        rw [g2] at q
        have e2 := qn_inj (a := y'.nm) (b := e.x.nm) g1 hnx q
        obtain ⟨eq, U⟩ := R2.qns
        have e3 := look_of_mem (U.nd) hy'
        rw [e2, hly] at e3
        exact (Option.some.inj e3).symm
      refine' use_fr (A₁ := Lv 14) (ns_getValueByQName (x := y) (y := e.x.ent) ?ub R2 (by rw [hyn]; exact hly) hyv hyu (by rw [hyn]; exact hlx)) ?u1 ?u2 ?u3 ?u4 ?u5 ?u6 ?u7 ?_
      walk_at "zz use"
      rintro _ h3 tk3 - k3 F3 N3 rfl
      clear k3 R2 F2 N2
      walk_at "zz go"
      refine Held.go ?_
      refine ne_same (d := .str e.x.val) ⟨_, .str _ _⟩ ⟨_, .str _ _⟩ (Lay.s hox).shaped (Nat.le_of_ble_eq_true rfl) ?_
      walk_at "zz go"
      refine' use_fr (A₁ := Lv 16) (pl_getNameByQName ?ub (fp5 _ (has_news N3 fun p hp => .tail _ (.tail _ (.tail _ hp)))) hlz) ?u1 ?u2 ?u3 ?u4 ?u5 ?u6 ?u7 ?_
      walk_at "zz use"
      rintro _ h4 tk4 - k4 F4 N4 rfl
      clear k4 F3 N3
      walk_at "zz go"
      refine Held.go ?_
      refine ne_same (d := .str (qn e.x.nm.1 e.x.nm.2)) ⟨_, .str _ _⟩ ⟨_, .str _ _⟩ (Lay.s (qn_ok hnx)).shaped (Nat.le_of_ble_eq_true rfl) ?_
      walk_at "zz go"
      refine' use_fr (A₁ := Lv 16) (pl_getValue ?ub (fp5 _ (has_news N4 fun p hp => .tail _ (.tail _ (.tail _ hp)))) hlz) ?u1 ?u2 ?u3 ?u4 ?u5 ?u6 ?u7 ?_
      walk_at "zz use"
      rintro _ h5 tk5 - k5 F5 N5 rfl
      clear k5 F4 N4
      rw [hzv]
      walk_at "zz go"
      refine Held.go ?_
      refine ne_same (d := .str e.x.val) ⟨_, .str _ _⟩ ⟨_, .str _ _⟩ (Lay.s hox).shaped (Nat.le_of_ble_eq_true rfl) ?_
      walk_at "zz go"
      have F9 := (by assumption : Fr h₀ L _ _)
      have N9 := (by assumption : News h₀ L _ _)
      exact PurePost.next F9 N9 (fun _ hp => hp) ⟨hmp, hmr⟩
    · rintro h' tk' m'' F' N' ⟨hmp, hmr⟩
      walk_at "zz go"
      have F9 := (by assumption : Fr h₀ L _ _)
      have N9 := (by assumption : News h₀ L _ _)
      exact PurePost.next F9 N9 (fun p hp => .tail _ (.tail _ (subI5 p hp))) trivial
  · rintro h' tk' m'' F' N' -
    walk_at "zz go"
    walk_at "zz step"
    walk_at "zz go"
    have F9 := (by assumption : Fr h₀ L _ _)
    exact hQ _ _ F9.keep
end At
end
section
open PySem PySem.W PySem.Calls PyProof.Rows
set_option Elab.async false
set_option maxRecDepth 100000
namespace At
theorem law_all {prog : Program} {w : World} {s : Shared} {h₀ : Heap} {L l f : Addr} {cd : Value} {vs : List Value} {ns : List Int} {m : Str → Option Value}
    {name qual : Str} {params : Arguments} {body : List Stmt} {scope : Scope} {dV kV doc pm cdv ct oc : Value} {an od : Option Addr} {osl : Array (Option Value)}
    (ho : (hd.heap_1 w.params).lookup 302 = some ⟨oc, od, .func (fnOf name qual params body scope dV kV doc pm an cdv ct), osl⟩)
    (B : Base w h₀) (hl : h₀.IsList l vs.toArray) (hi : IntsAre vs ns) (h63 : ns.length ≤ 63) (F : Fr h₀ L s.heap m) (N : News h₀ L s.heap []) (hm1 : m "script" = some (.ref l)) :
    wpAny (model prog w) (callerA.deeper (envOf qual scope L f cd)) (execs body (envOf qual scope L f cd)) (fun fl s' => fl = .ret (.bool true) ∧ ∃ h' tk, s' = { s with heap := h', toks := tk } ∧ h₀.StaysIn h') noE s :=
  law_A1 ho B hl hi h63 F N hm1 fun _ _ _ _ g1 hs => law_A2 ho B hl hi h63 hs fun _ hs => law_B ho B g1 hs fun _ hs => law_C ho B hs fun _ hs => law_D ho B hs fun h' tk k => ⟨rfl, h', tk, rfl, k⟩
end At
local macro_rules | `(tactic| k_qdec) => `(tactic| kernel_rfl)
set_option maxHeartbeats 8000000 in
theorem PySem.Challenge.cw_at0009_01_holds : PySem.Challenge.rw_at0009_01.Holds :=
  At.hd (by
  k_go0
  (all_goals try k_fold)
  have KX := (by assumption : (At.hd.heap_1 _).In _)
  have TT := (by assumption : Top _ _ _ _ _ _)
  have hL := (by assumption : Heap.IsList _ _ _)
  have hI := (by assumption : IntsAre _ _)
  have h63 := (by assumption : ¬ (_ : Int) < _)
  have hgens := (by assumption : Shared.gens _ = #[])
  have F := (by assumption : Fr _ _ _ _)
  have N := (by assumption : News _ _ _ _)
  have B : At.Base _ _ := ⟨KX, _, _, _, _, _, TT⟩
  refine' wpAny_mono (At.law_all ?ho B hL hI (by omega) F N rfl) ?_ (fun _ _ x => x.elim)
  (case ho => k_is)
  rintro fl s' ⟨rfl, h', tk, rfl, k⟩
  exact ⟨.inl ⟨_, .bool true, [], rfl, fun _ => rfl, .bool true, (by first | wrow_post | kc_post), fun _ => ⟨.nil, fun _ h => nomatch h⟩⟩, k, rfl, hgens⟩)
end
end
end
end
