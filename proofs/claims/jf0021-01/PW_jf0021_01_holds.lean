import PyProof.Rows.All
import Wide.All
import OpenK.AllK
import Wide.FinOn
import KE.KxDecode
import PyProof.Rows.RaiseClass
import Lean
import PySem.Challenge.RW_jf0021_01
set_option Elab.async false
set_option maxRecDepth 100000
section
open PySem PySem.W PyProof.Rows
set_option genInjectivity false
set_option genSizeOf false
namespace Mine
noncomputable def btOf : List Obj → Nat → BT → BT
  | [], _, t => t
  | o :: l, n, t => btOf l (n + 1) (t.ins n o)
noncomputable def btOk : List Obj → Nat → BT → Bool
  | [], _, _ => true
  | o :: l, n, t => match ((t.ins n o).get n).isSome with
    | true => btOk l (n + 1) (t.ins n o)
    | false => false
theorem absHeap_btOf (life : Life) : ∀ (l : List Obj) (n : Nat) (t : BT), btOk l n t = true → absHeap (btOf l n t) (n + l.length) life = ⟨((t.list n) ++ l).toArray, life⟩
  | [], n, t, _ => by simp [btOf, absHeap]
  | o :: l, n, t, h => by
    unfold btOk at h
    cases e : ((t.ins n o).get n).isSome with
    | false => rw [e] at h; cases h
    | true =>
      rw [e] at h
      have r := absHeap_btOf life l (n + 1) (t.ins n o) h
      have q := absHeap_ins (life := life) e
      have q' : ((t.ins n o).list (n + 1)) = t.list n ++ [o] := by
        have := congrArg (fun H : Heap => H.objs.toList) q
        simpa [absHeap, Heap.push] using this
      unfold btOf
      rw [show n + (o :: l).length = n + 1 + l.length by simp; omega, r, q']
      simp
noncomputable def runQ (p : Program) (w : World) (n₀ : Nat) (ann : Option Value) (n : Nat) : SharedT → Thread → Option SharedT :=
  Nat.rec (fun _ _ => none) (fun _ ih s t => match through t with
    | true => some s
    | false => match PySem.W.Fast.tw6613529449190102663 n₀ ann t with
      | false => none
      | true => match PySem.W.Fast.tw10156331382660048174 (PySem.W.Fast.tw11892475500146522536 PySem.W.Fast.tw14364793385576792824) p w s t with
        | some (s', t') => ih s' t'
        | none => none) n
theorem runQ_of {p : Program} {w : World} {n₀ : Nat} {ann : Option Value} : ∀ {n : Nat} {s s' : SharedT} {t : Thread}, runQ p w n₀ ann n s t = some s' → topRun treeTable p w n₀ ann n s.abs t = some s'.abs
  | 0, _, _, _, h => by cases h
  | n + 1, s, s', t, h => by
    have h : (match through t with
      | true => some s
      | false => match PySem.W.Fast.tw6613529449190102663 n₀ ann t with
        | false => none
        | true => match PySem.W.Fast.tw10156331382660048174 (PySem.W.Fast.tw11892475500146522536 PySem.W.Fast.tw14364793385576792824) p w s t with
          | some (s', t') => runQ p w n₀ ann n s' t'
          | none => none) = some s' := h
    rw [← PySem.W.Fast.te6613529449190102663, ← PySem.W.Fast.te10156331382660048174, ← PySem.W.Fast.te11892475500146522536, ← PySem.W.Fast.te14364793385576792824] at h
    unfold topRun
    cases ht : through t with
    | true => rw [ht] at h; cases h; rfl
    | false =>
      rw [ht] at h
      dsimp only at h ⊢
      cases hk : stepOk n₀ ann t with
      | false => rw [hk] at h; cases h
      | true =>
        rw [hk] at h
        dsimp only at h ⊢
        cases hs : stepT (denote treeTable) p w s t with
        | none => rw [hs] at h; cases h
        | some r =>
          obtain ⟨s₂, t₂⟩ := r
          rw [hs] at h
          rw [stepT_spec hs]
          exact runQ_of h
noncomputable def bootT (w : World) (os : OsState) : SharedT := ⟨btOf (boot_heap w.params).objs.toList 0 .nil, (boot_heap w.params).objs.toList.length, (boot_heap w.params).life, Array.mk [], boot_drawn, boot_toks, os⟩
theorem boot_ok (w : World) : btOk (boot_heap w.params).objs.toList 0 .nil = true := by kernel_rfl
theorem bootT_abs (w : World) (os : OsState) : (bootT w os).abs = ⟨boot_heap w.params, Array.mk [], boot_drawn, boot_toks, os⟩ := by
  unfold bootT SharedT.abs
  have := absHeap_btOf (boot_heap w.params).life _ _ _ (boot_ok w)
  rw [Nat.zero_add] at this
  rw [this]
  simp [BT.list]
noncomputable def topR (p : Program) (w : World) (N : Nat) (os : OsState) : Option SharedT :=
  runQ p w (boot_heap w.params).objs.size ((boot_heap w.params).nsMap mainGlobals (Str.ofString "__annotations__")) N (bootT w os) (topStub p)
noncomputable def hd.view_39 : Program := { PySem.Challenge.pw_jf0021_01 with main := { PySem.Challenge.pw_jf0021_01.main with body := ((PySem.Challenge.pw_jf0021_01.main.body.eraseIdx 19).eraseIdx 5).eraseIdx 1 } }
noncomputable abbrev xtQ : Shared → Bool := fun s => xlAt Mine.hd.view_39 [] s && recOk (RowW.records (PySem.Challenge.rw_jf0021_01.row.toRowW)) s
theorem look_ns (w : World) : ((boot_heap w.params).isNs mainGlobals && (Array.mk ([] : List GenState)).size == 0) = true := by kernel_rfl
theorem look_st (w : World) (os : OsState) : (topR PySem.Challenge.pw_jf0021_01 w 7000 os).map (fun s => staticsOk (importedModules PySem.Challenge.pw_jf0021_01.main.body) (boot_heap w.params) s.abs.heap && namesBound PySem.Challenge.pw_jf0021_01 s.abs.heap && gensDone s.abs && laidKept (boot_heap w.params) s.abs.heap) = some true := by kernel_rfl
theorem look_op (w : World) (os : OsState) : (topR PySem.Challenge.pw_jf0021_01 w 7000 os).map (fun s => PySem.W.Fast.tw4187177175401517315 Mine.hd.view_39 [Str.ofString "_law_pieces"] (importedModules PySem.Challenge.pw_jf0021_01.main.body) xtQ true s.abs) = some (openGood Mine.hd.view_39 [Str.ofString "_law_pieces"]) := by kernel_rfl
theorem left_fast {p q : Program} {loose : List Str} {Xt : Shared → Bool} {α : Type} {Yf : Shared → α} {Ya : World → α} {N : Nat}
    (e : opening p = plainProg p.main.scope.names) (hN : Nat.ble 600 N = true) (f : ∀ s, fenceModules? p s = some s)
    (l1 : ∀ (w : World) (os : OsState), (topR p w N os).map (fun s => staticsOk (importedModules p.main.body) (boot_heap w.params) s.abs.heap && namesBound p s.abs.heap && gensDone s.abs && laidKept (boot_heap w.params) s.abs.heap) = some true)
    (l2 : ∀ (w : World) (os : OsState), (topR p w N os).map (fun s => PySem.W.Fast.tw4187177175401517315 q loose (importedModules p.main.body) Xt true s.abs) = some (openGood q loose))
    (l3 : ∀ (w : World) (os : OsState), (topR p w N os).map (fun s => Yf s.abs) = some (Ya w)) :
    LeftO p q loose Xt Yf Ya N := fun w => by
  obtain ⟨⟨h, gs, d, k, os⟩, hs, hv⟩ := Option.map_eq_some_iff.mp (boot_open (N := N) e hN f w)
  have h1 := congrArg Prod.fst hv
  have h2 := congrArg (fun x => x.2.1) hv
  have h3 := congrArg (fun x => x.2.2.1) hv
  have h4 := congrArg (fun x => x.2.2.2) hv
  dsimp only at h1 h2 h3 h4
  subst h1 h2 h3 h4
  unfold openEnds
  rw [hs]
  obtain ⟨s, r, a1⟩ := Option.map_eq_some_iff.mp (l1 w os)
  have a2 := l2 w os
  have a3 := l3 w os
  rw [r] at a2 a3
  have a2 := Option.some.inj a2
  have a3 := Option.some.inj a3
  have t : topFrom treeTable p w N ⟨boot_heap w.params, Array.mk [], boot_drawn, boot_toks, os⟩ = some s.abs := by
    have r' := runQ_of r
    rw [bootT_abs] at r'
    unfold topFrom
    dsimp only
    rw [look_ns w, r']
    show (match staticsOk (importedModules p.main.body) (boot_heap w.params) s.abs.heap && namesBound p s.abs.heap && gensDone s.abs && laidKept (boot_heap w.params) s.abs.heap with | true => _ | false => _) = _
    rw [a1]
  show (topFrom treeTable p w N _).map _ = _
  rw [t]
  rw [← PySem.W.Fast.te4187177175401517315] at a2
  exact congrArg some (Prod.ext a2 a3)
theorem left_fast2 {p : Program} {α : Type} {Yf : Shared → α} {Ya : World → α} (ep : p = PySem.Challenge.pw_jf0021_01)
    (l3 : ∀ (w : World) (os : OsState), (topR PySem.Challenge.pw_jf0021_01 w 7000 os).map (fun s => Yf s.abs) = some (Ya w)) :
    LeftO p Mine.hd.view_39 [Str.ofString "_law_pieces"] xtQ Yf Ya 7000 := by
  subst ep
  exact left_fast (by kernel_rfl) (by decide) (fun s => by kernel_rfl) look_st look_op l3
theorem oh (H : Hook) {d : DefRec} {kwd : List (Str × Expr)}
    (l3 : ∀ (w : World) (os : OsState), (topR PySem.Challenge.pw_jf0021_01 w 7000 os).map (fun s => Hook.obs H s.abs) = some (Hook.val H w))
    (hdef : defOf Mine.hd.view_39 PySem.Challenge.rw_jf0021_01.row.name = some (d, kwd)) (hp : PySem.Challenge.rw_jf0021_01.row.prog.theDef PySem.Challenge.rw_jf0021_01.row.name = some (d.params, d.body, d.scope)) (hk : kwWritten? d.params.kwonlyargs d.params.kw_defaults = some kwd)
    (k1 : PySem.Challenge.rw_jf0021_01.row.wellSaid = true) (hw : PySem.Challenge.rw_jf0021_01.row.toRowW.promised)
    (call : WalkO Mine.hd.view_39 [Str.ofString "_law_pieces"] (XL Mine.hd.view_39 []) (Hook.says H) PySem.Challenge.rw_jf0021_01.row.toRowW d kwd fun f vs => PySem.call f vs) : PySem.Challenge.rw_jf0021_01.row.Holds :=
  holds_open (q := Mine.hd.view_39) (loose := [Str.ofString "_law_pieces"]) (Xt := xtQ) (XP := XL Mine.hd.view_39 []) (Yf := Hook.obs H) (Ya := Hook.val H) (YP := Hook.says H) (N := 7000) (left_fast2 (by kernel_rfl) l3) (Hook.of H) (Hook.keeps H) (fun s e => xl_of s (Bool.and_eq_true_iff.mp e).1) XL.keeps hdef hp hk (fun s e => recFacts_of (Bool.and_eq_true_iff.mp e).2) (by rfl) k1 (by decide +kernel) ⟨rfl, rfl, rfl, rfl, rfl, by decide +kernel⟩ hw call
local macro_rules | `(tactic| o_head $H) => `(tactic| refine oh $H (fun w os => by kernel_rfl) (by rfl) (by rfl) (by rfl) (by assumption) ?hw ?call)
set_option maxRecDepth 100000 in
theorem said0 : PySem.Challenge.rw_jf0021_01.wellSaid = true := by
  rw [PySem.W.Fast.te9446332074065402090]
  kernel_rfl
local macro_rules | `(tactic| o_law) => `(tactic| refine holds_law said0 fun said => ?_)
set_option maxRecDepth 100000 in
set_option maxHeartbeats 8000000 in
open_top hd for PySem.Challenge.rw_jf0021_01
theorem mode_off : True := by
  w_top off
  trivial
end Mine
end

section
set_option genInjectivity false
set_option genSizeOf false
namespace Mine
-- a proof cut in two (or three): what is left to show, read off the goal
structure Cut1 (A : Type) (Q : A → Prop) where
  a : A
  h : Q a
structure Cut2 (A B : Type) (Q : A → B → Prop) where
  a : A
  b : B
  h : Q a b
end Mine
end

section
open PySem PySem.W PySem.Calls PyProof.Rows
set_option genInjectivity false
set_option genSizeOf false
namespace Mine

noncomputable abbrev prg : Program := PySem.Challenge.rw_jf0021_01.row.prog

/-- surroundings of a fixed depth -/
noncomputable abbrev stA (n : Nat) (outer : List Env) : Around := { handled := none, depth := n, frames := some outer, guards := none, units := n }

theorem wpAny_up {α : Type} {M : Model} {A A' : Around} {t : Sem α} {Q : α → Shared → Prop} {E : Value → Shared → Prop} {s : Shared} (h : wpAny M A' t Q E s)
    (h1 : A.handled = A'.handled) (h2 : A.depth ≤ A'.depth) (h3 : A.units ≤ A'.units) (h4 : ∀ l, A'.frames = some l → A.frames = some l) (h5 : ∀ l, A'.guards = some l → A.guards = some l) :
    wpAny M A t Q E s := fun Γ p hΓ =>
  h Γ p ⟨hΓ.1.trans h1, Nat.le_trans hΓ.2.1 h2, fun l e => hΓ.2.2.1 l (h4 l e), fun l e => hΓ.2.2.2.1 l (h5 l e), Nat.le_trans hΓ.2.2.2.2 h3⟩

structure At (w : World) (mean : ExcName → Option Value) (mg mb : Str → Option Value) (A : Around) (outer : List Env) (base g : Heap) (led : List (Addr × Obj)) (s : Shared) : Prop where
  b : Below A base outer g
  k : (Mine.hd.heap_1 w.params).In g
  t : Top Mine.hd.view_39 (looseW Mine.hd.view_39 [Str.ofString "_law_pieces"]) mean mg mb g
  st : g.StaysIn s.heap
  sz : g.objs.size ≤ s.heap.objs.size
  led : ∀ p ∈ led, s.heap.get? p.1 = some p.2 ∧ g.get? p.1 = none

/-- what holds behind a call: the ground is kept, the ledger is this -/
structure Done (g : Heap) (z : Nat) (led' : List (Addr × Obj)) (h' : Heap) : Prop where
  st : g.StaysIn h'
  sz : z < h'.objs.size
  led : ∀ p ∈ led', h'.get? p.1 = some p.2 ∧ g.get? p.1 = none

/-- what the caller wants behind the call -/
noncomputable def Ret (g : Heap) (s : Shared) (R : Nat → Value → List (Addr × Obj) → Prop) (Q : Value → Shared → Prop) : Prop :=
  ∀ v led' h' tk, Done g s.heap.objs.size led' h' → R s.heap.objs.size v led' → Q v { s with heap := h', toks := tk }

noncomputable def Con (w : World) (mean : ExcName → Option Value) (mg mb : Str → Option Value) (n : Nat) (f : Value) (args : List Value) (led : List (Addr × Obj)) (P : Heap → Prop) (R : Nat → Value → List (Addr × Obj) → Prop) : Prop :=
  ∀ (outer : List Env) (base g : Heap) (s : Shared) (Q E : Value → Shared → Prop), At w mean mg mb (stA n outer) outer base g led s → P g →
    Ret g s R Q → wpAny (model prg w) (stA n outer) (call f args) Q E s

section
variable {w : World} {mean : ExcName → Option Value} {mg mb : Str → Option Value}

theorem Con.use {n : Nat} {f : Value} {args : List Value} {led : List (Addr × Obj)} {P : Heap → Prop} {R : Nat → Value → List (Addr × Obj) → Prop}
    {A₀ A : Around} {base h₀ : Heap} {outer : List Env} {env : Env} {L : Addr} {m : Str → Option Value} {news rest : List (Addr × Obj)} {s : Shared} {Q E : Value → Shared → Prop}
    (C : Con w mean mg mb n f args led P R)
    (B : Below A₀ base outer h₀) (F : Fr h₀ L s.heap m) (X : (Mine.hd.heap_1 w.params).In h₀) (N : News h₀ L s.heap news) (T : Top Mine.hd.view_39 (looseW Mine.hd.view_39 [Str.ofString "_law_pieces"]) mean mg mb h₀)
    (hA : A.frames = some (env :: outer)) (hf : env.frame = some L) (hke : env.scope.kind = .function) (hd : A.depth ≤ n) (hu : A.units ≤ n) (hh : A.handled = none)
    (h1 : ∀ p ∈ led, p ∈ news) (h2 : ∀ p ∈ rest, p ∈ news) (h3 : ∀ p ∈ rest, ∀ q ∈ led, p.1 ≠ q.1)
    (hP : ∀ g, h₀.StaysIn g → (∀ p ∈ rest, g.get? p.1 = some p.2) → P g)
    (ret : ∀ z v led' h' tk, (∀ p ∈ news, p.1 < z) → Fr h₀ L h' m → News h₀ L h' (led' ++ rest) → (∀ p ∈ rest, ∀ q ∈ led', p.1 ≠ q.1) → R z v led' → Q v { s with heap := h', toks := tk }) :
    wpAny (model prg w) A (call f args) Q E s := by
  have NL : News h₀ L s.heap led := fun p hp => N p (h1 p hp)
  obtain ⟨FG, BG, st, _⟩ := groundX (R := fun _ _ => True) B F NL hA hf hke
  refine wpAny_up (A' := stA n (env :: outer)) (C (env :: outer) base (hideAll s.heap (led.map (·.1))) s Q E ⟨⟨rfl, BG.stays, BG.frames⟩, X.keeps (fun b o e => st b o e), T.keeps (fun b o e => st b o e), fun b o e => of_hideAll _ e, Nat.le_of_eq (hideAll_size _ _), fun p hp => ⟨(NL p hp).1, hideAll_none _ (List.mem_map_of_mem hp)⟩⟩ ?_ ?_) hh hd hu (fun l e => hA.trans e) (fun l e => by cases e)
  · refine hP _ st fun p hp => hideAll_get _ (N p (h2 p hp)).1 fun q => ?_
    obtain ⟨r, hr, e⟩ := List.mem_map.mp q
    exact h3 p hp r hr e.symm
  · intro v led' h' tk D r
    have stay : ∀ b o, (hideAll s.heap (led.map (·.1))).get? b = some o → h'.get? b = some o := D.st
    have hk : ∀ p ∈ rest, (hideAll s.heap (led.map (·.1))).get? p.1 = some p.2 := fun p hp => hideAll_get _ (N p (h2 p hp)).1 fun q => by
      obtain ⟨r, hr, e⟩ := List.mem_map.mp q
      exact h3 p hp r hr e.symm
    obtain ⟨oL, es, ep, hL, hr⟩ := FG.ns
    refine ret s.heap.objs.size v led' h' tk (fun p hp => Heap.lt_size (N p hp).1) ⟨⟨oL, es, ep, stay _ _ hL, hr⟩, fun b o e => stay b o (st b o e), FG.above⟩ (fun p hp => ?_) (fun p hp q hq e => ?_) r
    · rcases List.mem_append.mp hp with hp | hp
      · refine ⟨(D.led p hp).1, fun e => ?_, ?_⟩
        · have := (D.led p hp).2; rw [e, hL] at this; cases this
        · cases q : h₀.get? p.1 with
          | none => rfl
          | some o => have := (D.led p hp).2; rw [st _ _ q] at this; cases this
      · exact ⟨stay _ _ (hk p hp), (N p (h2 p hp)).2⟩
    · have := (D.led q hq).2; rw [← e, hk p hp] at this; cases this

theorem Con.use0 {n : Nat} {f : Value} {args : List Value} {led : List (Addr × Obj)} {P : Heap → Prop} {R : Nat → Value → List (Addr × Obj) → Prop}
    {A₀ A : Around} {base h₀ : Heap} {outer : List Env} {env : Env} {L : Addr} {m : Str → Option Value} {news : List (Addr × Obj)} {s : Shared} {Q E : Value → Shared → Prop}
    (C : Con w mean mg mb n f args led P R)
    (B : Below A₀ base outer h₀) (F : Fr h₀ L s.heap m) (X : (Mine.hd.heap_1 w.params).In h₀) (N : News h₀ L s.heap news) (T : Top Mine.hd.view_39 (looseW Mine.hd.view_39 [Str.ofString "_law_pieces"]) mean mg mb h₀)
    (hA : A.frames = some (env :: outer)) (hf : env.frame = some L) (hke : env.scope.kind = .function) (hd : A.depth ≤ n) (hu : A.units ≤ n) (hh : A.handled = none)
    (h1 : ∀ p ∈ led, p ∈ news) (hP : ∀ g, h₀.StaysIn g → P g)
    (ret : ∀ z v led' h' tk, (∀ p ∈ news, p.1 < z) → Fr h₀ L h' m → News h₀ L h' led' → R z v led' → Q v { s with heap := h', toks := tk }) :
    wpAny (model prg w) A (call f args) Q E s :=
  Con.use (rest := []) C B F X N T hA hf hke hd hu hh h1 (fun _ h => nomatch h) (fun _ h => nomatch h) (fun g st _ => hP g st)
    fun z v led' h' tk hz F' N' _ r => ret z v led' h' tk hz F' (by rw [List.append_nil] at N'; exact N') r

theorem con_enter0 {A : Around} {outer : List Env} {base g : Heap} {led : List (Addr × Obj)} {s : Shared} {R : Result → Shared → Prop} {name qual : Str} {params : Arguments} {body : List Stmt} {scope : Scope} {dV kV doc pm cdv ct oc : Value} {an od : Option Addr} {osl : Array (Option Value)} {f : Addr} {args : Args} {binds : List (Str × Value)}
    (H : At w mean mg mb A outer base g led s)
    (ho : (Mine.hd.heap_1 w.params).lookup f = some ⟨oc, od, .func (fnOf name qual params body scope dV kV doc pm an cdv ct), osl⟩) (hcd : codeIn (Mine.hd.heap_1 w.params) cdv qual = true) (hroom : A.depth < recursionLimit)
    (hbind : BindsTo s (fnOf name qual params body scope dV kV doc pm an cdv ct) args binds) (hloc : ∀ y ∈ binds, scope.names.lookup y.1 = some .local)
    (h : ∀ h₁ tk, Fr g s.heap.objs.size h₁ (fun y => binds.reverse.lookup y) → News g s.heap.objs.size h₁ led → Below A base outer g → (Mine.hd.heap_1 w.params).In g → Top Mine.hd.view_39 (looseW Mine.hd.view_39 [Str.ofString "_law_pieces"]) mean mg mb g → s.heap.objs.size ≤ s.heap.objs.size → (∀ p ∈ led, p.1 < s.heap.objs.size) →
      wpAny (model prg w) (A.deeper (envOf qual scope s.heap.objs.size f cdv)) (execs body (envOf qual scope s.heap.objs.size f cdv))
        (fun fl s' => R (.ok (.ret (match fl with | .ret v => v | _ => .none))) s')
        (fun e s' => wpAny (model prg w) (A.deeper (envOf qual scope s.heap.objs.size f cdv)) (leaving (envOf qual scope s.heap.objs.size f cdv) e) (fun _ s'' => R (.error e) s'') (fun e' s'' => R (.error e') s'') s')
        { s with heap := h₁, toks := tk })
    (hco : scope.isCoroutine = false) (hgen : scope.isGenerator = false) (hk : scope.kind = .function)
    (hcell : ∀ x ∈ scope.names, x.2 ≠ .cell) : codeAny (model prg w) A (.call (.ref f) args) R s := by
  refine codeAny_call_def (fd := fnOf name qual params body scope dV kV doc pm an cdv ct) (body := body) (binds := binds) hroom (H.k.keeps H.st _ _ ho) rfl (H.t.nolimit.keeps H.st) (codeRec_of (H.k.keeps H.st) hcd) rfl hbind hcell hloc (fun h₁ hns hk₁ => ?_) hco hgen hk
  exact h h₁ _ ⟨hns, fun b o e => hk₁ b o (H.st b o e), H.sz⟩ (fun p hp => ⟨hk₁ _ _ (H.led p hp).1, Nat.ne_of_lt (Heap.lt_size (H.led p hp).1), (H.led p hp).2⟩) H.b H.k H.t (Nat.le_refl _) (fun p hp => Heap.lt_size (H.led p hp).1)

theorem con_enter {A : Around} {outer : List Env} {base g : Heap} {led : List (Addr × Obj)} {s : Shared} {R : Result → Shared → Prop} {name qual : Str} {params : Arguments} {body : List Stmt} {scope : Scope} {dV kV doc pm cdv ct oc : Value} {an od : Option Addr} {osl : Array (Option Value)} {f : Addr} {args : Args} {binds : List (Str × Value)}
    (H : At w mean mg mb A outer base g led s)
    (ho : (Mine.hd.heap_1 w.params).lookup f = some ⟨oc, od, .func (fnOf name qual params body scope dV kV doc pm an cdv ct), osl⟩) (hcd : codeIn (Mine.hd.heap_1 w.params) cdv qual = true) (hroom : A.depth < recursionLimit)
    (hbind : BindsTo s (fnOf name qual params body scope dV kV doc pm an cdv ct) args binds) (hloc : ∀ y ∈ binds, scope.names.lookup y.1 = some .local)
    (h : ∀ L' h₁ tk, Fr g L' h₁ (fun y => binds.reverse.lookup y) → News g L' h₁ led → Below A base outer g → (Mine.hd.heap_1 w.params).In g → Top Mine.hd.view_39 (looseW Mine.hd.view_39 [Str.ofString "_law_pieces"]) mean mg mb g → s.heap.objs.size ≤ L' → (∀ p ∈ led, p.1 < L') →
      wpAny (model prg w) (A.deeper (envOf qual scope L' f cdv)) (execs body (envOf qual scope L' f cdv))
        (fun fl s' => R (.ok (.ret (match fl with | .ret v => v | _ => .none))) s')
        (fun e s' => wpAny (model prg w) (A.deeper (envOf qual scope L' f cdv)) (leaving (envOf qual scope L' f cdv) e) (fun _ s'' => R (.error e) s'') (fun e' s'' => R (.error e') s'') s')
        { s with heap := h₁, toks := tk })
    (hco : scope.isCoroutine = false) (hgen : scope.isGenerator = false) (hk : scope.kind = .function)
    (hcell : ∀ x ∈ scope.names, x.2 ≠ .cell) : codeAny (model prg w) A (.call (.ref f) args) R s :=
  con_enter0 H ho hcd hroom hbind hloc (fun h₁ tk F N B K T h1 h2 => h _ h₁ tk F N B K T h1 h2) hco hgen hk hcell

theorem done_of {g h' : Heap} {z L : Nat} {m : Str → Option Value} {news led' : List (Addr × Obj)} (F : Fr g L h' m) (N : News g L h' news) (hz : z ≤ L) (hl : ∀ p ∈ led', p ∈ news) : Done g z led' h' :=
  ⟨F.keep, Nat.lt_of_le_of_lt hz F.ns.lt, fun p hp => ⟨(N p (hl p hp)).1, (N p (hl p hp)).2.2⟩⟩


theorem con_ret {g : Heap} {h' : Heap} {L : Nat} {m : Str → Option Value} {led' : List (Addr × Obj)} {R : Nat → Value → List (Addr × Obj) → Prop} {Q : Value → Shared → Prop} {v : Value} {s : Shared} {tk : Nat} {ga dr os}
    (hret : Ret g s R Q) (F : Fr g L h' m) (N : News g L h' led') (hz : s.heap.objs.size ≤ L) (r : R s.heap.objs.size v led') (eg : ga = s.gens) (ed : dr = s.drawn) (eo : os = s.os) : Q v ⟨h', ga, dr, tk, os⟩ := by
  subst eg ed eo
  exact hret v led' h' tk (done_of F N hz fun _ h => h) r
end
end Mine

namespace Mine
/-- what holds behind a turn -/
noncomputable def WPost {σ : Type} (h₀ : Heap) (L : Addr) (s : Shared) (Led : σ → List (Addr × Obj)) (ps : σ → List (Str × Value)) (P : Nat → σ → Prop) (Q : Flow → Shared → Prop) (n : Nat) (f : Flow) (s₂ : Shared) : Prop :=
  match f with
  | .ret v => Q (.ret v) s₂
  | .brk => Q .next s₂
  | _ => ∃ (c' : σ) (n' : Nat) (h' : Heap) (tk : Nat) (m' : Str → Option Value) (news' : List (Addr × Obj)), s₂ = { s with heap := h', toks := tk } ∧ Fr h₀ L h' m' ∧ News h₀ L h' news' ∧ (∀ p ∈ Led c', p ∈ news') ∧ (∀ p ∈ ps c', m' p.1 = some p.2) ∧ P n' c' ∧ n' < n

theorem fc {α : Type} {P : α → Prop} {a : α} {l : List α} (h1 : P a) (h2 : ∀ p ∈ l, P p) : ∀ p ∈ a :: l, P p := List.forall_mem_cons.mpr ⟨h1, h2⟩
theorem fz {α : Type} {P : α → Prop} : ∀ p ∈ ([] : List α), P p := fun _ h => nomatch h
theorem fm4 {α : Type} {a b c d : α} {l : List α} (h1 : a ∈ l) (h2 : b ∈ l) (h3 : c ∈ l) (h4 : d ∈ l) : ∀ p ∈ [a, b, c, d], p ∈ l := by
  simp [h1, h2, h3, h4]
section
variable {prog : Program} {w : World} {A : Around} {E : Value → Shared → Prop} {Q : Flow → Shared → Prop} {s : Shared} {env : Env} {h₀ : Heap} {L : Addr}
theorem my_while {σ : Type} {test : Expr} {body : List Stmt} {pos : Pos} {m₀ : Str → Option Value} {news : List (Addr × Obj)} {n₀ : Nat}
    (Led : σ → List (Addr × Obj)) (ps : σ → List (Str × Value)) (P : Nat → σ → Prop) (c₀ : σ)
    (F : Fr h₀ L s.heap m₀) (N : News h₀ L s.heap news) (hl : ∀ p ∈ Led c₀, p ∈ news) (hk : ∀ p ∈ ps c₀, m₀ p.1 = some p.2) (hp : P n₀ c₀)
    (turn : ∀ (n : Nat) (c : σ) (u : Str → Option Value) h tk, P n c → Fr h₀ L h (kstB u (ps c)) → News h₀ L h (Led c) →
      wpAny (model prog w) A (isTrue test env (eval test env)) (fun b s₂ =>
        if b = true then wpAny (model prog w) A (execs body env) (WPost h₀ L s Led ps P Q n) E s₂ else Q .next s₂) E { s with heap := h, toks := tk })
    (hE : PassesOwn (model prog w) A env E) :
    wpAny (model prog w) A (exec (.While test body [] pos) env) Q E s := by
  refine While_inv2 (fun n m nx => ∃ c : σ, (∀ p ∈ Led c, p ∈ nx) ∧ (∀ p ∈ ps c, m p.1 = some p.2) ∧ P n c) F N ⟨c₀, hl, hk, hp⟩ ?_ hE
  rintro n m₁ nx h tk F₁ N₁ ⟨c, h1, h2, h3⟩
  have em : kstB m₁ (ps c) = m₁ := by
    funext y
    exact kstB_eq h2 fun _ => rfl
  refine wpAny_mono (turn n c m₁ h tk h3 (by rw [em]; exact F₁) (fun p hp => N₁ p (h1 p hp))) (fun b s₂ p => ?_) fun _ _ x => x
  cases b with
  | false => simpa using p
  | true =>
    simp only [if_true] at p ⊢
    refine wpAny_mono p (fun f s₃ q => ?_) fun _ _ x => x
    cases f with
    | ret v => exact q
    | brk => exact q
    | next =>
      obtain ⟨c', n', h', tk', m', news', rfl, F', N', a1, a2, a3, a4⟩ := q
      exact ⟨h', tk', m', news', n', rfl, F', N', a4, c', a1, a2, a3⟩
    | cont =>
      obtain ⟨c', n', h', tk', m', news', rfl, F', N', a1, a2, a3, a4⟩ := q
      exact ⟨h', tk', m', news', n', rfl, F', N', a4, c', a1, a2, a3⟩
theorem wpost_next {σ : Type} {s : Shared} {Led : σ → List (Addr × Obj)} {ps : σ → List (Str × Value)} {P : Nat → σ → Prop} {n n' : Nat} {m' : Str → Option Value} {news' : List (Addr × Obj)} {h' : Heap} {tk : Nat} {ga dr os}
    (c' : σ) (F : Fr h₀ L h' m') (N : News h₀ L h' news') (hl : ∀ p ∈ Led c', p ∈ news') (hk : ∀ p ∈ ps c', m' p.1 = some p.2) (hp : P n' c') (hn : n' < n) (eg : ga = s.gens) (ed : dr = s.drawn) (eo : os = s.os) :
    WPost h₀ L s Led ps P Q n .next ⟨h', ga, dr, tk, os⟩ := by
  subst eg ed eo
  exact ⟨c', n', h', tk, m', news', rfl, F, N, hl, hk, hp, hn⟩
theorem wpost_cont {σ : Type} {s : Shared} {Led : σ → List (Addr × Obj)} {ps : σ → List (Str × Value)} {P : Nat → σ → Prop} {n n' : Nat} {m' : Str → Option Value} {news' : List (Addr × Obj)} {h' : Heap} {tk : Nat} {ga dr os}
    (c' : σ) (F : Fr h₀ L h' m') (N : News h₀ L h' news') (hl : ∀ p ∈ Led c', p ∈ news') (hk : ∀ p ∈ ps c', m' p.1 = some p.2) (hp : P n' c') (hn : n' < n) (eg : ga = s.gens) (ed : dr = s.drawn) (eo : os = s.os) :
    WPost h₀ L s Led ps P Q n .cont ⟨h', ga, dr, tk, os⟩ := by
  subst eg ed eo
  exact ⟨c', n', h', tk, m', news', rfl, F, N, hl, hk, hp, hn⟩
end
end Mine
namespace Mine
noncomputable def Stop (P : Prop) : Prop := P
theorem stop_of {P : Prop} (h : Stop P) : P := h
theorem stop_out {P : Prop} (h : P) : Stop P := h
end Mine
namespace Mine
theorem if_join {M : Model} {A : Around} {env : Env} {st : Stmt} {rest : List Stmt} {Q : Flow → Shared → Prop} {E : Value → Shared → Prop} {h : Heap} {ga dr tk os} (C : Prop)
    (h1 : wpAny M A (exec st env) (fun f s' => match f with | .next => (∃ tk', s' = ⟨h, ga, dr, tk', os⟩) ∧ C | f => Q f s') E ⟨h, ga, dr, tk, os⟩)
    (h2 : ∀ tk', C → wpAny M A (execs rest env) Q E ⟨h, ga, dr, tk', os⟩) : wpAny M A (execs (st :: rest) env) Q E ⟨h, ga, dr, tk, os⟩ := by
  refine wpAny_execs_cons (wpAny_mono h1 (fun f s' q => ?_) fun _ _ e => e)
  cases f with
  | next => obtain ⟨⟨tk', rfl⟩, c⟩ := q; exact h2 tk' c
  | _ => exact q
end Mine

namespace Mine
section
variable {w : World} {mean : ExcName → Option Value} {mg mb : Str → Option Value}
/-- what the caller wants behind a call that may have caught: the frames' own slots may have turned -/
noncomputable def RetS (fs : List Addr) (g : Heap) (s : Shared) (R : Nat → Value → List (Addr × Obj) → Prop) (Q : Value → Shared → Prop) : Prop :=
  ∀ v led' h' tk g', KtsTurn fs g g' → Done g' s.heap.objs.size led' h' → R s.heap.objs.size v led' → Q v { s with heap := h', toks := tk }

noncomputable def ConS (w : World) (mean : ExcName → Option Value) (mg mb : Str → Option Value) (n : Nat) (f : Value) (args : List Value) (led : List (Addr × Obj)) (R : Nat → Value → List (Addr × Obj) → Prop) : Prop :=
  ∀ (outer : List Env) (base g : Heap) (s : Shared) (Q E : Value → Shared → Prop), At w mean mg mb (stA n outer) outer base g led s →
    (Mine.hd.heap_1 w.params).In base → Top Mine.hd.view_39 (looseW Mine.hd.view_39 [Str.ofString "_law_pieces"]) mean mg mb base → KtsDicts (outer.filterMap (·.frame)) g →
    RetS (outer.filterMap (·.frame)) g s R Q → wpAny (model prg w) (stA n outer) (call f args) Q E s

theorem ConS.use {n : Nat} {f : Value} {args : List Value} {led : List (Addr × Obj)} {R : Nat → Value → List (Addr × Obj) → Prop}
    {A₀ A : Around} {base h₀ : Heap} {env : Env} {L : Addr} {m : Str → Option Value} {news rest : List (Addr × Obj)} {s : Shared} {Q E : Value → Shared → Prop}
    (C : ConS w mean mg mb n f args led R)
    (B : Below A₀ base [] h₀) (F : Fr h₀ L s.heap m) (X : (Mine.hd.heap_1 w.params).In h₀) (N : News h₀ L s.heap news) (T : Top Mine.hd.view_39 (looseW Mine.hd.view_39 [Str.ofString "_law_pieces"]) mean mg mb h₀)
    (XB : (Mine.hd.heap_1 w.params).In base) (TB : Top Mine.hd.view_39 (looseW Mine.hd.view_39 [Str.ofString "_law_pieces"]) mean mg mb base)
    (hA : A.frames = some [env]) (hf : env.frame = some L) (hke : env.scope.kind = .function) (hd : A.depth ≤ n) (hu : A.units ≤ n) (hh : A.handled = none)
    (h1 : ∀ p ∈ led, p ∈ news) (h2 : ∀ p ∈ rest, p ∈ news) (h3 : ∀ p ∈ rest, ∀ q ∈ led, p.1 ≠ q.1)
    (ret : ∀ z v led' h' tk, (∀ p ∈ news, p.1 < z) → Fr h₀ L h' m → News h₀ L h' (led' ++ rest) → (∀ p ∈ rest, ∀ q ∈ led', p.1 ≠ q.1) → R z v led' → Q v { s with heap := h', toks := tk }) :
    wpAny (model prg w) A (call f args) Q E s := by
  have NL : News h₀ L s.heap led := fun p hp => N p (h1 p hp)
  obtain ⟨FG, BG, st, _⟩ := groundX (R := fun _ _ => True) B F NL hA hf hke
  obtain ⟨oL, es, ep, hL, hLd, hr⟩ := FG.ns
  have fsL : [env].filterMap (·.frame) = [L] := by simp [hf]
  have nL₀ : h₀.get? L = none := kts_self F
  have hk : ∀ p ∈ rest, (hideAll s.heap (led.map (·.1))).get? p.1 = some p.2 := fun p hp => hideAll_get _ (N p (h2 p hp)).1 fun q => by
    obtain ⟨r, hr, e⟩ := List.mem_map.mp q
    exact h3 p hp r hr e.symm
  refine wpAny_up (A' := stA n [env]) (C [env] base (hideAll s.heap (led.map (·.1))) s Q E ⟨⟨rfl, BG.stays, BG.frames⟩, X.keeps (fun b o e => st b o e), T.keeps (fun b o e => st b o e), fun b o e => of_hideAll _ e, Nat.le_of_eq (hideAll_size _ _), fun p hp => ⟨(NL p hp).1, hideAll_none _ (List.mem_map_of_mem hp)⟩⟩ XB TB ?_ ?_) hh hd hu (fun l e => hA.trans e) (fun l e => by cases e)
  · rw [fsL]
    intro b hb
    rw [List.mem_singleton.mp hb]
    exact ⟨oL, es, ep, hL, hLd⟩
  · rw [fsL]
    intro v led' h' tk g' T' D r
    obtain ⟨sl, hs⟩ := T'.up hL
    have ot : ∀ b o, (hideAll s.heap (led.map (·.1))).get? b = some o → b ≠ L → g'.get? b = some o := fun b o e ne => T'.other b o e fun q => ne (List.mem_singleton.mp q)
    refine ret s.heap.objs.size v led' h' tk (fun p hp => Heap.lt_size (N p hp).1) ⟨⟨_, es, ep, D.st _ _ hs, hLd, hr⟩, fun b o e => D.st b o (ot b o (st b o e) fun q => by rw [q, nL₀] at e; cases e), F.above⟩ (fun p hp => ?_) (fun p hp q hq e => ?_) r
    · rcases List.mem_append.mp hp with hp | hp
      · refine ⟨(D.led p hp).1, fun e => ?_, ?_⟩
        · have := (D.led p hp).2; rw [e, hs] at this; cases this
        · cases q : h₀.get? p.1 with
          | none => rfl
          | some o =>
            obtain ⟨sl', hs'⟩ := T'.up (st _ _ q)
            have := (D.led p hp).2; rw [hs'] at this; cases this
      · exact ⟨D.st _ _ (ot _ _ (hk p hp) (N p (h2 p hp)).2.1), (N p (h2 p hp)).2⟩
    · have := (D.led q hq).2; rw [← e, ot _ _ (hk p hp) (N p (h2 p hp)).2.1] at this; cases this

theorem con_retS {fs : List Addr} {g g' : Heap} {h' : Heap} {L : Nat} {m : Str → Option Value} {led' : List (Addr × Obj)} {R : Nat → Value → List (Addr × Obj) → Prop} {Q : Value → Shared → Prop} {v : Value} {s : Shared} {tk : Nat} {ga dr os}
    (hret : RetS fs g s R Q) (F : Fr g' L h' m) (N : News g' L h' led') (T : KtsTurn fs g g') (hz : s.heap.objs.size ≤ L) (r : R s.heap.objs.size v led') (eg : ga = s.gens) (ed : dr = s.drawn) (eo : os = s.os) : Q v ⟨h', ga, dr, tk, os⟩ := by
  subst eg ed eo
  exact hret v led' h' tk g' T (done_of F N hz fun _ h => h) r
end
end Mine
namespace Mine
theorem wpost_ret {σ : Type} {h₀ : Heap} {L : Addr} {s : Shared} {Led : σ → List (Addr × Obj)} {ps : σ → List (Str × Value)} {P : Nat → σ → Prop} {Q : Flow → Shared → Prop} {n : Nat} {v : Value} {s₂ : Shared} (h : Q (.ret v) s₂) : WPost h₀ L s Led ps P Q n (.ret v) s₂ := h
theorem wpost_brk {σ : Type} {h₀ : Heap} {L : Addr} {s : Shared} {Led : σ → List (Addr × Obj)} {ps : σ → List (Str × Value)} {P : Nat → σ → Prop} {Q : Flow → Shared → Prop} {n : Nat} {s₂ : Shared} (h : Q .next s₂) : WPost h₀ L s Led ps P Q n .brk s₂ := h
theorem strs1 {a : Str} {t : Tok} : StrsAre [.str a t] [a] := by repeat constructor
theorem strs7 {a b c d e f g : Str} {t1 t2 t3 t4 t5 t6 t7 : Tok} : StrsAre [.str a t1, .str b t2, .str c t3, .str d t4, .str e t5, .str f t6, .str g t7] [a, b, c, d, e, f, g] := by repeat constructor
end Mine

namespace Mine
section
variable {w : World} {mean : ExcName → Option Value} {mg mb : Str → Option Value}
/-- what the caller wants where the call raises -/
noncomputable def Exc (outer : List Env) (base g : Heap) (s : Shared) (X : Addr → Prop) (E : Value → Shared → Prop) : Prop :=
  ∀ C e t vs h' tk, X C → RaisedS base g outer e (.ref C) t vs [] h' → RaisedK base outer e (.ref C) t vs [] h' → g.UpToSlots h' → E (.ref e) { s with heap := h', toks := tk }

noncomputable def ConE (w : World) (mean : ExcName → Option Value) (mg mb : Str → Option Value) (n : Nat) (f : Value) (args : List Value) (led : List (Addr × Obj)) (R : Nat → Value → List (Addr × Obj) → Prop) (X : Addr → Prop) : Prop :=
  ∀ (outer : List Env) (base g : Heap) (s : Shared) (Q E : Value → Shared → Prop), At w mean mg mb (stA n outer) outer base g led s → KtsDicts (outer.filterMap (·.frame)) g →
    Ret g s R Q → Exc outer base g s X E → wpAny (model prg w) (stA n outer) (call f args) Q E s

theorem raisedS_nil {base G : Heap} {l : List Env} {e t : Addr} {cls : Value} {vs : List Value} {news : List (Addr × Obj)} {h : Heap} (R : RaisedS base G l e cls t vs news h) : RaisedS base G l e cls t vs [] h := by
  obtain ⟨⟨B, a, b, _, c, d⟩, f⟩ := R
  exact ⟨⟨B, a, b, fun _ h => (nomatch h), c, d⟩, f⟩
theorem exc_of {outer : List Env} {base g h' : Heap} {s : Shared} {X : Addr → Prop} {E : Value → Shared → Prop} {C e t : Addr} {vs : List Value} {news : List (Addr × Obj)} {ga dr tk os}
    (hx : Exc outer base g s X E) (R : RaisedS base g outer e (.ref C) t vs news h') (U : g.UpToSlots h') (c : X C) (eg : ga = s.gens) (ed : dr = s.drawn) (eo : os = s.os) : E (.ref e) ⟨h', ga, dr, tk, os⟩ := by
  subst eg ed eo
  exact hx C e t vs h' tk c (raisedS_nil R) (raisedS_nil R).toK U

theorem ConE.use {n : Nat} {f : Value} {args : List Value} {led : List (Addr × Obj)} {R : Nat → Value → List (Addr × Obj) → Prop} {Xc : Addr → Prop}
    {A₀ A : Around} {base h₀ : Heap} {outer : List Env} {env : Env} {L : Addr} {m : Str → Option Value} {news : List (Addr × Obj)} {s : Shared} {Q E : Value → Shared → Prop}
    (C : ConE w mean mg mb n f args led R Xc)
    (B : Below A₀ base outer h₀) (F : Fr h₀ L s.heap m) (X : (Mine.hd.heap_1 w.params).In h₀) (N : News h₀ L s.heap news) (T : Top Mine.hd.view_39 (looseW Mine.hd.view_39 [Str.ofString "_law_pieces"]) mean mg mb h₀)
    (D : KtsDicts (outer.filterMap (·.frame)) h₀)
    (hA : A.frames = some (env :: outer)) (hf : env.frame = some L) (hke : env.scope.kind = .function) (hd : A.depth ≤ n) (hu : A.units ≤ n) (hh : A.handled = none)
    (h1 : ∀ p ∈ led, p ∈ news)
    (ret : ∀ z v led' h' tk, (∀ p ∈ news, p.1 < z) → Fr h₀ L h' m → News h₀ L h' led' → R z v led' → Q v { s with heap := h', toks := tk })
    (exc : ∀ G c e t vs h' tk, Xc c → Fr h₀ L G m → RaisedS base G (env :: outer) e (.ref c) t vs [] h' → RaisedK base (env :: outer) e (.ref c) t vs [] h' → G.UpToSlots h' → E (.ref e) { s with heap := h', toks := tk }) :
    wpAny (model prg w) A (call f args) Q E s := by
  have NL : News h₀ L s.heap led := fun p hp => N p (h1 p hp)
  obtain ⟨FG, BG, st, _⟩ := groundX (R := fun _ _ => True) B F NL hA hf hke
  obtain ⟨oL, es, ep, hL, hLd, hr⟩ := FG.ns
  refine wpAny_up (A' := stA n (env :: outer)) (C (env :: outer) base (hideAll s.heap (led.map (·.1))) s Q E ⟨⟨rfl, BG.stays, BG.frames⟩, X.keeps (fun b o e => st b o e), T.keeps (fun b o e => st b o e), fun b o e => of_hideAll _ e, Nat.le_of_eq (hideAll_size _ _), fun p hp => ⟨(NL p hp).1, hideAll_none _ (List.mem_map_of_mem hp)⟩⟩ ?_ ?_ ?_) hh hd hu (fun l e => hA.trans e) (fun l e => by cases e)
  · intro b hb
    obtain ⟨ev, he, hf'⟩ := List.mem_filterMap.mp hb
    rcases List.mem_cons.mp he with rfl | he
    · rw [hf] at hf'
      cases hf'
      exact ⟨oL, es, ep, hL, hLd⟩
    · obtain ⟨o, es', n', ho', hd'⟩ := D b (List.mem_filterMap.mpr ⟨ev, he, hf'⟩)
      exact ⟨o, es', n', st b o ho', hd'⟩
  · intro v led' h' tk Dn r
    have stay : ∀ b o, (hideAll s.heap (led.map (·.1))).get? b = some o → h'.get? b = some o := Dn.st
    refine ret s.heap.objs.size v led' h' tk (fun p hp => Heap.lt_size (N p hp).1) ⟨⟨oL, es, ep, stay _ _ hL, hLd, hr⟩, fun b o e => stay b o (st b o e), FG.above⟩ (fun p hp => ?_) r
    refine ⟨(Dn.led p hp).1, fun e => ?_, ?_⟩
    · have := (Dn.led p hp).2; rw [e, hL] at this; cases this
    · cases q : h₀.get? p.1 with
      | none => rfl
      | some o => have := (Dn.led p hp).2; rw [st _ _ q] at this; cases this
  · intro c e t vs h' tk hX RS RK U
    exact exc _ c e t vs h' tk hX FG RS RK U
end
end Mine
namespace Mine
end Mine

namespace Mine
theorem bad_ex {α : Type} (hn : Nonempty α) (P : α → Prop) : ∃ c, P c → ∀ a, P a := by
  by_cases h : ∃ a, ¬ P a
  · obtain ⟨a, h⟩ := h
    exact ⟨a, fun x => absurd x h⟩
  · obtain ⟨c⟩ := hn
    exact ⟨c, fun _ a => Classical.byContradiction fun n => h ⟨a, n⟩⟩
/-- where P falls, if it falls anywhere -/
noncomputable def bad {α : Type} (hn : Nonempty α) (P : α → Prop) : α := Classical.choose (bad_ex hn P)
theorem bad_all {α : Type} {hn : Nonempty α} {P : α → Prop} (h : P (bad hn P)) : ∀ a, P a := Classical.choose_spec (bad_ex hn P) h
noncomputable def Con1 (w : World) (mean : ExcName → Option Value) (mg mb : Str → Option Value) (n : Nat) (f : Value) (args : List Value) (led : List (Addr × Obj)) (P : Heap → Prop) (R : Nat → Value → List (Addr × Obj) → Prop)
    (outer : List Env) (base g : Heap) (s : Shared) (Q E : Value → Shared → Prop) : Prop :=
  At w mean mg mb (stA n outer) outer base g led s → P g → Ret g s R Q → wpAny (model prg w) (stA n outer) (call f args) Q E s
noncomputable def ConE1 (w : World) (mean : ExcName → Option Value) (mg mb : Str → Option Value) (n : Nat) (f : Value) (args : List Value) (led : List (Addr × Obj)) (R : Nat → Value → List (Addr × Obj) → Prop) (X : Addr → Prop)
    (outer : List Env) (base g : Heap) (s : Shared) (Q E : Value → Shared → Prop) : Prop :=
  At w mean mg mb (stA n outer) outer base g led s → KtsDicts (outer.filterMap (·.frame)) g → Ret g s R Q → Exc outer base g s X E → wpAny (model prg w) (stA n outer) (call f args) Q E s
noncomputable def ConS1 (w : World) (mean : ExcName → Option Value) (mg mb : Str → Option Value) (n : Nat) (f : Value) (args : List Value) (led : List (Addr × Obj)) (R : Nat → Value → List (Addr × Obj) → Prop)
    (outer : List Env) (base g : Heap) (s : Shared) (Q E : Value → Shared → Prop) : Prop :=
  At w mean mg mb (stA n outer) outer base g led s → (Mine.hd.heap_1 w.params).In base → Top Mine.hd.view_39 (looseW Mine.hd.view_39 [Str.ofString "_law_pieces"]) mean mg mb base → KtsDicts (outer.filterMap (·.frame)) g →
    RetS (outer.filterMap (·.frame)) g s R Q → wpAny (model prg w) (stA n outer) (call f args) Q E s
end Mine
end

section
set_option genInjectivity false
set_option genSizeOf false
open PySem PySem.W PySem.Calls PyProof.Rows
namespace Mine
/-- behind a statement: K if it went on, Q else -/
inductive Fw (K : Shared → Prop) (Q : Flow → Shared → Prop) : Flow → Shared → Prop where
  | n {s : Shared} (h : K s) : Fw K Q .next s
  | r {v : Value} {s : Shared} (h : Q (.ret v) s) : Fw K Q (.ret v) s
  | b {s : Shared} (h : Q .brk s) : Fw K Q .brk s
  | c {s : Shared} (h : Q .cont s) : Fw K Q .cont s
theorem Fw.go {M : Model} {A : Around} {env : Env} {st : Stmt} {rest : List Stmt} {Q : Flow → Shared → Prop} {E : Value → Shared → Prop} {s : Shared} {C : Shared → Prop}
    (h1 : wpAny M A (exec st env) (Fw C Q) E s) (h2 : ∀ s', C s' → wpAny M A (execs rest env) Q E s') : wpAny M A (execs (st :: rest) env) Q E s := by
  refine wpAny_execs_cons (wpAny_mono h1 (fun f s' q => ?_) fun _ _ e => e)
  cases q with
  | n h => exact h2 s' h
  | r h => exact h
  | b h => exact h
  | c h => exact h
theorem if_joinX {M : Model} {A : Around} {env : Env} {st : Stmt} {rest : List Stmt} {Q : Flow → Shared → Prop} {E : Value → Shared → Prop} {s : Shared} (C : Shared → Prop)
    (h1 : wpAny M A (exec st env) (Fw C Q) E s)
    (h2 : ∀ s', C s' → wpAny M A (execs rest env) Q E s') : wpAny M A (execs (st :: rest) env) Q E s := Fw.go h1 h2
theorem stop_call (l : List Addr) {M : Model} {A : Around} {f : Addr} {x : List Value} {y : List (Str × Value)} {Q E : Value → Shared → Prop} {s : Shared} (hf : l.contains f = true) (h : Stop (wpAny M A (call (.ref f) x y) Q E s)) : wpAny M A (call (.ref f) x y) Q E s := h
/-- what stands behind the first test of get -/
noncomputable def GetC (g : Heap) (L : Addr) (s : Shared) (ps : List (Str × Value)) (led : List (Addr × Obj)) (s' : Shared) : Prop :=
  ∃ h' tk' u, s' = ⟨h', s.gens, s.drawn, tk', s.os⟩ ∧ Fr g L h' (kstB u ps) ∧ News g L h' led
theorem getC_of {g : Heap} {L : Addr} {s : Shared} {ps : List (Str × Value)} {led news : List (Addr × Obj)} {h' : Heap} {m : Str → Option Value} {tk : Nat} {ga dr os}
    (F : Fr g L h' m) (N : News g L h' news) (hl : ∀ p ∈ led, p ∈ news) (hk : ∀ p ∈ ps, m p.1 = some p.2) (eg : ga = s.gens) (ed : dr = s.drawn) (eo : os = s.os) : GetC g L s ps led ⟨h', ga, dr, tk, os⟩ := by
  subst eg ed eo
  have em : kstB m ps = m := by
    funext y
    exact kstB_eq hk fun _ => rfl
  exact ⟨h', tk, m, rfl, by rw [em]; exact F, cb_drop N hl⟩
theorem stop_att {M : Model} {A : Around} {env : Env} {Q : Flow → Shared → Prop} {E : Value → Shared → Prop} {s : Shared} {x : Expr} {a : Str} {p p2 : Pos} {b : List Stmt} {r : List Stmt} (h : Stop (wpAny M A (execs (.If (.Attribute x a p) b [] p2 :: r) env) Q E s)) : wpAny M A (execs (.If (.Attribute x a p) b [] p2 :: r) env) Q E s := h
theorem fold_goal {P : Prop} (h : (let G := P; G)) : P := h
theorem ec {M : Model} {A : Around} {env : Env} {st : Stmt} {rest : List Stmt} {gs : Array GenState} {dr : Drawn} {os : OsState} {Q : Flow → Shared → Prop} {E : Value → Shared → Prop} {h : Heap} {t : Nat}
    (hq : ∀ tk, wpAny M A (exec st env) (Fw (wpAny M A (execs rest env) Q E) Q) E ⟨h, gs, dr, tk, os⟩) : wpAny M A (execs (st :: rest) env) Q E ⟨h, gs, dr, t, os⟩ := Fw.go (hq t) fun _ h => h
theorem finK {K : Frag} {g h : Heap} {L : Addr} {m : Str → Option Value} (a : K.In g := by with_reducible assumption) (b : Fr g L h m := by k_asm) : K.In h := Frag.In.keeps a (Fr.keep b)
-- the walk's commonest rules, the state written out, what stays the same ahead of what changes
theorem kI {M : Model} {A : Around} {env : Env} {i : Int} {k : Nat} {pos : Pos} {gs : Array GenState} {dr : Drawn} {os : OsState} {Q E : Value → Shared → Prop} {h : Heap} {t : Nat} (q : Q (.int i t) ⟨h, gs, dr, t + 1, os⟩) : wpAny M A (eval (.Constant (.int i) k pos) env) Q E ⟨h, gs, dr, t, os⟩ := wpAny_Constant_int q
theorem kS {M : Model} {A : Around} {env : Env} {x : Str} {k : Nat} {pos : Pos} {gs : Array GenState} {dr : Drawn} {os : OsState} {Q E : Value → Shared → Prop} {h : Heap} {t : Nat} (q : Q (.str x t) ⟨h, gs, dr, t + 1, os⟩) : wpAny M A (eval (.Constant (.str x) k pos) env) Q E ⟨h, gs, dr, t, os⟩ := Constant_str q
end Mine
end

local macro_rules | `(tactic| walk_at "execs cons") => `(tactic| (refine Mine.ec ?_; intro; (try dsimp only)))
local macro_rules | `(tactic| walk_at "eval Constant int") => `(tactic| refine Mine.kI ?_)
local macro_rules | `(tactic| walk_at "eval Constant str") => `(tactic| refine Mine.kS ?_)
local macro_rules | `(tactic| walk_at "WPost") => `(tactic| first | (refine Mine.wpost_ret ?_; try dsimp only) | (refine Mine.wpost_brk ?_; try dsimp only))
local macro_rules | `(tactic| k_in) => `(tactic| exact Mine.finK)
local macro_rules | `(tactic| k_steps) => `(tactic| repeat' (first | (with_reducible show Mine.Fw _ _ _ _; constructor) | (k_unfold; (try dsimp only)) | (k_end; wrow_close) | walk1 | (dsimp only; walk1) | (leave1; (try dsimp only)) | fail "no step"))
local macro_rules | `(tactic| walk_at $k) => if ["exec While", "exec While Compare cons nil", "exec While Compare"].contains k.getString then `(tactic| refine Mine.stop_of ?_) else Lean.Macro.throwUnsupported

section
open PySem PySem.W PySem.Calls PyProof.Rows
set_option genInjectivity false
set_option genSizeOf false
namespace Mine
theorem codeAny_up {M : Model} {A A' : Around} {c : Code} {R : Result → Shared → Prop} {s : Shared} (h : codeAny M A' c R s)
    (h1 : A.handled = A'.handled) (h2 : A.depth ≤ A'.depth) (h3 : A.units ≤ A'.units) (h4 : ∀ l, A'.frames = some l → A.frames = some l) (h5 : ∀ l, A'.guards = some l → A.guards = some l) :
    codeAny M A c R s := fun Γ p e hΓ =>
  h Γ p e ⟨hΓ.1.trans h1, Nat.le_trans hΓ.2.1 h2, fun l e => hΓ.2.2.1 l (h4 l e), fun l e => hΓ.2.2.2.1 l (h5 l e), Nat.le_trans hΓ.2.2.2.2 h3⟩
section
variable {w : World} {mean : ExcName → Option Value} {mg mb : Str → Option Value}
/-- a contract of a call that stands as code (an __init__) -/
noncomputable def ConC (w : World) (mean : ExcName → Option Value) (mg mb : Str → Option Value) (n : Nat) (f : Value) (args : Args) (led : List (Addr × Obj)) (R : Nat → Value → List (Addr × Obj) → Prop) : Prop :=
  ∀ (outer : List Env) (base g : Heap) (s : Shared) (Rr : Result → Shared → Prop), At w mean mg mb (stA n outer) outer base g led s →
    Ret g s R (fun v s' => Rr (.ok (.ret v)) s') → codeAny (model prg w) (stA n outer) (.call f args) Rr s
theorem ConC.use {n : Nat} {f : Value} {args : Args} {led : List (Addr × Obj)} {R : Nat → Value → List (Addr × Obj) → Prop}
    {A₀ A : Around} {base h₀ : Heap} {outer : List Env} {env : Env} {L : Addr} {m : Str → Option Value} {news rest : List (Addr × Obj)} {s : Shared} {Rr : Result → Shared → Prop}
    (C : ConC w mean mg mb n f args led R)
    (B : Below A₀ base outer h₀) (F : Fr h₀ L s.heap m) (X : (Mine.hd.heap_1 w.params).In h₀) (N : News h₀ L s.heap news) (T : Top Mine.hd.view_39 (looseW Mine.hd.view_39 [Str.ofString "_law_pieces"]) mean mg mb h₀)
    (hA : A.frames = some (env :: outer)) (hf : env.frame = some L) (hke : env.scope.kind = .function) (hd : A.depth ≤ n) (hu : A.units ≤ n) (hh : A.handled = none)
    (h1 : ∀ p ∈ led, p ∈ news) (h2 : ∀ p ∈ rest, p ∈ news) (h3 : ∀ p ∈ rest, ∀ q ∈ led, p.1 ≠ q.1)
    (ret : ∀ z v led' h' tk, (∀ p ∈ news, p.1 < z) → Fr h₀ L h' m → News h₀ L h' (led' ++ rest) → (∀ p ∈ rest, ∀ q ∈ led', p.1 ≠ q.1) → R z v led' → Rr (.ok (.ret v)) { s with heap := h', toks := tk }) :
    codeAny (model prg w) A (.call f args) Rr s := by
  have NL : News h₀ L s.heap led := fun p hp => N p (h1 p hp)
  obtain ⟨FG, BG, st, _⟩ := groundX (R := fun _ _ => True) B F NL hA hf hke
  refine codeAny_up (A' := stA n (env :: outer)) (C (env :: outer) base (hideAll s.heap (led.map (·.1))) s Rr ⟨⟨rfl, BG.stays, BG.frames⟩, X.keeps (fun b o e => st b o e), T.keeps (fun b o e => st b o e), fun b o e => of_hideAll _ e, Nat.le_of_eq (hideAll_size _ _), fun p hp => ⟨(NL p hp).1, hideAll_none _ (List.mem_map_of_mem hp)⟩⟩ ?_) hh hd hu (fun l e => hA.trans e) (fun l e => by cases e)
  intro v led' h' tk D r
  have stay : ∀ b o, (hideAll s.heap (led.map (·.1))).get? b = some o → h'.get? b = some o := D.st
  have hk : ∀ p ∈ rest, (hideAll s.heap (led.map (·.1))).get? p.1 = some p.2 := fun p hp => hideAll_get _ (N p (h2 p hp)).1 fun q => by
    obtain ⟨r, hr, e⟩ := List.mem_map.mp q
    exact h3 p hp r hr e.symm
  obtain ⟨oL, es, ep, hL, hr⟩ := FG.ns
  refine ret s.heap.objs.size v led' h' tk (fun p hp => Heap.lt_size (N p hp).1) ⟨⟨oL, es, ep, stay _ _ hL, hr⟩, fun b o e => stay b o (st b o e), FG.above⟩ (fun p hp => ?_) (fun p hp q hq e => ?_) r
  · rcases List.mem_append.mp hp with hp | hp
    · refine ⟨(D.led p hp).1, fun e => ?_, ?_⟩
      · have := (D.led p hp).2; rw [e, hL] at this; cases this
      · cases q : h₀.get? p.1 with
        | none => rfl
        | some o => have := (D.led p hp).2; rw [st _ _ q] at this; cases this
    · exact ⟨stay _ _ (hk p hp), (N p (h2 p hp)).2⟩
  · have := (D.led q hq).2; rw [← e, hk p hp] at this; cases this
end
noncomputable def ConC1 (w : World) (mean : ExcName → Option Value) (mg mb : Str → Option Value) (n : Nat) (f : Value) (args : Args) (led : List (Addr × Obj)) (R : Nat → Value → List (Addr × Obj) → Prop)
    (outer : List Env) (base g : Heap) (s : Shared) (Rr : Result → Shared → Prop) : Prop :=
  At w mean mg mb (stA n outer) outer base g led s → Ret g s R (fun v s' => Rr (.ok (.ret v)) s') → codeAny (model prg w) (stA n outer) (.call f args) Rr s
end Mine
end

section
open PySem PySem.W PySem.Calls PyProof.Rows
set_option genInjectivity false
set_option genSizeOf false
namespace Mine
noncomputable def cmpS (tp : Addr → Option (List Str)) (op : CmpOp) (x : Str) (b : Value) : Option Bool := match b with
  | .str y _ => match op with
    | .Eq => some (x == y)
    | .NotEq => some (x != y)
    | _ => none
  | .none => match op with
    | .Is => some false
    | .IsNot => some true
    | _ => none
  | .ref t => match op with
    | .In => match tp t with
      | some ys => some (ys.any (· == x))
      | none => none
    | _ => none
  | _ => none
noncomputable def cmpI (op : CmpOp) (x : Int) (b : Value) : Option Bool := match b with
  | .int y _ => match op with
    | .Eq => some (x == y)
    | .NotEq => some (x != y)
    | .Lt => some (decide (x < y))
    | .Gt => some (decide (y < x))
    | .LtE => some (decide (x ≤ y))
    | .GtE => some (decide (y ≤ x))
    | _ => none
  | _ => none
noncomputable def cmpN (op : CmpOp) (n : Bool) (b : Value) : Option Bool := match b with
  | .none => match op with
    | .Is => some n
    | .IsNot => some (!n)
    | _ => none
  | _ => none
/-- the outcome of a comparison of plain values -/
noncomputable def cmpV (tp : Addr → Option (List Str)) (op : CmpOp) (a b : Value) : Option Bool := match a with
  | .str x _ => cmpS tp op x b
  | .int x _ => cmpI op x b
  | .none => cmpN op true b
  | .ref _ => cmpN op false b
  | _ => none
noncomputable def truV (v : Value) : Option Bool := match v with
  | .bool b => some b
  | .int a _ => some (a != 0)
  | _ => none
/-- what an expression is, as far as the evaluator looks -/
inductive EV where
  | name (x : Str) (p : Pos)
  | con (c : Const) (k : Nat) (p : Pos)
  | attr (x : Expr) (a : Str) (p : Pos)
  | cmp (l : Expr) (ops : List CmpOp) (rs : List Expr) (p : Pos)
  | bool (op : BoolOp) (vs : List Expr) (p : Pos)
  | un (op : UnaryOp) (x : Expr) (p : Pos)
  | other
noncomputable def view (e : Expr) : EV := match e with
  | .Name x p => .name x p
  | .Constant c k p => .con c k p
  | .Attribute x a p => .attr x a p
  | .Compare l ops rs p => .cmp l ops rs p
  | .BoolOp op vs p => .bool op vs p
  | .UnaryOp op x p => .un op x p
  | _ => .other
noncomputable def unview (v : EV) : Option Expr := match v with
  | .name x p => some (.Name x p)
  | .con c k p => some (.Constant c k p)
  | .attr x a p => some (.Attribute x a p)
  | .cmp l ops rs p => some (.Compare l ops rs p)
  | .bool op vs p => some (.BoolOp op vs p)
  | .un op x p => some (.UnaryOp op x p)
  | .other => none
theorem view_ok (e : Expr) : view e = .other ∨ unview (view e) = some e := by
  cases e <;> first | exact .inr rfl | exact .inl rfl
theorem view_eq {e e' : Expr} {v : EV} (h : view e = v) (hu : unview v = some e') : e = e' := by
  subst h
  rcases view_ok e with q | q
  · rw [q] at hu; cases hu
  · rw [q] at hu; exact Option.some.inj hu
noncomputable def conV (c : Const) (tk : Nat) : Option (Value × Nat) := match c with
  | .str x => some (.str x tk, tk + 1)
  | .int x => some (.int x tk, tk + 1)
  | .none => some (.none, tk)
  | .bool b => some (.bool b, tk)
  | _ => none
noncomputable def namV (kd : Str → Option NameKind) (m G : Str → Option Value) (x : Str) : Option Value := match x == ("__debug__" : Str) with
  | true => none
  | false => match kd x with
    | some k => match k with
      | .local => m x
      | .globalImplicit => G x
      | _ => none
    | none => none
noncomputable def optT (v : Option Value) (t : Nat) : Option (Value × Nat) := match v with
  | some v => some (v, t)
  | none => none
noncomputable def cmpT (tp : Addr → Option (List Str)) (op : CmpOp) (a : Option (Value × Nat)) (b : Nat → Option (Value × Nat)) : Option (Value × Nat) := match a with
  | some p => match b p.2 with
    | some p2 => match cmpV tp op p.1 p2.1 with
      | some c => some (.bool c, p2.2)
      | none => none
    | none => none
  | none => none
theorem cmpT_some {tp : Addr → Option (List Str)} {op : CmpOp} {a : Option (Value × Nat)} {b : Nat → Option (Value × Nat)} {v : Value × Nat} (h : cmpT tp op a b = some v) : ∃ p p2 c, a = some p ∧ b p.2 = some p2 ∧ cmpV tp op p.1 p2.1 = some c ∧ v = (.bool c, p2.2) := by
  unfold cmpT at h
  cases a with
  | none => cases h
  | some p =>
    dsimp only at h
    cases hb : b p.2 with
    | none => rw [hb] at h; cases h
    | some p2 =>
      rw [hb] at h
      dsimp only at h
      cases hc : cmpV tp op p.1 p2.1 with
      | none => rw [hc] at h; cases h
      | some c => rw [hc] at h; cases h; exact ⟨p, p2, c, rfl, hb, hc, rfl⟩
noncomputable def notT (p : Option (Bool × Nat)) : Option (Bool × Nat) := match p with
  | some p => some (!p.1, p.2)
  | none => none
section
variable (kd : Str → Option NameKind) (m G : Str → Option Value) (at_ : Str → Str → Option Value) (tp : Addr → Option (List Str))
/-- the value of a pure expression -/
noncomputable def evB (ev : Expr → Nat → Option (Value × Nat)) (e : EV) (tk : Nat) : Option (Value × Nat) := match e with
  | .name x _ => optT (namV kd m G x) tk
  | .con c _ _ => conV c tk
  | .attr y a _ => match view y with
    | .name n _ => optT (at_ n a) (tk + 1)
    | _ => none
  | .cmp l ops rs _ => match ops with
    | [op] => match rs with
      | [r] => cmpT tp op (ev l tk) (ev r)
      | _ => none
    | _ => none
  | _ => none
noncomputable def evV : Nat → Expr → Nat → Option (Value × Nat)
  | 0, _, _ => none
  | f + 1, e, tk => evB kd m G at_ tp (evV f) (view e) tk
noncomputable def andV (t : Expr → Nat → Option (Bool × Nat)) : List Expr → Nat → Option (Bool × Nat)
  | [], _ => none
  | x :: r, tk => match t x tk with
    | some p => match p with
      | (b, t1) => match r with
        | [] => some (b, t1)
        | _ :: _ => match andV t r t1 with
          | some p2 => match p2 with
            | (c, t2) => some (b && c, cond b t2 t1)
          | none => none
    | none => none
noncomputable def orV (t : Expr → Nat → Option (Bool × Nat)) : List Expr → Nat → Option (Bool × Nat)
  | [], _ => none
  | x :: r, tk => match t x tk with
    | some p => match p with
      | (b, t1) => match r with
        | [] => some (b, t1)
        | _ :: _ => match orV t r t1 with
          | some p2 => match p2 with
            | (c, t2) => some (b || c, cond b t1 t2)
          | none => none
    | none => none
noncomputable def plainT (p : Option (Value × Nat)) : Option (Bool × Nat) := match p with
  | some p => match p with
    | (v, t) => match truV v with
      | some b => some (b, t)
      | none => none
  | none => none
/-- the outcome of a pure test -/
noncomputable def tstB (ts : Expr → Nat → Option (Bool × Nat)) (pl : Option (Bool × Nat)) (e : EV) (tk : Nat) : Option (Bool × Nat) := match e with
  | .bool op vs _ => match op with
    | .And => andV ts vs tk
    | .Or => orV ts vs tk
  | .un op x _ => match op with
    | .Not => notT (ts x tk)
    | _ => none
  | .name _ _ => pl
  | .attr _ _ _ => pl
  | .cmp _ _ _ _ => pl
  | _ => none
noncomputable def tstV : Nat → Expr → Nat → Option (Bool × Nat)
  | 0, _, _ => none
  | f + 1, e, tk => tstB (tstV f) (plainT (evV kd m G at_ tp (f + 1) e tk)) (view e) tk
end

structure EvOk (w : World) (A : Around) (env : Env) (h : Heap) (m G : Str → Option Value) (at_ : Str → Str → Option Value) (tp : Addr → Option (List Str)) : Prop where
  nam : ∀ x v, namV env.kindOf m G x = some v → ∀ {pos Q E s}, s.heap = h → Q v s → wpAny (model prg w) A (eval (.Name x pos) env) Q E s
  att : ∀ n a v, at_ n a = some v → ∀ {np pos Q E s}, s.heap = h → Q v { s with toks := s.toks + 1 } → wpAny (model prg w) A (eval (.Attribute (.Name n np) a pos) env) Q E s
  tup : ∀ t ys, tp t = some ys → ∃ items, IsTup h t items ∧ StrsAre items.toList ys

section
variable {w : World} {A : Around} {env : Env} {h : Heap} {m G : Str → Option Value} {at_ : Str → Str → Option Value} {tp : Addr → Option (List Str)}
theorem cmpV_ok (O : EvOk w A env h m G at_ tp) {op : CmpOp} {a b : Value} {c : Bool} {Q : Value → Shared → Prop} {E : Value → Shared → Prop} {s : Shared} (hs : s.heap = h) (hc : cmpV tp op a b = some c) (q : Q (.bool c) s) : wpAny (model prg w) A (compareOp op a b) Q E s := by
  cases a with
  | str x t =>
    replace hc : cmpS tp op x b = some c := hc
    cases b with
    | str y t2 => cases op <;> first | (cases hc; done) | (cases hc; first | with_reducible exact eq_str q | with_reducible exact ne_str q)
    | none => cases op <;> first | (cases hc; done) | (cases hc; first | ((with_reducible refine is_none ?_); exact q) | ((with_reducible refine isNot_none ?_); exact q))
    | ref t2 =>
      cases op with
      | In =>
        replace hc : (match tp t2 with | some ys => some (ys.any (· == x)) | none => none) = some c := hc
        cases hy : tp t2 with
        | none => rw [hy] at hc; cases hc
        | some ys =>
          rw [hy] at hc
          cases hc
          obtain ⟨items, h1, h2⟩ := O.tup _ _ hy
          exact in_tuple_strs (hs ▸ h1) h2 q
      | _ => cases hc
    | _ => cases hc
  | int x t =>
    cases b with
    | int y t2 => cases op <;> first | (cases hc; done) | (cases hc; first | with_reducible exact eq_int q | with_reducible exact ne_int q | with_reducible exact lt_int q | with_reducible exact gt_int q | with_reducible exact le_int q | with_reducible exact ge_int q)
    | _ => cases hc
  | none =>
    cases b with
    | none => cases op <;> first | (cases hc; done) | (cases hc; first | ((with_reducible refine is_none ?_); exact q) | ((with_reducible refine isNot_none ?_); exact q))
    | _ => cases hc
  | ref t =>
    cases b with
    | none => cases op <;> first | (cases hc; done) | (cases hc; first | ((with_reducible refine is_none ?_); exact q) | ((with_reducible refine isNot_none ?_); exact q))
    | _ => cases hc
  | _ => cases hc
theorem truV_ok {v : Value} {c : Bool} {Q : Bool → Shared → Prop} {E : Value → Shared → Prop} {s : Shared} (hc : truV v = some c) (q : Q c s) : wpAny (model prg w) A (truthy v) Q E s := by
  cases v with
  | bool b => cases hc; exact wpAny_truthy_bool q
  | int a t => cases hc; exact truthy_int q
  | _ => cases hc
theorem ev_marks {kd f op r tk v} (h : evV kd m G at_ tp f r tk = some v) : behindInMarks op r = false := by
  cases f with
  | zero => cases h
  | succ f => cases r <;> first | rfl | cases h
theorem evV_cmp {kd : Str → Option NameKind} {f tk : Nat} {l : Expr} {ops : List CmpOp} {rs : List Expr} {p : Pos} {a : Value × Nat} (ha : evV kd m G at_ tp (f + 1) (.Compare l ops rs p) tk = some a) :
    ∃ op r x y c, ops = [op] ∧ rs = [r] ∧ evV kd m G at_ tp f l tk = some x ∧ evV kd m G at_ tp f r x.2 = some y ∧ cmpV tp op x.1 y.1 = some c ∧ a = (.bool c, y.2) := by
  cases ops with
  | nil => cases ha
  | cons op o2 =>
    cases o2 with
    | cons _ _ => cases ha
    | nil =>
      cases rs with
      | nil => cases ha
      | cons r r2 =>
        cases r2 with
        | cons _ _ => cases ha
        | nil =>
          obtain ⟨x, y, c, h1, h2, h3, h4⟩ := cmpT_some ha
          exact ⟨op, r, x, y, c, rfl, rfl, h1, h2, h3, h4⟩
theorem evV_ok (O : EvOk w A env h m G at_ tp) : ∀ (f : Nat) (e : Expr) (tk : Nat) (v : Value × Nat), evV env.kindOf m G at_ tp f e tk = some v →
    ∀ {Q : Value → Shared → Prop} {E : Value → Shared → Prop} {g : Array GenState} {d : Drawn} {o : OsState}, Q v.1 ⟨h, g, d, v.2, o⟩ → wpAny (model prg w) A (eval e env) Q E ⟨h, g, d, tk, o⟩
  | 0, _, _, _, he, _, _, _, _, _, _ => by cases he
  | f + 1, e, tk, v, he, Q, E, g, d, o, q => by
    cases hv : view e with
    | name x p =>
      obtain rfl := view_eq hv rfl
      clear hv
      replace he : optT (namV env.kindOf m G x) tk = some v := he
      cases hn : namV env.kindOf m G x with
      | none => rw [hn] at he; cases he
      | some v' => rw [hn] at he; cases he; exact O.nam x _ hn rfl q
    | con c k p =>
      obtain rfl := view_eq hv rfl
      clear hv
      replace he : conV c tk = some v := he
      cases c <;> first
        | (cases he; done)
        | (cases he; first | exact wpAny_Constant_str q | exact wpAny_Constant_int q | exact wpAny_Constant_none q | exact wpAny_Constant_bool q)
    | attr y a p =>
      obtain rfl := view_eq hv rfl
      clear hv
      cases hy : view y with
      | name n p2 =>
        obtain rfl := view_eq hy rfl
        clear hy
        replace he : optT (at_ n a) (tk + 1) = some v := he
        cases hn : at_ n a with
        | none => rw [hn] at he; cases he
        | some v' => rw [hn] at he; cases he; exact O.att _ _ _ hn rfl q
      | _ =>
        replace he : (match view y with | .name n _ => optT (at_ n a) (tk + 1) | _ => none) = some v := he
        rw [hy] at he
        cases he
    | cmp l ops rs p =>
      obtain rfl := view_eq hv rfl
      clear hv
      obtain ⟨op, r, x, y, c, rfl, rfl, h1, h2, h3, rfl⟩ := evV_cmp he
      exact wpAny_Compare1 (evV_ok O f _ _ _ h1 (evV_ok O f _ _ _ h2 (cmpV_ok O rfl h3 q))) (ev_marks h2)
    | bool op vs p => obtain rfl := view_eq hv rfl; cases he
    | un op x p => obtain rfl := view_eq hv rfl; cases he
    | other =>
      replace he : evB env.kindOf m G at_ tp (evV env.kindOf m G at_ tp f) (view e) tk = some v := he
      rw [hv] at he
      cases he
theorem andV_ok {t : Expr → Nat → Option (Bool × Nat)} (ht : ∀ e tk v, t e tk = some v → ∀ {Q : Bool → Shared → Prop} {E : Value → Shared → Prop} {g : Array GenState} {d : Drawn} {o : OsState}, Q v.1 ⟨h, g, d, v.2, o⟩ → wpAny (model prg w) A (isTrue e env (eval e env)) Q E ⟨h, g, d, tk, o⟩)
    (vs : List Expr) (tk : Nat) (v : Bool × Nat) (he : andV t vs tk = some v) {Q : Bool → Shared → Prop} {E : Value → Shared → Prop} {g : Array GenState} {d : Drawn} {o : OsState} (q : Q v.1 ⟨h, g, d, v.2, o⟩) : wpAny (model prg w) A (allTrue .And vs env) Q E ⟨h, g, d, tk, o⟩ := by
  induction vs generalizing tk v with
  | nil => cases he
  | cons x r ih =>
    unfold andV at he
    split at he
    · rename_i b hb
      obtain ⟨b, t2⟩ := b
      refine wpAny_allTrue_And_cons (ht _ _ _ hb ?_)
      dsimp only at he
      split at he
      · cases he
        cases b with
        | true => exact wpAny_allTrue_And_nil q
        | false => exact q
      · split at he
        · rename_i c hc
          obtain ⟨c, t3⟩ := c
          cases he
          cases b with
          | true => exact ih _ _ hc q
          | false => exact q
        · cases he
    · cases he
theorem orV_ok {t : Expr → Nat → Option (Bool × Nat)} (ht : ∀ e tk v, t e tk = some v → ∀ {Q : Bool → Shared → Prop} {E : Value → Shared → Prop} {g : Array GenState} {d : Drawn} {o : OsState}, Q v.1 ⟨h, g, d, v.2, o⟩ → wpAny (model prg w) A (isTrue e env (eval e env)) Q E ⟨h, g, d, tk, o⟩)
    (vs : List Expr) (tk : Nat) (v : Bool × Nat) (he : orV t vs tk = some v) {Q : Bool → Shared → Prop} {E : Value → Shared → Prop} {g : Array GenState} {d : Drawn} {o : OsState} (q : Q v.1 ⟨h, g, d, v.2, o⟩) : wpAny (model prg w) A (allTrue .Or vs env) Q E ⟨h, g, d, tk, o⟩ := by
  induction vs generalizing tk v with
  | nil => cases he
  | cons x r ih =>
    unfold orV at he
    split at he
    · rename_i b hb
      obtain ⟨b, t2⟩ := b
      refine wpAny_allTrue_Or_cons (ht _ _ _ hb ?_)
      dsimp only at he
      split at he
      · cases he
        cases b with
        | true => exact q
        | false => exact wpAny_allTrue_Or_nil q
      · split at he
        · rename_i c hc
          obtain ⟨c, t3⟩ := c
          cases he
          cases b with
          | true => exact q
          | false => exact ih _ _ hc q
        · cases he
    · cases he
theorem tst_plain (O : EvOk w A env h m G at_ tp) {f : Nat} {e : Expr} {tk : Nat} {v : Bool × Nat} (he : plainT (evV env.kindOf m G at_ tp (f + 1) e tk) = some v) {Q : Bool → Shared → Prop} {E : Value → Shared → Prop} {g : Array GenState} {d : Drawn} {o : OsState} (q : Q v.1 ⟨h, g, d, v.2, o⟩) : wpAny (model prg w) A (eval e env) (fun v s₁ => wpAny (model prg w) A (truthy v) Q E s₁) E ⟨h, g, d, tk, o⟩ := by
  unfold plainT at he
  split at he
  · rename_i a ha
    obtain ⟨a, t⟩ := a
    dsimp only at he
    split at he
    · rename_i b hb
      cases he
      exact evV_ok O _ _ _ _ ha (truV_ok hb q)
    · cases he
  · cases he
theorem tstV_ok (O : EvOk w A env h m G at_ tp) : ∀ (f : Nat) (e : Expr) (tk : Nat) (v : Bool × Nat), tstV env.kindOf m G at_ tp f e tk = some v →
    ∀ {Q : Bool → Shared → Prop} {E : Value → Shared → Prop} {g : Array GenState} {d : Drawn} {o : OsState}, Q v.1 ⟨h, g, d, v.2, o⟩ → wpAny (model prg w) A (isTrue e env (eval e env)) Q E ⟨h, g, d, tk, o⟩
  | 0, _, _, _, he, _, _, _, _, _, _ => by cases he
  | f + 1, e, tk, v, he, Q, E, g, d, o, q => by
    cases hv : view e with
    | bool op vs p =>
      obtain rfl := view_eq hv rfl
      refine wpAny_isTrue_BoolOp ?_
      cases op with
      | And => exact andV_ok (tstV_ok O f) _ _ _ he q
      | Or => exact orV_ok (tstV_ok O f) _ _ _ he q
    | un op x p =>
      obtain rfl := view_eq hv rfl
      clear hv
      cases op with
      | Not =>
        replace he : notT (tstV env.kindOf m G at_ tp f x tk) = some v := he
        cases hb : tstV env.kindOf m G at_ tp f x tk with
        | none => rw [hb] at he; cases he
        | some b => rw [hb] at he; cases he; exact wpAny_isTrue_Not (tstV_ok O f _ _ _ hb q)
      | _ => cases he
    | cmp l ops rs p =>
      obtain rfl := view_eq hv rfl
      clear hv
      replace he : plainT (evV env.kindOf m G at_ tp (f + 1) (.Compare l ops rs p) tk) = some v := he
      cases ha : evV env.kindOf m G at_ tp (f + 1) (.Compare l ops rs p) tk with
      | none => rw [ha] at he; cases he
      | some a =>
        rw [ha] at he
        obtain ⟨op, r, x, y, c, rfl, rfl, h1, h2, h3, rfl⟩ := evV_cmp ha
        cases he
        exact wpAny_isTrue_Compare1 (evV_ok O f _ _ _ h1 (evV_ok O f _ _ _ h2 (cmpV_ok O rfl h3 (wpAny_truthy_bool q)))) (ev_marks h2)
    | name x p =>
      obtain rfl := view_eq hv rfl
      exact isTrue_plain (tst_plain O he q) rfl
    | attr y a p =>
      obtain rfl := view_eq hv rfl
      exact isTrue_plain (tst_plain O he q) rfl
    | con c k p => obtain rfl := view_eq hv rfl; cases he
    | other =>
      replace he : tstB (tstV env.kindOf m G at_ tp f) (plainT (evV env.kindOf m G at_ tp (f + 1) e tk)) (view e) tk = some v := he
      rw [hv] at he
      cases he
end
end Mine
end

section
open PySem PySem.W PySem.Calls PyProof.Rows
set_option genInjectivity false
set_option genSizeOf false
namespace Mine
set_option maxHeartbeats 8000000 in
theorem fillS : PySem.Challenge.rw_jf0021_01 = PySem.Challenge.rw_jf0021_01 ∧ Mine.hd.heap_1 = Mine.hd.heap_1 := by
  k_fill
  exact ⟨rfl, rfl⟩
/-- the globals that the tests read -/
noncomputable def GlOk (w : World) (gl : List (Str × Value)) : Prop := ∀ x v, gl.lookup x = some v → nsIn (Mine.hd.heap_1 w.params) mainGlobals x = some (some v)
noncomputable def ClOk (w : World) (C : Addr) (ns : List Str) : Prop := plainGet (Mine.hd.heap_1 w.params) C (Str.ofString "") = true ∧ hasDictIn (Mine.hd.heap_1 w.params) C = true ∧
  ∀ a, ns.contains a = true → ∃ r, findIn (Mine.hd.heap_1 w.params) (.ref C) a = some r ∧ noGet (Mine.hd.heap_1 w.params) r = true
noncomputable def attV (slf : Str) (ns : List Str) (es : List DictEntry) (n a : Str) : Option Value := match n == slf with
  | true => match ns.contains a with
    | true => match getL a es with
      | some r => match r with
        | some v => match handedIn v with
          | true => some v
          | false => none
        | none => none
      | none => none
    | false => none
  | false => none
noncomputable abbrev D7 : List Str := [Str.ofString " ", Str.ofString "\t", Str.ofString "\n", Str.ofString ";", Str.ofString "(", Str.ofString ")", Str.ofString "\""]
noncomputable abbrev D1 : List Str := [Str.ofString "\""]
noncomputable def tpV (t : Addr) : Option (List Str) := match Nat.beq t 59 with
  | true => some D7
  | false => match Nat.beq t 60 with
    | true => some D1
    | false => none
theorem tp_ok {w : World} {h₀ h : Heap} {L : Addr} {m : Str → Option Value} (F : Fr h₀ L h m) (X : (Mine.hd.heap_1 w.params).In h₀) (t : Addr) (ys : List Str) (e : tpV t = some ys) : ∃ items, IsTup h t items ∧ StrsAre items.toList ys := by
  unfold tpV at e
  split at e
  · rename_i h1
    cases e
    obtain rfl := Nat.eq_of_beq_eq_true h1
    exact ⟨_, tupK (X.keeps F.keep) (by k_is), strs7⟩
  · split at e
    · rename_i h1
      cases e
      obtain rfl := Nat.eq_of_beq_eq_true h1
      exact ⟨_, tupK (X.keeps F.keep) (by k_is), strs1⟩
    · cases e
section
variable {w : World} {A : Around} {mean : ExcName → Option Value} {mg mb : Str → Option Value} {h₀ h : Heap} {L a : Addr} {m : Str → Option Value} {cn : Str} {cs : Scope} {ccd : Value} {gl : List (Str × Value)}
theorem nam_ok (hk : cs.kind = .function) (F : Fr h₀ L h m) (X : (Mine.hd.heap_1 w.params).In h₀) (T : Top Mine.hd.view_39 (looseW Mine.hd.view_39 [Str.ofString "_law_pieces"]) mean mg mb h₀) (HG : GlOk w gl)
    (x : Str) (v : Value) (e : namV (envOf cn cs L a ccd).kindOf m (fun x => gl.lookup x) x = some v) {pos : Pos} {Q E : Value → Shared → Prop} {s : Shared} (hs : s.heap = h) (q : Q v s) :
    wpAny (model prg w) A (eval (.Name x pos) (envOf cn cs L a ccd)) Q E s := by
  subst hs
  unfold namV at e
  split at e
  · cases e
  · rename_i hd
    split at e
    · rename_i k hx
      split at e
      · exact nameX_L (cl := []) F e q hk hx hd
      · exact nameX_K (cl := []) F X (topRead_of T) (HG _ _ e) q hk hx hd
      · cases e
    · cases e
theorem evOk0 (hk : cs.kind = .function) (F : Fr h₀ L h m) (X : (Mine.hd.heap_1 w.params).In h₀) (T : Top Mine.hd.view_39 (looseW Mine.hd.view_39 [Str.ofString "_law_pieces"]) mean mg mb h₀) (HG : GlOk w gl) :
    EvOk w A (envOf cn cs L a ccd) h m (fun x => gl.lookup x) (fun _ _ => none) tpV :=
  ⟨fun x v e _ _ _ _ hs q => nam_ok hk F X T HG x v e hs q, fun n a v e => (by cases e), tp_ok F X⟩
theorem evOk1 {slf : Str} {ns : List Str} {x C : Addr} {ox : Obj} {es : List DictEntry} {n : Nat} (hk : cs.kind = .function) (F : Fr h₀ L h m) (X : (Mine.hd.heap_1 w.params).In h₀)
    (T : Top Mine.hd.view_39 (looseW Mine.hd.view_39 [Str.ofString "_law_pieces"]) mean mg mb h₀) (HG : GlOk w gl) (HC : ClOk w C ns) (hs : m slf = some (.ref x)) (hsk : (envOf cn cs L a ccd).kindOf slf = some .local) (hsd : (slf == ("__debug__" : Str)) = false)
    (I : W.InstAt h x ox C (some (dictOf es n))) :
    EvOk w A (envOf cn cs L a ccd) h m (fun x => gl.lookup x) (attV slf ns es) tpV := by
  refine ⟨fun x v e _ _ _ _ hs q => nam_ok hk F X T HG x v e hs q, ?_, tp_ok F X⟩
  intro n a v e np pos Q E s eh q
  subst eh
  unfold attV at e
  split at e
  · rename_i h1
    obtain rfl := eq_of_beq h1
    split at e
    · rename_i h2
      split at e
      · rename_i r hr
        split at e
        · rename_i v' 
          split at e
          · rename_i hv
            cases e
            obtain ⟨r, r1, r2⟩ := HC.2.2 a h2
            exact Attribute_Name_ (nameX_L (cl := []) F hs (get_own F X I HC.1 HC.2.1 r1 r2 hr hv q) hk hsk hsd)
          · cases e
        · cases e
      · cases e
    · cases e
  · cases e
variable {E : Value → Shared → Prop} {gs : Array GenState} {dr : Drawn} {t0 : Nat} {os : OsState}
theorem s_if0 {test : Expr} {body orelse : List Stmt} {pos : Pos} {Q : Flow → Shared → Prop} {b : Bool} {t : Nat} (HG : GlOk w gl) (F : Fr h₀ L h m) (X : (Mine.hd.heap_1 w.params).In h₀)
    (T : Top Mine.hd.view_39 (looseW Mine.hd.view_39 [Str.ofString "_law_pieces"]) mean mg mb h₀) (hk : cs.kind = .function)
    (ht : tstV (envOf cn cs L a ccd).kindOf m (fun x => gl.lookup x) (fun _ _ => none) tpV 9 test t0 = some (b, t))
    (hq : ∀ tk, if b = true then wpAny (model prg w) A (execs body (envOf cn cs L a ccd)) Q E ⟨h, gs, dr, tk, os⟩ else wpAny (model prg w) A (execs orelse (envOf cn cs L a ccd)) Q E ⟨h, gs, dr, tk, os⟩) :
    wpAny (model prg w) A (exec (.If test body orelse pos) (envOf cn cs L a ccd)) Q E ⟨h, gs, dr, t0, os⟩ :=
  wpAny_If (tstV_ok (evOk0 hk F X T HG) 9 test t0 (b, t) ht (hq t))
theorem s_if1 {slf : Str} {ns : List Str} {x C : Addr} {ox : Obj} {es : List DictEntry} {n : Nat} {test : Expr} {body orelse : List Stmt} {pos : Pos} {Q : Flow → Shared → Prop} {b : Bool} {t : Nat} (HG : GlOk w gl) (HC : ClOk w C ns)
    (F : Fr h₀ L h m) (X : (Mine.hd.heap_1 w.params).In h₀)
    (T : Top Mine.hd.view_39 (looseW Mine.hd.view_39 [Str.ofString "_law_pieces"]) mean mg mb h₀) (hs : m slf = some (.ref x)) (I : W.InstAt h x ox C (some (dictOf es n))) (hk : cs.kind = .function) (hsk : (envOf cn cs L a ccd).kindOf slf = some .local) (hsd : (slf == ("__debug__" : Str)) = false)
    (ht : tstV (envOf cn cs L a ccd).kindOf m (fun x => gl.lookup x) (attV slf ns es) tpV 9 test t0 = some (b, t))
    (hq : ∀ tk, if b = true then wpAny (model prg w) A (execs body (envOf cn cs L a ccd)) Q E ⟨h, gs, dr, tk, os⟩ else wpAny (model prg w) A (execs orelse (envOf cn cs L a ccd)) Q E ⟨h, gs, dr, tk, os⟩) :
    wpAny (model prg w) A (exec (.If test body orelse pos) (envOf cn cs L a ccd)) Q E ⟨h, gs, dr, t0, os⟩ :=
  wpAny_If (tstV_ok (evOk1 hk F X T HG HC hs hsk hsd I) 9 test t0 (b, t) ht (hq t))
end
theorem ite_t {b : Bool} {P Q : Prop} (h : b = true) (p : P) : if b = true then P else Q := by rw [if_pos h]; exact p
theorem ite_f {b : Bool} {P Q : Prop} (h : b = false) (p : Q) : if b = true then P else Q := by rw [h]; exact p
theorem ite_s {b : Bool} {P Q : Prop} (h1 : b = true → P) (h2 : b = false → Q) : if b = true then P else Q := by
  cases h : b with
  | true => exact h1 h
  | false => exact h2 h
noncomputable abbrev glT : List (Str × Value) := [(Str.ofString "EOF", .int 0 299), (Str.ofString "EOL", .int 1 301), (Str.ofString "WHITESPACE", .int 2 303), (Str.ofString "IDENTIFIER", .int 3 305), (Str.ofString "QUOTED_STRING", .int 4 307), (Str.ofString "COMMENT", .int 5 309), (Str.ofString "DELIMITER", .int 6 311)]
theorem lookup_mem {x : Str} {v : Value} : ∀ {l : List (Str × Value)}, l.lookup x = some v → (x, v) ∈ l
  | [], h => by cases h
  | (y, u) :: l, h => by
    rw [List.lookup_cons] at h
    split at h
    · rename_i e
      cases h
      rw [eq_of_beq e]
      exact List.Mem.head _
    · exact List.Mem.tail _ (lookup_mem h)
theorem gl_ok (w : World) : GlOk w glT := by
  intro x v h
  have : ∀ p ∈ glT, nsIn (Mine.hd.heap_1 w.params) mainGlobals p.1 = some (some p.2) := fc (by kernel_rfl) (fc (by kernel_rfl) (fc (by kernel_rfl) (fc (by kernel_rfl) (fc (by kernel_rfl) (fc (by kernel_rfl) (fc (by kernel_rfl) fz))))))
  exact this _ (lookup_mem h)
noncomputable abbrev tokNames : List Str := [Str.ofString "file", Str.ofString "ungotten_char", Str.ofString "ungotten_token", Str.ofString "multiline", Str.ofString "quoting", Str.ofString "eof", Str.ofString "after_cr", Str.ofString "delimiters", Str.ofString "line_number", Str.ofString "filename"]
theorem cl451 (w : World) : ClOk w 451 tokNames := by
  refine ⟨by kernel_rfl, by kernel_rfl, ?_⟩
  have : tokNames.all (fun a => match findIn (Mine.hd.heap_1 w.params) (.ref 451) a with | some r => noGet (Mine.hd.heap_1 w.params) r | none => false) = true := by kernel_rfl
  intro a ha
  have := List.all_eq_true.mp this a (List.contains_iff_mem.mp ha)
  split at this
  · rename_i r e
    exact ⟨r, e, this⟩
  · cases this
end Mine
end

section
set_option genInjectivity false
set_option genSizeOf false
open PySem PySem.W PySem.Builtin PySem.Builtin.Str PySem.StrLaws
namespace Mine
theorem str_ext {a b : Str} (h : a.cps.toList = b.cps.toList) : a = b := by
  cases a; cases b; simp only [Str.mk.injEq]; exact Array.toList_inj.mp h
theorem sl_get {x : Str} {k : Nat} (h : k < x.length) : Txt.slice x (some (k : Int)) (some ((k : Int) + 1)) = ⟨#[x.cps[k]'h]⟩ := by
  have e : strSliceIndices (some (k : Int)) (some ((k : Int) + 1)) 1 x.length = [k] := by
    have := strSliceIndices_plain (a := k) (b := k + 1) (len := x.length) (by (first | lia | omega)) (by (first | lia | omega))
    rw [show ((k + 1 : Nat) : Int) = (k : Int) + 1 by (first | lia | omega)] at this
    rw [this]
    simp
  unfold Txt.slice
  rw [e]
  split
  · rename_i h1
    have hl : x.length = 1 := by have := (beq_iff_eq.mp (Bool.and_eq_true_iff.mp h1).2); simpa using this.symm
    apply str_ext
    obtain ⟨c⟩ := x
    have hs : c.size = 1 := hl
    have hk : k = 0 := by have : k < 1 := by rw [← hl]; exact h
                          (first | lia | omega)
    subst hk
    apply List.ext_getElem
    · simp [hs]
    · intro i h1 h2
      have : i = 0 := by simp at h2; exact h2
      subst this
      simp
      rfl
  · apply str_ext
    have : k < x.cps.size := h
    simp [this]
    rfl
theorem sl_end {x : Str} : Txt.slice x (some (x.length : Int)) (some ((x.length : Int) + 1)) = Str.ofString "" := by
  have e : strSliceIndices (some (x.length : Int)) (some ((x.length : Int) + 1)) 1 x.length = [] := by
    have h0 : ¬ ((x.length : Int) < 0) := by (first | lia | omega)
    have h1 : ¬ ((x.length : Int) + 1 < 0) := by (first | lia | omega)
    simp only [strSliceIndices, sliceRange, h0, h1, if_false, if_true, show ((1 : Int) > 0) from by decide]
    have : min ((x.length : Int) + 1) (x.length : Int) = x.length := by (first | lia | omega)
    rw [this]
    simp
  unfold Txt.slice
  rw [e]
  split
  · rename_i h1
    have hl : x.length = 0 := by have := (beq_iff_eq.mp (Bool.and_eq_true_iff.mp h1).2); simpa using this.symm
    obtain ⟨c⟩ := x
    have : c = #[] := Array.eq_empty_of_size_eq_zero hl
    subst this
    decide +kernel
  · show (⟨[].toArray⟩ : Str) = _
    decide +kernel
theorem sl_cases {x : Str} {k : Int} (h0 : 0 ≤ k) (h1 : k ≤ x.length) :
    (k = x.length ∧ Txt.slice x (some k) (some (k + 1)) = Str.ofString "") ∨ (∃ h : k.toNat < x.length, Txt.slice x (some k) (some (k + 1)) = ⟨#[x.cps[k.toNat]'h]⟩ ∧ (Txt.slice x (some k) (some (k + 1))).length = 1) := by
  by_cases h : k = x.length
  · subst h; exact .inl ⟨rfl, sl_end⟩
  · right
    have hk : k.toNat < x.length := by (first | lia | omega)
    have e := sl_get hk
    rw [show ((k.toNat : Nat) : Int) = k by (first | lia | omega)] at e
    exact ⟨hk, e, by rw [e]; rfl⟩
-- taking apart at one stroke: each obtain would copy what is left
theorem ex1 {α : Type} {p : α → Prop} {G : Prop} (h : ∃ x, p x) (k : ∀ x, p x → G) : G := let ⟨x, q⟩ := h; k x q
theorem ex3 {α β γ : Type} {p : α → β → γ → Prop} {G : Prop} (h : ∃ x y z, p x y z) (k : ∀ x y z, p x y z → G) : G := let ⟨x, y, z, q⟩ := h; k x y z q
theorem ex4 {α β γ δ : Type} {p : α → β → γ → δ → Prop} {G : Prop} (h : ∃ x y z u, p x y z u) (k : ∀ x y z u, p x y z u → G) : G := let ⟨x, y, z, u, q⟩ := h; k x y z u q
theorem an2 {p0 p1 G : Prop} (h : p0 ∧ p1) (k : p0 → p1 → G) : G := k h.1 h.2
theorem an3 {p0 p1 p2 G : Prop} (h : p0 ∧ p1 ∧ p2) (k : p0 → p1 → p2 → G) : G := k h.1 h.2.1 h.2.2
theorem an4 {p0 p1 p2 p3 G : Prop} (h : p0 ∧ p1 ∧ p2 ∧ p3) (k : p0 → p1 → p2 → p3 → G) : G := k h.1 h.2.1 h.2.2.1 h.2.2.2
theorem an6 {p0 p1 p2 p3 p4 p5 G : Prop} (h : p0 ∧ p1 ∧ p2 ∧ p3 ∧ p4 ∧ p5) (k : p0 → p1 → p2 → p3 → p4 → p5 → G) : G := k h.1 h.2.1 h.2.2.1 h.2.2.2.1 h.2.2.2.2.1 h.2.2.2.2.2
theorem an13 {p0 p1 p2 p3 p4 p5 p6 p7 p8 p9 p10 p11 p12 G : Prop} (h : p0 ∧ p1 ∧ p2 ∧ p3 ∧ p4 ∧ p5 ∧ p6 ∧ p7 ∧ p8 ∧ p9 ∧ p10 ∧ p11 ∧ p12) (k : p0 → p1 → p2 → p3 → p4 → p5 → p6 → p7 → p8 → p9 → p10 → p11 → p12 → G) : G := k h.1 h.2.1 h.2.2.1 h.2.2.2.1 h.2.2.2.2.1 h.2.2.2.2.2.1 h.2.2.2.2.2.2.1 h.2.2.2.2.2.2.2.1 h.2.2.2.2.2.2.2.2.1 h.2.2.2.2.2.2.2.2.2.1 h.2.2.2.2.2.2.2.2.2.2.1 h.2.2.2.2.2.2.2.2.2.2.2.1 h.2.2.2.2.2.2.2.2.2.2.2.2
end Mine
end

section
set_option genInjectivity false
set_option genSizeOf false
open PySem PySem.W
namespace Mine
/-- the tokenizer's state: text, place, the char put back, quoting, eof, after_cr, multiline, line_number -/
structure TS where
  tx : Str
  k : Int
  uc : Option Str
  q : Bool
  e : Bool
  a : Bool
  ml : Int
  ln : Int

noncomputable abbrev sl (tx : Str) (k : Int) : Str := Txt.slice tx (some k) (some (k + 1))
noncomputable abbrev lNil : Str := Str.ofString ""
noncomputable abbrev lNl : Str := Str.ofString "\n"
noncomputable abbrev lCr : Str := Str.ofString "\r"

/-- what stands behind the choice of the char -/
noncomputable def getcEnd (σ : TS) (c : Str) (k : Int) (a : Bool) : Str × TS :=
  if (c == lCr) = true ∧ σ.q = false then (lNl, ⟨σ.tx, k, none, σ.q, false, true, σ.ml, σ.ln + 1⟩)
  else if (c == lNil) = true then (c, ⟨σ.tx, k, none, σ.q, true, a, σ.ml, σ.ln⟩)
  else if (c == lNl) = true then (c, ⟨σ.tx, k, none, σ.q, false, a, σ.ml, σ.ln + 1⟩)
  else (c, ⟨σ.tx, k, none, σ.q, false, a, σ.ml, σ.ln⟩)

noncomputable def getc (σ : TS) : Str × TS :=
  match σ.uc with
  | some c => (c, ⟨σ.tx, σ.k, none, σ.q, σ.e, σ.a, σ.ml, σ.ln⟩)
  | none =>
    if σ.e = true then (lNil, ⟨σ.tx, σ.k, none, σ.q, true, σ.a, σ.ml, σ.ln⟩)
    else if σ.a = true then
      if (sl σ.tx σ.k == lNl) = true then getcEnd σ (sl σ.tx (σ.k + (sl σ.tx σ.k).length)) (σ.k + (sl σ.tx σ.k).length + (sl σ.tx (σ.k + (sl σ.tx σ.k).length)).length) false
      else getcEnd σ (sl σ.tx σ.k) (σ.k + (sl σ.tx σ.k).length) false
    else getcEnd σ (sl σ.tx σ.k) (σ.k + (sl σ.tx σ.k).length) false

structure Ok (σ : TS) : Prop where
  k0 : 0 ≤ σ.k
  k1 : σ.k ≤ σ.tx.length
  tx : σ.tx.length ≤ 1000
  l0 : 0 ≤ σ.ln
  l1 : σ.ln ≤ σ.k + 1

noncomputable def skipM : Nat → TS → Int → Option (Int × TS)
  | 0, _, _ => none
  | n + 1, σ, sk =>
    match getc σ with
    | (c, σ1) =>
      if (c != Str.ofString " ") = true then
        if (c != Str.ofString "\t") = true then
          if (c != Str.ofString "\n") = true then some (sk, { σ1 with uc := some c })
          else if σ.ml = 0 then some (sk, { σ1 with uc := some c })
          else skipM n σ1 (sk + 1)
        else skipM n σ1 (sk + 1)
      else skipM n σ1 (sk + 1)

theorem len_of_beq {c y : Str} (h : (c == y) = true) : c.length = y.length := by rw [eq_of_beq h]
theorem len_nl : (Str.ofString "\n").length = 1 := by decide +kernel
theorem len_cr : (Str.ofString "\r").length = 1 := by decide +kernel
theorem len_nil : (Str.ofString "").length = 0 := by decide +kernel
theorem getcEnd_ok {σ : TS} {c : Str} {k : Int} {a : Bool} (h0 : 0 ≤ k) (h1 : k ≤ σ.tx.length) (ht : σ.tx.length ≤ 1000) (l0 : 0 ≤ σ.ln) (l1 : σ.ln ≤ k - c.length + 1) : Ok (getcEnd σ c k a).2 := by
  unfold getcEnd
  split
  · rename_i h
    have := len_of_beq h.1
    rw [len_cr] at this
    exact ⟨h0, h1, ht, (by show 0 ≤ σ.ln + 1; (first | lia | omega)), (by show σ.ln + 1 ≤ k + 1; (first | lia | omega))⟩
  · split
    · exact ⟨h0, h1, ht, l0, (by show σ.ln ≤ k + 1; (first | lia | omega))⟩
    · split
      · rename_i h
        have := len_of_beq h
        rw [len_nl] at this
        exact ⟨h0, h1, ht, (by show 0 ≤ σ.ln + 1; (first | lia | omega)), (by show σ.ln + 1 ≤ k + 1; (first | lia | omega))⟩
      · exact ⟨h0, h1, ht, l0, (by show σ.ln ≤ k + 1; (first | lia | omega))⟩
theorem sl_bound {x : Str} {k : Int} (h0 : 0 ≤ k) (h1 : k ≤ x.length) : k + (sl x k).length ≤ x.length ∧ (sl x k).length ≤ 1 := by
  rcases sl_cases h0 h1 with ⟨e, h⟩ | ⟨hk, _, h⟩
  · rw [show (sl x k).length = 0 by rw [show sl x k = Str.ofString "" from h]; exact len_nil]; (first | lia | omega)
  · rw [show (sl x k).length = 1 from h]; (first | lia | omega)
theorem getc_ok {σ σ' : TS} {c : Str} (h : Ok σ) (e : getc σ = (c, σ')) : Ok σ' := by
  have key : Ok (getc σ).2 := by
    obtain ⟨tx, k, uc, q, e, a, ml, ln⟩ := σ
    obtain ⟨o1, o2, o3, o4, o5⟩ := h
    dsimp only at o1 o2 o3 o4 o5
    cases uc with
    | some c => exact ⟨o1, o2, o3, o4, o5⟩
    | none =>
      simp only [getc]
      have b1 := sl_bound o1 o2
      split
      · exact ⟨o1, o2, o3, o4, o5⟩
      · split
        · split
          · have b2 := sl_bound (x := tx) (k := k + (sl tx k).length) (by (first | lia | omega)) b1.1
            exact getcEnd_ok (by (first | lia | omega)) b2.1 o3 o4 (by show ln ≤ _; (first | lia | omega))
          · exact getcEnd_ok (by (first | lia | omega)) b1.1 o3 o4 (by show ln ≤ _; (first | lia | omega))
        · exact getcEnd_ok (by (first | lia | omega)) b1.1 o3 o4 (by show ln ≤ _; (first | lia | omega))
  rw [e] at key
  exact key
theorem getc_len {tx : Str} {k : Int} {q e a : Bool} {ml n : Int} {c : Str} {σ1 : TS} (hO : Ok ⟨tx, k, none, q, e, a, ml, n⟩) (hg : getc ⟨tx, k, none, q, e, a, ml, n⟩ = (c, σ1)) : c.length ≤ 1000 := by
  have fin : ∀ (σ : TS) (c : Str) (k : Int) (a : Bool), c.length ≤ 1 → (getcEnd σ c k a).1.length ≤ 1 := by
    intro σ c k a h
    unfold getcEnd
    split
    · exact Nat.le_of_eq len_nl
    · split
      · exact h
      · split <;> exact h
  have key : (getc ⟨tx, k, none, q, e, a, ml, n⟩).1.length ≤ 1 := by
    obtain ⟨o1, o2, o3, o4, o5⟩ := hO
    dsimp only at o1 o2 o3 o4 o5
    have b1 := sl_bound o1 o2
    simp only [getc]
    split
    · exact Nat.le_trans (Nat.le_of_eq len_nil) (Nat.zero_le _)
    · split
      · split
        · have b2 := sl_bound (x := tx) (k := k + (sl tx k).length) (by (first | lia | omega)) b1.1
          exact fin _ _ _ _ b2.2
        · exact fin _ _ _ _ b1.2
      · exact fin _ _ _ _ b1.2
  rw [hg] at key
  exact Nat.le_trans key (by decide)
theorem getcEnd_same (σ : TS) (c : Str) (k : Int) (a : Bool) : (getcEnd σ c k a).2.tx = σ.tx ∧ (getcEnd σ c k a).2.q = σ.q ∧ (getcEnd σ c k a).2.ml = σ.ml ∧ (getcEnd σ c k a).2.uc = none ∧ (getcEnd σ c k a).2.k = k := by
  unfold getcEnd
  split
  · exact ⟨rfl, rfl, rfl, rfl, rfl⟩
  · split
    · exact ⟨rfl, rfl, rfl, rfl, rfl⟩
    · split <;> exact ⟨rfl, rfl, rfl, rfl, rfl⟩
theorem getc_same {σ σ1 : TS} {c : Str} (e : getc σ = (c, σ1)) : σ1.tx = σ.tx ∧ σ1.q = σ.q ∧ σ1.ml = σ.ml ∧ σ1.uc = none := by
  have key : (getc σ).2.tx = σ.tx ∧ (getc σ).2.q = σ.q ∧ (getc σ).2.ml = σ.ml ∧ (getc σ).2.uc = none := by
    unfold getc
    split
    · exact ⟨rfl, rfl, rfl, rfl⟩
    · split
      · exact ⟨rfl, rfl, rfl, rfl⟩
      · have f := fun c k a => getcEnd_same σ c k a
        split
        · split <;> exact ⟨(f _ _ _).1, (f _ _ _).2.1, (f _ _ _).2.2.1, (f _ _ _).2.2.2.1⟩
        · exact ⟨(f _ _ _).1, (f _ _ _).2.1, (f _ _ _).2.2.1, (f _ _ _).2.2.2.1⟩
  rw [e] at key
  exact key
noncomputable def TS.mu (σ : TS) : Nat := 2 * (σ.tx.length - σ.k.toNat) + (if σ.uc.isSome then 1 else 0)
theorem nil_of_len {x : Str} (h : x.length = 0) : x = Str.ofString "" := by
  obtain ⟨c⟩ := x
  have : c = #[] := Array.eq_empty_of_size_eq_zero h
  subst this
  decide +kernel
theorem getcEnd_nil (σ : TS) (k : Int) (a : Bool) : (getcEnd σ (Str.ofString "") k a).1 = Str.ofString "" := by
  unfold getcEnd
  rw [if_neg (fun h => absurd h.1 (by decide +kernel)), if_pos (by decide +kernel)]
theorem getc_dec {σ σ1 : TS} {c : Str} (h : Ok σ) (e : getc σ = (c, σ1)) (hc : c ≠ Str.ofString "") : σ1.mu < σ.mu := by
  have hu := (getc_same e).2.2.2
  have ht := (getc_same e).1
  have key : (getc σ).1 ≠ Str.ofString "" → (σ.uc.isSome = true ∧ (getc σ).2.k = σ.k) ∨ (σ.uc.isSome = false ∧ σ.k < (getc σ).2.k ∧ (getc σ).2.k ≤ σ.tx.length) := by
    obtain ⟨tx, k, uc, q, ee, a, ml, ln⟩ := σ
    obtain ⟨o1, o2, o3, o4, o5⟩ := h
    dsimp only at o1 o2 o3 o4 o5
    have b1 := sl_bound o1 o2
    cases uc with
    | some c => intro _; exact .inl ⟨rfl, rfl⟩
    | none =>
      intro hne
      refine .inr ⟨rfl, ?_⟩
      simp only [getc] at hne ⊢
      split at hne
      · exact absurd rfl hne
      · rename_i h1
        rw [if_neg h1]
        split at hne
        · rename_i h2
          rw [if_pos h2]
          split at hne
          · rename_i h3
            rw [if_pos h3]
            have b2 := sl_bound (x := tx) (k := k + (sl tx k).length) (by (first | lia | omega)) b1.1
            rw [(getcEnd_same _ _ _ _).2.2.2.2]
            have := len_of_beq h3
            rw [len_nl] at this
            show k < _ ∧ _ ≤ (tx.length : Int)
            (first | lia | omega)
          · rename_i h3
            rw [if_neg h3]
            rw [(getcEnd_same _ _ _ _).2.2.2.2]
            have : (sl tx k).length ≠ 0 := fun z => hne (by rw [nil_of_len z]; exact getcEnd_nil _ _ _)
            show k < _ ∧ _ ≤ (tx.length : Int)
            (first | lia | omega)
        · rename_i h2
          rw [if_neg h2]
          rw [(getcEnd_same _ _ _ _).2.2.2.2]
          have : (sl tx k).length ≠ 0 := fun z => hne (by rw [nil_of_len z]; exact getcEnd_nil _ _ _)
          show k < _ ∧ _ ≤ (tx.length : Int)
          (first | lia | omega)
  rw [e] at key
  dsimp only at key
  have h0 := h.k0
  have h1 := h.k1
  unfold TS.mu
  rw [ht, hu]
  rcases key hc with ⟨a1, a2⟩ | ⟨a1, a2, a3⟩
  · rw [a1, a2]; simp
  · rw [a1]; simp; (first | lia | omega)
theorem lit_sp_ne : Str.ofString " " ≠ Str.ofString "" := by decide +kernel
theorem lit_tb_ne : Str.ofString "\t" ≠ Str.ofString "" := by decide +kernel
theorem lit_nl_ne : Str.ofString "\n" ≠ Str.ofString "" := by decide +kernel
theorem skip_total_aux : ∀ (n : Nat) (σ : TS) (sk : Int), Ok σ → σ.mu < n → ∃ r c σ', skipM n σ sk = some (r, σ') ∧ σ'.uc = some c ∧ Ok σ' ∧ σ'.tx = σ.tx ∧ σ'.q = σ.q ∧ σ'.ml = σ.ml := by
  intro n
  induction n with
  | zero => intro σ sk _ h; exact absurd h (Nat.not_lt_zero _)
  | succ n ih =>
    intro σ sk hO hm
    rcases hg : getc σ with ⟨c, σ1⟩
    have hO1 := getc_ok hO hg
    obtain ⟨t1, t2, t3, t4⟩ := getc_same hg
    have stop : ∃ r c' σ', some (sk, ({ σ1 with uc := some c } : TS)) = some (r, σ') ∧ σ'.uc = some c' ∧ Ok σ' ∧ σ'.tx = σ.tx ∧ σ'.q = σ.q ∧ σ'.ml = σ.ml :=
      ⟨_, _, _, rfl, rfl, ⟨hO1.1, hO1.2, hO1.3, hO1.4, hO1.5⟩, t1, t2, t3⟩
    have more : c ≠ Str.ofString "" → ∃ r c' σ', skipM n σ1 (sk + 1) = some (r, σ') ∧ σ'.uc = some c' ∧ Ok σ' ∧ σ'.tx = σ.tx ∧ σ'.q = σ.q ∧ σ'.ml = σ.ml := fun hc => by
      have hd := getc_dec hO hg hc
      obtain ⟨r, c', σ', e1, e2, e3, e4, e5, e6⟩ := ih σ1 (sk + 1) hO1 (by (first | lia | omega))
      exact ⟨r, c', σ', e1, e2, e3, e4.trans t1, e5.trans t2, e6.trans t3⟩
    have ne {y : Str} (h : ¬(c != y) = true) : c = y := by simpa using h
    rw [skipM, hg]
    dsimp only
    split
    · split
      · split
        · exact stop
        · split
          · exact stop
          · rename_i h3 _; exact more (by rw [ne h3]; exact lit_nl_ne)
      · rename_i h2; exact more (by rw [ne h2]; exact lit_tb_ne)
    · rename_i h1; exact more (by rw [ne h1]; exact lit_sp_ne)
theorem skip_total {σ : TS} (h : Ok σ) : ∃ r c σ', skipM 3000 σ 0 = some (r, σ') ∧ σ'.uc = some c ∧ Ok σ' ∧ σ'.tx = σ.tx ∧ σ'.q = σ.q ∧ σ'.ml = σ.ml :=
  skip_total_aux 3000 σ 0 h (by
    have := h.tx
    unfold TS.mu
    split <;> (first | lia | omega))

noncomputable def vUC : Option Str → Tok → Value
  | none, _ => .none
  | some c, t => .str c t
theorem ok_ml {tx : Str} {k : Int} {uc : Option Str} {q e a : Bool} {ml ml' n : Int} (h : Ok ⟨tx, k, uc, q, e, a, ml, n⟩) : Ok ⟨tx, k, uc, q, e, a, ml', n⟩ := ⟨h.1, h.2, h.3, h.4, h.5⟩
theorem ok_q {tx : Str} {k : Int} {uc : Option Str} {q q' e a : Bool} {ml n : Int} (h : Ok ⟨tx, k, uc, q, e, a, ml, n⟩) : Ok ⟨tx, k, uc, q', e, a, ml, n⟩ := ⟨h.1, h.2, h.3, h.4, h.5⟩
end Mine
end

section
set_option genInjectivity false
set_option genSizeOf false
open PySem PySem.W
namespace Mine
noncomputable abbrev tupO (vs : List Value) : Obj := { cls := .type "tuple", data := .seq vs.toArray }
inductive Cl | nil | lp | rp | dq | nl | sc | sp | tb | bs | ot
  deriving DecidableEq
noncomputable def clOf (c : Str) : Cl :=
  if c = Str.ofString "" then .nil else if c = Str.ofString "(" then .lp else if c = Str.ofString ")" then .rp else if c = Str.ofString "\"" then .dq
  else if c = Str.ofString "\n" then .nl else if c = Str.ofString ";" then .sc else if c = Str.ofString " " then .sp else if c = Str.ofString "\t" then .tb
  else if c = Str.ofString "\\" then .bs else .ot
/-- none of the signs that the tokenizer asks for -/
structure Other (c : Str) : Prop where
  cl : clOf c = .ot
  h0 : (c == Str.ofString "") = false
  h1 : (c == Str.ofString "(") = false
  h2 : (c == Str.ofString ")") = false
  h3 : (c == Str.ofString "\"") = false
  h4 : (c == Str.ofString "\n") = false
  h5 : (c == Str.ofString ";") = false
  h6 : (c == Str.ofString "\\") = false
  i1 : [Str.ofString " ", Str.ofString "\t", Str.ofString "\n", Str.ofString ";", Str.ofString "(", Str.ofString ")", Str.ofString "\""].any (· == c) = false
  i2 : [Str.ofString "\""].any (· == c) = false
theorem cls (c : Str) : c = Str.ofString "" ∨ c = Str.ofString "(" ∨ c = Str.ofString ")" ∨ c = Str.ofString "\"" ∨ c = Str.ofString "\n" ∨ c = Str.ofString ";" ∨ c = Str.ofString " " ∨ c = Str.ofString "\t" ∨ c = Str.ofString "\\" ∨ Other c := by
  by_cases h0 : c = Str.ofString ""
  · exact .inl h0
  by_cases h1 : c = Str.ofString "("
  · exact .inr (.inl h1)
  by_cases h2 : c = Str.ofString ")"
  · exact .inr (.inr (.inl h2))
  by_cases h3 : c = Str.ofString "\""
  · exact .inr (.inr (.inr (.inl h3)))
  by_cases h4 : c = Str.ofString "\n"
  · exact .inr (.inr (.inr (.inr (.inl h4))))
  by_cases h5 : c = Str.ofString ";"
  · exact .inr (.inr (.inr (.inr (.inr (.inl h5)))))
  by_cases h6 : c = Str.ofString " "
  · exact .inr (.inr (.inr (.inr (.inr (.inr (.inl h6))))))
  by_cases h7 : c = Str.ofString "\t"
  · exact .inr (.inr (.inr (.inr (.inr (.inr (.inr (.inl h7)))))))
  by_cases h8 : c = Str.ofString "\\"
  · exact .inr (.inr (.inr (.inr (.inr (.inr (.inr (.inr (.inl h8))))))))
  refine .inr (.inr (.inr (.inr (.inr (.inr (.inr (.inr (.inr ?_))))))))
  have nb {y : Str} (h : c ≠ y) : (c == y) = false := beq_eq_false_iff_ne.mpr h
  have nb' {y : Str} (h : c ≠ y) : (y == c) = false := beq_eq_false_iff_ne.mpr (Ne.symm h)
  refine ⟨?_, nb h0, nb h1, nb h2, nb h3, nb h4, nb h5, nb h8, ?_, ?_⟩
  · simp only [clOf, h0, h1, h2, h3, h4, h5, h6, h7, h8, if_false]
  · simp only [List.any_cons, List.any_nil, nb' h6, nb' h7, nb' h4, nb' h5, nb' h1, nb' h2, nb' h3, Bool.or_false]
  · simp only [List.any_cons, List.any_nil, nb' h3, Bool.or_false]
/-- none of the signs that are asked for within quotes -/
structure OtherQ (c : Str) : Prop where
  cl : clOf c ≠ .nil ∧ clOf c ≠ .dq ∧ clOf c ≠ .nl ∧ clOf c ≠ .bs
  h0 : (c == Str.ofString "") = false
  h4 : (c == Str.ofString "\n") = false
  h6 : (c == Str.ofString "\\") = false
  i2 : [Str.ofString "\""].any (· == c) = false
theorem clsQ (c : Str) : c = Str.ofString "" ∨ c = Str.ofString "\"" ∨ c = Str.ofString "\n" ∨ c = Str.ofString "\\" ∨ OtherQ c := by
  have nb {y : Str} (h : c ≠ y) : (c == y) = false := beq_eq_false_iff_ne.mpr h
  have nb' {y : Str} (h : c ≠ y) : (y == c) = false := beq_eq_false_iff_ne.mpr (Ne.symm h)
  by_cases h0 : c = Str.ofString ""
  · exact .inl h0
  by_cases h3 : c = Str.ofString "\""
  · exact .inr (.inl h3)
  by_cases h4 : c = Str.ofString "\n"
  · exact .inr (.inr (.inl h4))
  by_cases h8 : c = Str.ofString "\\"
  · exact .inr (.inr (.inr (.inl h8)))
  refine .inr (.inr (.inr (.inr ⟨?_, nb h0, nb h4, nb h8, ?_⟩)))
  · unfold clOf
    simp only [h0, h3, h4, h8, if_false]
    refine ⟨?_, ?_, ?_, ?_⟩ <;> (repeat' split) <;> simp
  · simp only [List.any_cons, List.any_nil, nb' h3, Bool.or_false]
theorem cl_nil : clOf (Str.ofString "") = .nil := by decide +kernel
theorem cl_lp : clOf (Str.ofString "(") = .lp := by decide +kernel
theorem cl_rp : clOf (Str.ofString ")") = .rp := by decide +kernel
theorem cl_dq : clOf (Str.ofString "\"") = .dq := by decide +kernel
theorem cl_nl : clOf (Str.ofString "\n") = .nl := by decide +kernel
theorem cl_sc : clOf (Str.ofString ";") = .sc := by decide +kernel
theorem cl_sp : clOf (Str.ofString " ") = .sp := by decide +kernel
theorem cl_tb : clOf (Str.ofString "\t") = .tb := by decide +kernel
theorem cl_bs : clOf (Str.ofString "\\") = .bs := by decide +kernel

inductive Res where
  | tok (ty : Int) (v : Str) (esc : Bool) (cm : Option Str)
  | syn
  | fin

/-- a comment's signs -/
noncomputable def noteM : Nat → TS → Str → Option (Str × Str × TS)
  | 0, _, _ => none
  | n + 1, σ, v =>
    match getc σ with
    | (c, σ1) =>
      if (c == Str.ofString "\n") = true then some (v, c, σ1)
      else if (c == Str.ofString "") = true then some (v, c, σ1)
      else if v.length ≤ 5000 then noteM n σ1 (v ++ c) else none

/-- behind the loop -/
noncomputable def getFin (σ : TS) (tk : Str) (ty : Int) (esc : Bool) : Option (Res × TS) :=
  if (tk == Str.ofString "") = true then
    if ty ≠ 4 then
      if σ.ml ≠ 0 then some (.syn, σ) else some (.tok 0 tk esc none, σ)
    else some (.tok ty tk esc none, σ)
  else some (.tok ty tk esc none, σ)

noncomputable def getM : Nat → Bool → TS → Str → Int → Bool → Option (Res × TS)
  | 0, _, _, _, _, _ => none
  | n + 1, note, σ, tk, ty, esc =>
    match getc σ with
    | (c, σ1) =>
      let back : Option (Res × TS) := getFin { σ1 with uc := some c } tk ty esc
      let more : Option (Res × TS) := if tk.length ≤ 5000 ∧ c.length ≤ 5000 then getM n note σ1 (tk ++ c) ty esc else none
      let pair : Option (Res × TS) :=
        if tk.length ≤ 5000 then
          match getc σ1 with
          | (c2, σ2) =>
            if (c2 == Str.ofString "") = true then some (.fin, σ2)
            else if (c2 == Str.ofString "\n") = true then
              (if σ.q = true then getM n note σ2 (tk ++ c ++ c2) ty true else some (.fin, σ2))
            else getM n note σ2 (tk ++ c ++ c2) ty true
        else none
      if σ.q = true then
        match clOf c with
        | .nil => some (.fin, σ1)
        | .dq =>
          if (tk == Str.ofString "") = true then
            if ty ≠ 4 then
              match skipM 3000 { σ1 with q := false } 0 with
              | none => none
              | some (_, σ2) => getM n note σ2 tk ty esc
            else back
          else back
        | .nl => some (.syn, σ1)
        | .bs => pair
        | _ => more
      else
        match clOf c with
        | .ot => more
        | .bs => pair
        | k =>
          if (tk == Str.ofString "") = true then
            if ty ≠ 4 then
              match k with
              | .lp =>
                (match skipM 3000 { σ1 with ml := σ.ml + 1 } 0 with
                | none => none
                | some (_, σ2) => getM n note σ2 tk ty esc)
              | .rp =>
                if σ.ml ≤ 0 then some (.syn, σ1)
                else (match skipM 3000 { σ1 with ml := σ.ml - 1 } 0 with
                | none => none
                | some (_, σ2) => getM n note σ2 tk ty esc)
              | .dq => getM n note { σ1 with q := true } tk 4 esc
              | .nl => some (.tok 1 (Str.ofString "\n") false none, σ1)
              | .sc =>
                (match noteM 3000 σ1 tk with
                | none => none
                | some (v, c2, σ2) =>
                  if note = true then some (.tok 5 v false none, { σ2 with uc := some c2 })
                  else if (c2 == Str.ofString "") = true then
                    (if σ.ml ≠ 0 then some (.syn, σ2) else some (.tok 0 (Str.ofString "") false (some v), σ2))
                  else if σ.ml ≠ 0 then
                    (match skipM 3000 σ2 0 with
                    | none => none
                    | some (_, σ3) => getM n note σ3 (Str.ofString "") ty esc)
                  else some (.tok 1 (Str.ofString "\n") false (some v), σ2))
              | _ => getFin σ1 c 6 esc
            else back
          else back
/-- a turn of get, told by what the sign is -/
noncomputable def getB (go : TS → Str → Int → Bool → Option (Res × TS)) (note : Bool) (σ : TS) (tk : Str) (ty : Int) (esc : Bool) (c : Str) (σ1 : TS) (q : Bool) (k0 : Cl) : Option (Res × TS) :=
      let back : Option (Res × TS) := getFin { σ1 with uc := some c } tk ty esc
      let more : Option (Res × TS) := if tk.length ≤ 5000 ∧ c.length ≤ 5000 then go σ1 (tk ++ c) ty esc else none
      let pair : Option (Res × TS) :=
        if tk.length ≤ 5000 then
          match getc σ1 with
          | (c2, σ2) =>
            if (c2 == Str.ofString "") = true then some (.fin, σ2)
            else if (c2 == Str.ofString "\n") = true then
              (if q = true then go σ2 (tk ++ c ++ c2) ty true else some (.fin, σ2))
            else go σ2 (tk ++ c ++ c2) ty true
        else none
      if q = true then
        match k0 with
        | .nil => some (.fin, σ1)
        | .dq =>
          if (tk == Str.ofString "") = true then
            if ty ≠ 4 then
              match skipM 3000 { σ1 with q := false } 0 with
              | none => none
              | some (_, σ2) => go σ2 tk ty esc
            else back
          else back
        | .nl => some (.syn, σ1)
        | .bs => pair
        | _ => more
      else
        match k0 with
        | .ot => more
        | .bs => pair
        | k =>
          if (tk == Str.ofString "") = true then
            if ty ≠ 4 then
              match k with
              | .lp =>
                (match skipM 3000 { σ1 with ml := σ.ml + 1 } 0 with
                | none => none
                | some (_, σ2) => go σ2 tk ty esc)
              | .rp =>
                if σ.ml ≤ 0 then some (.syn, σ1)
                else (match skipM 3000 { σ1 with ml := σ.ml - 1 } 0 with
                | none => none
                | some (_, σ2) => go σ2 tk ty esc)
              | .dq => go { σ1 with q := true } tk 4 esc
              | .nl => some (.tok 1 (Str.ofString "\n") false none, σ1)
              | .sc =>
                (match noteM 3000 σ1 tk with
                | none => none
                | some (v, c2, σ2) =>
                  if note = true then some (.tok 5 v false none, { σ2 with uc := some c2 })
                  else if (c2 == Str.ofString "") = true then
                    (if σ.ml ≠ 0 then some (.syn, σ2) else some (.tok 0 (Str.ofString "") false (some v), σ2))
                  else if σ.ml ≠ 0 then
                    (match skipM 3000 σ2 0 with
                    | none => none
                    | some (_, σ3) => go σ3 (Str.ofString "") ty esc)
                  else some (.tok 1 (Str.ofString "\n") false (some v), σ2))
              | _ => getFin σ1 c 6 esc
            else back
          else back
theorem getM_b {n : Nat} {note : Bool} {σ σ1 : TS} {c tk : Str} {ty : Int} {esc : Bool} (hg : getc σ = (c, σ1)) : getM (n + 1) note σ tk ty esc = getB (getM n note) note σ tk ty esc c σ1 σ.q (clOf c) := by
  rw [getM, hg]
  rfl
/-- get, nothing put back -/
noncomputable def getT (lead note : Bool) (σ : TS) : Option (Res × TS) :=
  match skipM 3000 σ 0 with
  | none => none
  | some (r, σ1) => if lead = true ∧ 0 < r then some (.tok 2 (Str.ofString " ") false none, σ1) else getM 3000 note σ1 (Str.ofString "") 3 false
end Mine
namespace Mine
end Mine
namespace Mine
/-- a delimiter, not the end -/
structure Del (c : Str) : Prop where
  h0 : (c == Str.ofString "") = false
  i1 : [Str.ofString " ", Str.ofString "\t", Str.ofString "\n", Str.ofString ";", Str.ofString "(", Str.ofString ")", Str.ofString "\""].any (· == c) = true
  one : c = Str.ofString "(" ∨ c = Str.ofString ")" ∨ c = Str.ofString "\"" ∨ c = Str.ofString "\n" ∨ c = Str.ofString ";" ∨ c = Str.ofString " " ∨ c = Str.ofString "\t"
theorem del_of {c : Str} (h : c = Str.ofString "(" ∨ c = Str.ofString ")" ∨ c = Str.ofString "\"" ∨ c = Str.ofString "\n" ∨ c = Str.ofString ";" ∨ c = Str.ofString " " ∨ c = Str.ofString "\t") : Del c := by
  refine ⟨?_, ?_, h⟩
  · rcases h with rfl | rfl | rfl | rfl | rfl | rfl | rfl <;> decide +kernel
  · rcases h with rfl | rfl | rfl | rfl | rfl | rfl | rfl <;> decide +kernel
theorem getM_back {n : Nat} {note : Bool} {σ σ1 : TS} {c tk : Str} {ty : Int} {esc : Bool} (hg : getc σ = (c, σ1)) (hq : σ.q = false) (hd : c = Str.ofString "" ∨ Del c) (hs : (tk == Str.ofString "") = false ∨ ty = 4) :
    getM (n + 1) note σ tk ty esc = some (.tok ty tk esc none, { σ1 with uc := some c }) := by
  have fin : getFin { σ1 with uc := some c } tk ty esc = some (.tok ty tk esc none, { σ1 with uc := some c }) := by
    unfold getFin
    rcases hs with h | h
    · simp [h]
    · subst h; simp
  have hc : c = Str.ofString "" ∨ c = Str.ofString "(" ∨ c = Str.ofString ")" ∨ c = Str.ofString "\"" ∨ c = Str.ofString "\n" ∨ c = Str.ofString ";" ∨ c = Str.ofString " " ∨ c = Str.ofString "\t" := hd.imp id fun d => d.one
  have key : ∀ k, clOf c = k → k ≠ .ot → k ≠ .bs → getM (n + 1) note σ tk ty esc = some (.tok ty tk esc none, { σ1 with uc := some c }) := by
    intro k hk h1 h2
    have e : ∃ x, getB (getM n note) note σ tk ty esc c σ1 false k = if (tk == Str.ofString "") = true then (if ty ≠ 4 then x else getFin { σ1 with uc := some c } tk ty esc) else getFin { σ1 with uc := some c } tk ty esc := by
      cases k <;> first | exact absurd rfl h1 | exact absurd rfl h2 | exact ⟨_, rfl⟩
    obtain ⟨x, e⟩ := e
    rw [getM_b hg, hq, hk, e, fin]
    rcases hs with h | h
    · exact if_neg (by rw [h]; decide)
    · by_cases ht : (tk == Str.ofString "") = true
      · exact (if_pos ht).trans (if_neg (fun q => q h))
      · exact if_neg ht
  rcases hc with rfl | rfl | rfl | rfl | rfl | rfl | rfl | rfl
  · exact key _ cl_nil (by decide) (by decide)
  · exact key _ cl_lp (by decide) (by decide)
  · exact key _ cl_rp (by decide) (by decide)
  · exact key _ cl_dq (by decide) (by decide)
  · exact key _ cl_nl (by decide) (by decide)
  · exact key _ cl_sc (by decide) (by decide)
  · exact key _ cl_sp (by decide) (by decide)
  · exact key _ cl_tb (by decide) (by decide)
end Mine

namespace Mine
theorem getM_len_ot {n : Nat} {note : Bool} {σ σ1 : TS} {c tk : Str} {ty : Int} {esc : Bool} {r : Res × TS} (hM : getM (n + 1) note σ tk ty esc = some r) (hg : getc σ = (c, σ1)) (hc : clOf c = .ot) : tk.length ≤ 5000 ∧ c.length ≤ 5000 := by
  by_cases h : tk.length ≤ 5000 ∧ c.length ≤ 5000
  · exact h
  · rw [getM_b hg, hc] at hM
    have e : getB (getM n note) note σ tk ty esc c σ1 σ.q .ot = if tk.length ≤ 5000 ∧ c.length ≤ 5000 then getM n note σ1 (tk ++ c) ty esc else none := by cases σ.q <;> rfl
    rw [e, if_neg h] at hM
    cases hM
theorem getM_len_q {n : Nat} {note : Bool} {σ σ1 : TS} {c tk : Str} {ty : Int} {esc : Bool} {r : Res × TS} (hM : getM (n + 1) note σ tk ty esc = some r) (hg : getc σ = (c, σ1)) (hq : σ.q = true) (hc : clOf c ≠ .nil ∧ clOf c ≠ .dq ∧ clOf c ≠ .nl ∧ clOf c ≠ .bs) :
    (tk.length ≤ 5000 ∧ c.length ≤ 5000) ∧ getM n note σ1 (tk ++ c) ty esc = some r := by
  rw [getM_b hg, hq] at hM
  have e : getB (getM n note) note σ tk ty esc c σ1 true (clOf c) = if tk.length ≤ 5000 ∧ c.length ≤ 5000 then getM n note σ1 (tk ++ c) ty esc else none := by
    obtain ⟨h1, h2, h3, h4⟩ := hc
    cases k : clOf c <;> first | exact absurd k h1 | exact absurd k h2 | exact absurd k h3 | exact absurd k h4 | rfl
  rw [e] at hM
  by_cases h : tk.length ≤ 5000 ∧ c.length ≤ 5000
  · rw [if_pos h] at hM
    exact ⟨h, hM⟩
  · rw [if_neg h] at hM
    cases hM
theorem getM_len_bs {n : Nat} {note : Bool} {σ σ1 : TS} {tk : Str} {ty : Int} {esc : Bool} {r : Res × TS} (hM : getM (n + 1) note σ tk ty esc = some r) (hg : getc σ = (Str.ofString "\\", σ1)) : tk.length ≤ 5000 := by
  by_cases h : tk.length ≤ 5000
  · exact h
  · rw [getM_b hg, cl_bs] at hM
    have e : ∃ x, getB (getM n note) note σ tk ty esc (Str.ofString "\\") σ1 σ.q .bs = if tk.length ≤ 5000 then x else none := by cases σ.q <;> exact ⟨_, rfl⟩
    obtain ⟨x, e⟩ := e
    rw [e, if_neg h] at hM
    cases hM
end Mine
namespace Mine
theorem noteM_len {n : Nat} {σ σ1 : TS} {c v : Str} {r : Str × Str × TS} (hN : noteM (n + 1) σ v = some r) (hg : getc σ = (c, σ1)) (h0 : (c == Str.ofString "") = false) (h1 : (c == Str.ofString "\n") = false) : v.length ≤ 5000 ∧ noteM n σ1 (v ++ c) = some r := by
  rw [noteM, hg] at hN
  simp only [h0, h1, Bool.false_eq_true, if_false] at hN
  by_cases h : v.length ≤ 5000
  · rw [if_pos h] at hN; exact ⟨h, hN⟩
  · rw [if_neg h] at hN; cases hN
theorem lit_nl_nil : (Str.ofString "\n" == Str.ofString "") = false := by decide +kernel
end Mine
namespace Mine
end Mine
namespace Mine
section
variable {n : Nat} {note : Bool} {σ σ1 σ2 : TS} {c c2 tk : Str} {ty : Int} {esc : Bool}
theorem gb_ot (hg : getc σ = (c, σ1)) (hq : σ.q = false) (hk : clOf c = .ot) (hl : tk.length ≤ 5000 ∧ c.length ≤ 5000) : getM (n + 1) note σ tk ty esc = getM n note σ1 (tk ++ c) ty esc := by
  rw [getM_b hg, hq, hk]
  exact if_pos hl
theorem gb_bs (hg : getc σ = (c, σ1)) (hk : clOf c = .bs) (hl : tk.length ≤ 5000) (hg2 : getc σ1 = (c2, σ2)) : getM (n + 1) note σ tk ty esc =
    if (c2 == Str.ofString "") = true then some (.fin, σ2)
    else if (c2 == Str.ofString "\n") = true then (if σ.q = true then getM n note σ2 (tk ++ c ++ c2) ty true else some (.fin, σ2))
    else getM n note σ2 (tk ++ c ++ c2) ty true := by
  have e : getM (n + 1) note σ tk ty esc = if tk.length ≤ 5000 then (match getc σ1 with
      | (c2, σ2) =>
        if (c2 == Str.ofString "") = true then some (.fin, σ2)
        else if (c2 == Str.ofString "\n") = true then (if σ.q = true then getM n note σ2 (tk ++ c ++ c2) ty true else some (.fin, σ2))
        else getM n note σ2 (tk ++ c ++ c2) ty true) else none := by
    rw [getM_b hg, hk]
    cases σ.q <;> rfl
  rw [e, if_pos hl, hg2]
theorem gb_bs0 (hg : getc σ = (c, σ1)) (hk : clOf c = .bs) (hl : tk.length ≤ 5000) (hg2 : getc σ1 = (Str.ofString "", σ2)) : getM (n + 1) note σ tk ty esc = some (.fin, σ2) :=
  (gb_bs hg hk hl hg2).trans (if_pos (by decide +kernel))
theorem gb_bs1 (hg : getc σ = (c, σ1)) (hq : σ.q = false) (hk : clOf c = .bs) (hl : tk.length ≤ 5000) (hg2 : getc σ1 = (Str.ofString "\n", σ2)) : getM (n + 1) note σ tk ty esc = some (.fin, σ2) :=
  (gb_bs hg hk hl hg2).trans ((if_neg (by decide +kernel)).trans ((if_pos (by decide +kernel)).trans (if_neg (by rw [hq]; decide))))
theorem gb_bs2 (hg : getc σ = (c, σ1)) (hk : clOf c = .bs) (hl : tk.length ≤ 5000) (hg2 : getc σ1 = (c2, σ2)) (h0 : (c2 == Str.ofString "") = false) (h1 : (c2 == Str.ofString "\n") = false ∨ σ.q = true) : getM (n + 1) note σ tk ty esc = getM n note σ2 (tk ++ c ++ c2) ty true := by
  refine (gb_bs hg hk hl hg2).trans ((if_neg (by rw [h0]; decide)).trans ?_)
  rcases h1 with h | h
  · exact if_neg (by rw [h]; decide)
  · by_cases h2 : (c2 == Str.ofString "\n") = true
    · exact (if_pos h2).trans (if_pos h)
    · exact if_neg h2
theorem gb_q0 (hg : getc σ = (c, σ1)) (hq : σ.q = true) (hk : clOf c = .nil) : getM (n + 1) note σ tk ty esc = some (.fin, σ1) := by
  rw [getM_b hg, hq, hk]; rfl
theorem gb_q1 (hg : getc σ = (c, σ1)) (hq : σ.q = true) (hk : clOf c = .nl) : getM (n + 1) note σ tk ty esc = some (.syn, σ1) := by
  rw [getM_b hg, hq, hk]; rfl
theorem getFin4 : getFin σ tk 4 esc = some (.tok 4 tk esc none, σ) := by
  unfold getFin
  split
  · exact if_neg (by simp)
  · rfl
theorem gb_q2 (hg : getc σ = (c, σ1)) (hq : σ.q = true) (hk : clOf c = .dq) : getM (n + 1) note σ tk 4 esc = some (.tok 4 tk esc none, { σ1 with uc := some c }) := by
  rw [getM_b hg, hq, hk]
  show (if (tk == Str.ofString "") = true then (if (4 : Int) ≠ 4 then _ else getFin { σ1 with uc := some c } tk 4 esc) else getFin { σ1 with uc := some c } tk 4 esc) = _
  rw [getFin4]
  split
  · exact if_neg (by simp)
  · rfl
theorem gb_q3 (hg : getc σ = (c, σ1)) (hq : σ.q = true) (hk : clOf c ≠ .nil ∧ clOf c ≠ .dq ∧ clOf c ≠ .nl ∧ clOf c ≠ .bs) (hl : tk.length ≤ 5000 ∧ c.length ≤ 5000) : getM (n + 1) note σ tk ty esc = getM n note σ1 (tk ++ c) ty esc := by
  rw [getM_b hg, hq]
  obtain ⟨h1, h2, h3, h4⟩ := hk
  cases e : clOf c <;> first | exact absurd e h1 | exact absurd e h2 | exact absurd e h3 | exact absurd e h4 | exact if_pos hl
theorem gb_nil (hg : getc σ = (c, σ1)) (hq : σ.q = false) (hk : clOf c = .nil) (hc : c = Str.ofString "") : getM (n + 1) note σ (Str.ofString "") 3 false = if σ1.ml ≠ 0 then some (.syn, σ1) else some (.tok 0 (Str.ofString "") false none, σ1) := by
  rw [getM_b hg, hq, hk]
  subst hc
  rfl
theorem gb_nl (hg : getc σ = (c, σ1)) (hq : σ.q = false) (hk : clOf c = .nl) : getM (n + 1) note σ (Str.ofString "") 3 false = some (.tok 1 (Str.ofString "\n") false none, σ1) := by
  rw [getM_b hg, hq, hk]; rfl
theorem gb_lp {sk : Int} (hg : getc σ = (c, σ1)) (hq : σ.q = false) (hk : clOf c = .lp) (e : skipM 3000 { σ1 with ml := σ.ml + 1 } 0 = some (sk, σ2)) : getM (n + 1) note σ (Str.ofString "") 3 false = getM n note σ2 (Str.ofString "") 3 false := by
  rw [getM_b hg, hq, hk]
  show (match skipM 3000 { σ1 with ml := σ.ml + 1 } 0 with | none => none | some (_, σ2) => getM n note σ2 (Str.ofString "") 3 false) = _
  rw [e]
theorem gb_rp0 (hg : getc σ = (c, σ1)) (hq : σ.q = false) (hk : clOf c = .rp) (h : σ.ml ≤ 0) : getM (n + 1) note σ (Str.ofString "") 3 false = some (.syn, σ1) := by
  rw [getM_b hg, hq, hk]
  exact if_pos h
theorem gb_rp1 {sk : Int} (hg : getc σ = (c, σ1)) (hq : σ.q = false) (hk : clOf c = .rp) (h : ¬ σ.ml ≤ 0) (e : skipM 3000 { σ1 with ml := σ.ml + -1 } 0 = some (sk, σ2)) : getM (n + 1) note σ (Str.ofString "") 3 false = getM n note σ2 (Str.ofString "") 3 false := by
  rw [getM_b hg, hq, hk]
  show (if σ.ml ≤ 0 then _ else (match skipM 3000 { σ1 with ml := σ.ml - 1 } 0 with | none => none | some (_, σ2) => getM n note σ2 (Str.ofString "") 3 false)) = _
  rw [if_neg h, show σ.ml - 1 = σ.ml + -1 from rfl, e]
theorem gb_dq (hg : getc σ = (c, σ1)) (hq : σ.q = false) (hk : clOf c = .dq) : getM (n + 1) note σ (Str.ofString "") 3 false = getM n note { σ1 with q := true } (Str.ofString "") 4 false := by
  rw [getM_b hg, hq, hk]; rfl
theorem gb_sc {v : Str} (hg : getc σ = (c, σ1)) (hq : σ.q = false) (hk : clOf c = .sc) (e : noteM 3000 σ1 (Str.ofString "") = some (v, c2, σ2)) : getM (n + 1) note σ (Str.ofString "") 3 false =
    (if note = true then some (.tok 5 v false none, { σ2 with uc := some c2 })
    else if (c2 == Str.ofString "") = true then (if σ.ml ≠ 0 then some (.syn, σ2) else some (.tok 0 (Str.ofString "") false (some v), σ2))
    else if σ.ml ≠ 0 then (match skipM 3000 σ2 0 with | none => none | some (_, σ3) => getM n note σ3 (Str.ofString "") 3 false)
    else some (.tok 1 (Str.ofString "\n") false (some v), σ2)) := by
  rw [getM_b hg, hq, hk]
  show (match noteM 3000 σ1 (Str.ofString "") with | none => none | some (v, c2, σ2) => _) = _
  rw [e]
end
end Mine
end

section
open PySem PySem.W PySem.Calls PyProof.Rows
set_option genInjectivity false
set_option genSizeOf false
namespace Mine
section
variable {prog : Program} {w : World} {A : Around} {E : Value → Shared → Prop}
variable {nm q : Str} {C N : Addr} {bs bm bmB : List Value} {hdct : Bool} {sn : List Str} {sub : List Value} {ab : Bool} {col : Option Bool} {dd : Option Addr} {k0 k1 k2 k3 k5 : Option Value} {B newId initId : String} {h : Heap} {g : Array GenState} {d : Drawn} {t : Nat} {os : OsState}

theorem issub_nested_ref {k : Value} {dep : Int} {tk : Tok} {Q : Fin → Shared → Prop} (hk : k = .int dep tk)
    (hC : h.get? C = some (excClassObj nm q C N bs bm hdct sn sub ab col dd k0 k1 k2 k3 k5 newId)) (hq : Q (.done (.ret (.bool true))) ⟨h, g, d, t, os⟩) :
    wpAny (model prog w) A (Builtin.«issubclass.nested» ⟨[.ref C, .ref C, k], []⟩) Q E ⟨h, g, d, t, os⟩ := by
  subst hk
  have hcC : (Value.ref C :: bm).contains (.ref C) = true := by simp
  have hT : (⟨h, g, d, t, os⟩ : Shared).TypeIs (.ref C) "type" := ⟨_, hC, rfl⟩
  repeat (any_goals (first | assumption | with_reducible refine wpAny_loadPart_at hC ?_ | (with_reducible refine wpAny_isSubtype_exc hC ?_; rw [hcC]) | wp_step))

theorem isType_exc {M : Model} {Q : Bool → Shared → Prop} (hC : h.get? C = some (excClassObj nm q C N bs bm hdct sn sub ab col dd k0 k1 k2 k3 k5 newId)) (hq : Q true ⟨h, g, d, t, os⟩) :
    wpAny M A (isType (.ref C)) Q E ⟨h, g, d, t, os⟩ := by
  unfold isType
  repeat (first | with_reducible refine wpAny_loadPart_at hC ?_ | wp_step)
  exact hq

theorem issub_ref : Meets (Builtin.«issubclass» ⟨[.ref C, .ref C], []⟩) (fun _ R s => s.heap.get? C = some (excClassObj nm q C N bs bm hdct sn sub ab col dd k0 k1 k2 k3 k5 newId) ∧ R (.ok (.ret (.bool true))) s) :=
  fun _ _ _ _ s hs => issubclass_outer (by
    obtain ⟨hp, g, d, t, os⟩ := s
    exact issub_nested_ref rfl hs.1 hs.2)

theorem Raise_classO {s : Shared} {h₀ : Heap} {L a : Addr} {m mg : Str → Option Value} {name x : Str} {scope : Scope} {cd : Value} {np pos : Pos} {Q : Flow → Shared → Prop}
    (F : Fr h₀ L s.heap m) (hg : h₀.Ns mainGlobals mg) (O : OwnCls x C bmB newId mg h₀) (FB : ExcBaseFacts B newId initId bmB) (hh : A.handled = none)
    (h : ∀ h' e, Heap.MadeExcOf s.heap h' e (.ref C) [] → E (.ref e) { s with heap := h' })
    (hk : scope.kind = .function) (hx : (envOf name scope L a cd).kindOf x = some .globalImplicit) (hd : (x == ("__debug__" : Str)) = false) :
    wpAny (model prog w) A (exec (.Raise (some (.Name x np)) none pos) (envOf name scope L a cd)) Q E s := by
  obtain ⟨tl, N, nm, q, bs, hdct, sn, sub, ab, col, dd, k0, k1, k2, k3, k5, mN, hC, hN, hni, T⟩ := O.obj
  have hC' := F.keep _ _ hC
  have hN' := hN.keeps F.keep
  have T' := T.keeps F.keep
  have hcB : (Value.ref C :: tl).contains (.type "BaseException") = true := by rw [List.contains_cons, T.hasType FB.hasBase, Bool.or_true]
  show wpAny (model prog w) A (do standAt pos; raiseStmt (envOf name scope L a cd) (some (do let v ← eval (.Name x np) (envOf name scope L a cd); standAt pos; pure v)) none) Q E s
  refine wpAny_bind (wpAny_standAt ?_)
  unfold raiseStmt
  dsimp only
  refine wpAny_bind (wpAny_bind (ld_own F hg O ?_ hk hx hd))
  refine wpAny_bind (wpAny_standAt (wpAny_pure ?_))
  refine wpAny_bind (wpAny_pure ?_)
  dsimp only
  refine wpAny_bind (wpAny_holding ?_)
  unfold excFromValue isExcClass
  obtain ⟨hp, g, d, tk, os⟩ := s
  dsimp only at F hC' hN' T' h
  refine wpAny_bind (wpAny_bind (isType_exc hC' ?_))
  simp only [if_true]
  refine wpAny_isSubtype_exc hC' ?_
  rw [hcB]
  simp only [if_true]
  refine wpAny_bind (wpAny_call_exc_subT (hrest := Nat.zero_le _) FB T' hC' hN' hni fun h' e hm => ?_)
  obtain ⟨t, he, ht, hts⟩ := hm.there
  have hC₂ := hm.keeps _ _ hC'
  have hT : (⟨h', g, d, tk, os⟩ : Shared).TypeIs (.ref C) "type" := ⟨_, hC₂, rfl⟩
  have hcC : (Value.ref C :: tl).contains (.ref C) = true := by simp
  unfold isInstance
  refine wpAny_bind (wpAny_bind (wpAny_bind (wpAny_loadPart_at he (wpAny_pure ?_))))
  refine wpAny_isSubtype_exc hC₂ ?_
  rw [hcB]
  simp only [Bool.not_true, Bool.false_eq_true, if_false]
  refine wpAny_pure (wpAny_bind (isType_exc hC₂ ?_))
  simp only [if_true]
  refine wpAny_bind (wpAny_holding ?_)
  unfold raisedFor
  simp only [Bool.false_eq_true, if_false]
  refine wpAny_bind (wpAny_bind (wpAny_bind (wpAny_loadPart_at he (wpAny_pure ?_))))
  refine wpAny_pure (wpAny_bind (call_issubclass issub_ref ⟨hC₂, ?_⟩))
  refine wpAny_bind (wpAny_truthy_bool ?_)
  simp only [if_true]
  refine wpAny_pure ?_
  unfold setFlight raiseNew
  refine wpAny_bind (wpAny_bind (wpAny_field (i := 1) (x := Value.none) he rfl rfl ?_))
  rw [if_neg (by decide)]
  refine wpAny_pure (wpAny_bind (wpAny_handled ?_))
  rw [hh]
  first
    | exact wpAny_throw (h h' e hm)
    | exact wpAny_bind (wpAny_pure (wpAny_throw (h h' e hm)))
end
end Mine
end

section
open PySem PySem.W PySem.Calls PyProof.Rows
set_option genInjectivity false
set_option genSizeOf false
namespace Mine
set_option maxHeartbeats 8000000 in
theorem fill : PySem.Challenge.rw_jf0021_01 = PySem.Challenge.rw_jf0021_01 ∧ Mine.hd.heap_1 = Mine.hd.heap_1 := by
  k_fill
  exact ⟨rfl, rfl⟩

noncomputable abbrev ent (w : World) (x : String) (k : Tok) (v : Value) : DictEntry := ⟨PyData.keyHash w.params (Str.ofString x), .str (Str.ofString x) k, v⟩
/-- the tokenizer and its text, written out -/
noncomputable abbrev tokLed (w : World) (T D FA FD : Addr) (k0 k1 k2 k3 k4 k5 k6 k7 k8 k9 f0 f1 : Tok) (uc ut ml : Value) (q e a : Bool) (dl ln fn tx at_ : Value) : List (Addr × Obj) :=
  [(T, instObj 451 D),
   (D, dictOf [ent w "file" k0 (.ref FA), ent w "ungotten_char" k1 uc, ent w "ungotten_token" k2 ut, ent w "multiline" k3 ml, ent w "quoting" k4 (.bool q), ent w "eof" k5 (.bool e), ent w "after_cr" k6 (.bool a), ent w "delimiters" k7 dl, ent w "line_number" k8 ln, ent w "filename" k9 fn] 10),
   (FA, instObj 84 FD),
   (FD, dictOf [ent w "text" f0 tx, ent w "at" f1 at_] 2)]

namespace getc_some_
noncomputable abbrev VV := (World) × (ExcName → Option Value) × (Str → Option Value) × (Str → Option Value) × (Nat) × (Nat) × (Nat) × (Nat) × (Tok) × (Tok) × (Tok) × (Tok) × (Tok) × (Tok) × (Tok) × (Tok) × (Tok) × (Tok) × (Tok) × (Tok) × (Str) × (Tok) × (Value) × (Value) × (Bool) × (Bool) × (Bool) × (Value) × (Value) × (Value) × (Value) × (Value) × (List Env) × (Heap) × (Heap) × (Shared) × (Value → Shared → Prop) × (Value → Shared → Prop)
noncomputable def SS (w : World) (mean : ExcName → Option Value) (mg : Str → Option Value) (mb : Str → Option Value) (T : Nat) (D : Nat) (FA : Nat) (FD : Nat) (k0 : Tok) (k1 : Tok) (k2 : Tok) (k3 : Tok) (k4 : Tok) (k5 : Tok) (k6 : Tok) (k7 : Tok) (k8 : Tok) (k9 : Tok) (f0 : Tok) (f1 : Tok) (c : Str) (tc : Tok) (ut : Value) (ml : Value) (q : Bool) (e : Bool) (a : Bool) (dl : Value) (ln : Value) (fn : Value) (tx : Value) (at_ : Value) (outer : List Env) (base : Heap) (g : Heap) (s : Shared) (Q : Value → Shared → Prop) (E : Value → Shared → Prop) : Prop := (D < T) → (T < FD) → (FD < FA) → Con1 w mean mg mb 700 (.ref 235) [.ref T] (tokLed w T D FA FD k0 k1 k2 k3 k4 k5 k6 k7 k8 k9 f0 f1 (.str c tc) ut ml q e a dl ln fn tx at_) (fun _ => True)
      (fun _ v led' => v = .str c tc ∧ led' = tokLed w T D FA FD k0 k1 k2 k3 k4 k5 k6 k7 k8 k9 f0 f1 .none ut ml q e a dl ln fn tx at_) outer base g s Q E
noncomputable def PP (v : VV) : Prop := SS v.1 v.2.1 v.2.2.1 v.2.2.2.1 v.2.2.2.2.1 v.2.2.2.2.2.1 v.2.2.2.2.2.2.1 v.2.2.2.2.2.2.2.1 v.2.2.2.2.2.2.2.2.1 v.2.2.2.2.2.2.2.2.2.1 v.2.2.2.2.2.2.2.2.2.2.1 v.2.2.2.2.2.2.2.2.2.2.2.1 v.2.2.2.2.2.2.2.2.2.2.2.2.1 v.2.2.2.2.2.2.2.2.2.2.2.2.2.1 v.2.2.2.2.2.2.2.2.2.2.2.2.2.2.1 v.2.2.2.2.2.2.2.2.2.2.2.2.2.2.2.1 v.2.2.2.2.2.2.2.2.2.2.2.2.2.2.2.2.1 v.2.2.2.2.2.2.2.2.2.2.2.2.2.2.2.2.2.1 v.2.2.2.2.2.2.2.2.2.2.2.2.2.2.2.2.2.2.1 v.2.2.2.2.2.2.2.2.2.2.2.2.2.2.2.2.2.2.2.1 v.2.2.2.2.2.2.2.2.2.2.2.2.2.2.2.2.2.2.2.2.1 v.2.2.2.2.2.2.2.2.2.2.2.2.2.2.2.2.2.2.2.2.2.1 v.2.2.2.2.2.2.2.2.2.2.2.2.2.2.2.2.2.2.2.2.2.2.1 v.2.2.2.2.2.2.2.2.2.2.2.2.2.2.2.2.2.2.2.2.2.2.2.1 v.2.2.2.2.2.2.2.2.2.2.2.2.2.2.2.2.2.2.2.2.2.2.2.2.1 v.2.2.2.2.2.2.2.2.2.2.2.2.2.2.2.2.2.2.2.2.2.2.2.2.2.1 v.2.2.2.2.2.2.2.2.2.2.2.2.2.2.2.2.2.2.2.2.2.2.2.2.2.2.1 v.2.2.2.2.2.2.2.2.2.2.2.2.2.2.2.2.2.2.2.2.2.2.2.2.2.2.2.1 v.2.2.2.2.2.2.2.2.2.2.2.2.2.2.2.2.2.2.2.2.2.2.2.2.2.2.2.2.1 v.2.2.2.2.2.2.2.2.2.2.2.2.2.2.2.2.2.2.2.2.2.2.2.2.2.2.2.2.2.1 v.2.2.2.2.2.2.2.2.2.2.2.2.2.2.2.2.2.2.2.2.2.2.2.2.2.2.2.2.2.2.1 v.2.2.2.2.2.2.2.2.2.2.2.2.2.2.2.2.2.2.2.2.2.2.2.2.2.2.2.2.2.2.2.1 v.2.2.2.2.2.2.2.2.2.2.2.2.2.2.2.2.2.2.2.2.2.2.2.2.2.2.2.2.2.2.2.2.1 v.2.2.2.2.2.2.2.2.2.2.2.2.2.2.2.2.2.2.2.2.2.2.2.2.2.2.2.2.2.2.2.2.2.1 v.2.2.2.2.2.2.2.2.2.2.2.2.2.2.2.2.2.2.2.2.2.2.2.2.2.2.2.2.2.2.2.2.2.2.1 v.2.2.2.2.2.2.2.2.2.2.2.2.2.2.2.2.2.2.2.2.2.2.2.2.2.2.2.2.2.2.2.2.2.2.2.1 v.2.2.2.2.2.2.2.2.2.2.2.2.2.2.2.2.2.2.2.2.2.2.2.2.2.2.2.2.2.2.2.2.2.2.2.2.1 v.2.2.2.2.2.2.2.2.2.2.2.2.2.2.2.2.2.2.2.2.2.2.2.2.2.2.2.2.2.2.2.2.2.2.2.2.2
theorem NN : Nonempty VV := ⟨(aWorld 0, fun _ => none, fun _ => none, fun _ => none, 0, 0, 0, 0, 0, 0, 0, 0, 0, 0, 0, 0, 0, 0, 0, 0, default, 0, default, default, false, false, false, default, default, default, default, default, [], default, default, ⟨default, #[], boot_drawn, 0, default⟩, fun _ _ => True, fun _ _ => True)⟩
@[irreducible] noncomputable def CC : VV := bad NN PP
@[irreducible] noncomputable def w : World := CC.1
@[irreducible] noncomputable def mean : ExcName → Option Value := CC.2.1
@[irreducible] noncomputable def mg : Str → Option Value := CC.2.2.1
@[irreducible] noncomputable def mb : Str → Option Value := CC.2.2.2.1
@[irreducible] noncomputable def T : Nat := CC.2.2.2.2.1
@[irreducible] noncomputable def D : Nat := CC.2.2.2.2.2.1
@[irreducible] noncomputable def FA : Nat := CC.2.2.2.2.2.2.1
@[irreducible] noncomputable def FD : Nat := CC.2.2.2.2.2.2.2.1
@[irreducible] noncomputable def k0 : Tok := CC.2.2.2.2.2.2.2.2.1
@[irreducible] noncomputable def k1 : Tok := CC.2.2.2.2.2.2.2.2.2.1
@[irreducible] noncomputable def k2 : Tok := CC.2.2.2.2.2.2.2.2.2.2.1
@[irreducible] noncomputable def k3 : Tok := CC.2.2.2.2.2.2.2.2.2.2.2.1
@[irreducible] noncomputable def k4 : Tok := CC.2.2.2.2.2.2.2.2.2.2.2.2.1
@[irreducible] noncomputable def k5 : Tok := CC.2.2.2.2.2.2.2.2.2.2.2.2.2.1
@[irreducible] noncomputable def k6 : Tok := CC.2.2.2.2.2.2.2.2.2.2.2.2.2.2.1
@[irreducible] noncomputable def k7 : Tok := CC.2.2.2.2.2.2.2.2.2.2.2.2.2.2.2.1
@[irreducible] noncomputable def k8 : Tok := CC.2.2.2.2.2.2.2.2.2.2.2.2.2.2.2.2.1
@[irreducible] noncomputable def k9 : Tok := CC.2.2.2.2.2.2.2.2.2.2.2.2.2.2.2.2.2.1
@[irreducible] noncomputable def f0 : Tok := CC.2.2.2.2.2.2.2.2.2.2.2.2.2.2.2.2.2.2.1
@[irreducible] noncomputable def f1 : Tok := CC.2.2.2.2.2.2.2.2.2.2.2.2.2.2.2.2.2.2.2.1
@[irreducible] noncomputable def c : Str := CC.2.2.2.2.2.2.2.2.2.2.2.2.2.2.2.2.2.2.2.2.1
@[irreducible] noncomputable def tc : Tok := CC.2.2.2.2.2.2.2.2.2.2.2.2.2.2.2.2.2.2.2.2.2.1
@[irreducible] noncomputable def ut : Value := CC.2.2.2.2.2.2.2.2.2.2.2.2.2.2.2.2.2.2.2.2.2.2.1
@[irreducible] noncomputable def ml : Value := CC.2.2.2.2.2.2.2.2.2.2.2.2.2.2.2.2.2.2.2.2.2.2.2.1
@[irreducible] noncomputable def q : Bool := CC.2.2.2.2.2.2.2.2.2.2.2.2.2.2.2.2.2.2.2.2.2.2.2.2.1
@[irreducible] noncomputable def e : Bool := CC.2.2.2.2.2.2.2.2.2.2.2.2.2.2.2.2.2.2.2.2.2.2.2.2.2.1
@[irreducible] noncomputable def a : Bool := CC.2.2.2.2.2.2.2.2.2.2.2.2.2.2.2.2.2.2.2.2.2.2.2.2.2.2.1
@[irreducible] noncomputable def dl : Value := CC.2.2.2.2.2.2.2.2.2.2.2.2.2.2.2.2.2.2.2.2.2.2.2.2.2.2.2.1
@[irreducible] noncomputable def ln : Value := CC.2.2.2.2.2.2.2.2.2.2.2.2.2.2.2.2.2.2.2.2.2.2.2.2.2.2.2.2.1
@[irreducible] noncomputable def fn : Value := CC.2.2.2.2.2.2.2.2.2.2.2.2.2.2.2.2.2.2.2.2.2.2.2.2.2.2.2.2.2.1
@[irreducible] noncomputable def tx : Value := CC.2.2.2.2.2.2.2.2.2.2.2.2.2.2.2.2.2.2.2.2.2.2.2.2.2.2.2.2.2.2.1
@[irreducible] noncomputable def at_ : Value := CC.2.2.2.2.2.2.2.2.2.2.2.2.2.2.2.2.2.2.2.2.2.2.2.2.2.2.2.2.2.2.2.1
@[irreducible] noncomputable def outer : List Env := CC.2.2.2.2.2.2.2.2.2.2.2.2.2.2.2.2.2.2.2.2.2.2.2.2.2.2.2.2.2.2.2.2.1
@[irreducible] noncomputable def base : Heap := CC.2.2.2.2.2.2.2.2.2.2.2.2.2.2.2.2.2.2.2.2.2.2.2.2.2.2.2.2.2.2.2.2.2.1
@[irreducible] noncomputable def g : Heap := CC.2.2.2.2.2.2.2.2.2.2.2.2.2.2.2.2.2.2.2.2.2.2.2.2.2.2.2.2.2.2.2.2.2.2.1
@[irreducible] noncomputable def s : Shared := CC.2.2.2.2.2.2.2.2.2.2.2.2.2.2.2.2.2.2.2.2.2.2.2.2.2.2.2.2.2.2.2.2.2.2.2.1
@[irreducible] noncomputable def Q : Value → Shared → Prop := CC.2.2.2.2.2.2.2.2.2.2.2.2.2.2.2.2.2.2.2.2.2.2.2.2.2.2.2.2.2.2.2.2.2.2.2.2.1
@[irreducible] noncomputable def E : Value → Shared → Prop := CC.2.2.2.2.2.2.2.2.2.2.2.2.2.2.2.2.2.2.2.2.2.2.2.2.2.2.2.2.2.2.2.2.2.2.2.2.2
set_option maxHeartbeats 8000000 in
theorem core : SS w mean mg mb T D FA FD k0 k1 k2 k3 k4 k5 k6 k7 k8 k9 f0 f1 c tc ut ml q e a dl ln fn tx at_ outer base g s Q E := by
  intro hn1 hn2 hn3 H _ hret
  (refine wpAny_call ?_; k_dflt (refine' con_enter0 ?kH ?k1 ?k2 ?k3 ?k4 ?k5 ?_ ?c1 ?c2 ?c3 ?c4; (case kH => with_reducible assumption); (case k1 => k_is); (case k2 => k_is); (case k3 => k_room); (case k4 => first | exact BindsTo.of_eq rfl | exact binds_K (H.k.keeps H.st) rfl (by k_is) rfl rfl rfl); (case k5 => exact locs rfl); (case c1 => exact rfl); (case c2 => exact rfl); (case c3 => exact rfl); (case c4 => decide); intro h' tk' F' N' B' X' T' hz' hl'; (try dsimp only)))
  k_steps
  all_goals ((repeat (first | (with_reducible show Mine.Fw _ _ _ _; constructor) | k_unfold | (dsimp only [WPost]) | dsimp only)); refine' con_ret hret ?kF ?kN ?kz ?kr ?kg ?kd ?ko; (case kg => exact rfl); (case kd => exact rfl); (case ko => exact rfl); (case kF => with_reducible assumption); (case kN => with_reducible assumption); (case kz => with_reducible assumption); (case kr => exact ⟨rfl, rfl⟩))
theorem over (v : VV) : PP v := by
  with_unfolding_all exact bad_all (hn := NN) (P := PP) core v
end getc_some_
theorem getc_some {w : World} {mean : ExcName → Option Value} {mg mb : Str → Option Value} {T D FA FD : Nat} {k0 k1 k2 k3 k4 k5 k6 k7 k8 k9 f0 f1 : Tok} {c : Str} {tc : Tok} {ut ml : Value} {q e a : Bool} {dl ln fn tx at_ : Value}
   (hn1 : D < T) (hn2 : T < FD) (hn3 : FD < FA) :
    Con w mean mg mb 700 (.ref 235) [.ref T] (tokLed w T D FA FD k0 k1 k2 k3 k4 k5 k6 k7 k8 k9 f0 f1 (.str c tc) ut ml q e a dl ln fn tx at_) (fun _ => True)
      (fun _ v led' => v = .str c tc ∧ led' = tokLed w T D FA FD k0 k1 k2 k3 k4 k5 k6 k7 k8 k9 f0 f1 .none ut ml q e a dl ln fn tx at_) := fun outer base g s Q E => getc_some_.over (w, mean, mg, mb, T, D, FA, FD, k0, k1, k2, k3, k4, k5, k6, k7, k8, k9, f0, f1, c, tc, ut, ml, q, e, a, dl, ln, fn, tx, at_, outer, base, g, s, Q, E) hn1 hn2 hn3
section
variable {tx : Str} {k k' : Int} {q a : Bool} {ml n : Int} {c : Str} {x : Str × TS}
theorem ge1 (h : x = getcEnd ⟨tx, k, none, q, false, a, ml, n⟩ c k' false) (hb : (c == Str.ofString "\r" && !q) = true) : x = (Str.ofString "\n", ⟨tx, k', none, q, false, true, ml, n + 1⟩) := by
  obtain ⟨h1, h2⟩ := Bool.and_eq_true_iff.mp hb
  rw [h, getcEnd, if_pos ⟨h1, by simpa using h2⟩]
theorem ge2 (h : x = getcEnd ⟨tx, k, none, q, false, a, ml, n⟩ c k' false) (hb : (c == Str.ofString "\r" && !q) = false) (h1 : (c == Str.ofString "") = true) : x = (c, ⟨tx, k', none, q, true, false, ml, n⟩) := by
  rw [h, getcEnd, if_neg (fun e => by rw [e.1, show q = false from e.2] at hb; cases hb), if_pos h1]
theorem ge3 (h : x = getcEnd ⟨tx, k, none, q, false, a, ml, n⟩ c k' false) (hb : (c == Str.ofString "\r" && !q) = false) (h1 : (c == Str.ofString "") = false) (h2 : (c == Str.ofString "\n") = true) : x = (c, ⟨tx, k', none, q, false, false, ml, n + 1⟩) := by
  rw [h, getcEnd, if_neg (fun e => by rw [e.1, show q = false from e.2] at hb; cases hb), h1, if_neg (by decide), if_pos h2]
theorem ge4 (h : x = getcEnd ⟨tx, k, none, q, false, a, ml, n⟩ c k' false) (hb : (c == Str.ofString "\r" && !q) = false) (h1 : (c == Str.ofString "") = false) (h2 : (c == Str.ofString "\n") = false) : x = (c, ⟨tx, k', none, q, false, false, ml, n⟩) := by
  rw [h, getcEnd, if_neg (fun e => by rw [e.1, show q = false from e.2] at hb; cases hb), h1, if_neg (by decide), h2, if_neg (by decide)]
end
noncomputable def GcR (w : World) (T D FA FD : Nat) (k0 k1 k2 k3 k4 k5 k6 k7 k8 k9 f0 f1 : Tok) (ut : Value) (q : Bool) (dl fn : Value) (tml ttx : Tok) (ml : Int) (tx : Str) (x : Str × TS) (v : Value) (led' : List (Addr × Obj)) : Prop :=
  ∃ c tc k' e' a' n' tln' tat', x = (c, ⟨tx, k', none, q, e', a', ml, n'⟩) ∧ v = .str c tc ∧ led' = tokLed w T D FA FD k0 k1 k2 k3 k4 k5 k6 k7 k8 k9 f0 f1 .none ut (.int ml tml) q e' a' dl (.int n' tln') fn (.str tx ttx) (.int k' tat')
theorem gcR_of {w : World} {T D FA FD : Nat} {k0 k1 k2 k3 k4 k5 k6 k7 k8 k9 f0 f1 : Tok} {ut : Value} {q : Bool} {dl fn : Value} {tml ttx : Tok} {ml : Int} {tx : Str} {x : Str × TS} {c : Str} {tc tln' tat' : Tok} {k' n' : Int} {e' a' : Bool}
    (h : x = (c, ⟨tx, k', none, q, e', a', ml, n'⟩)) : GcR w T D FA FD k0 k1 k2 k3 k4 k5 k6 k7 k8 k9 f0 f1 ut q dl fn tml ttx ml tx x (.str c tc) (tokLed w T D FA FD k0 k1 k2 k3 k4 k5 k6 k7 k8 k9 f0 f1 .none ut (.int ml tml) q e' a' dl (.int n' tln') fn (.str tx ttx) (.int k' tat')) :=
  ⟨c, tc, k', e', a', n', tln', tat', h, rfl, rfl⟩
/-- behind the test of after_cr -/
noncomputable def GcJ (w : World) (g : Heap) (L' : Addr) (s : Shared) (T D FA FD : Nat) (k0 k1 k2 k3 k4 k5 k6 k7 k8 k9 f0 f1 : Tok) (ut : Value) (q a : Bool) (dl fn : Value) (tml tln ttx : Tok) (ml n : Int) (tx : Str) (k : Int) (s' : Shared) : Prop :=
  ∃ c tc k' tat', GetC g L' s [(Str.ofString "self", .ref T), (Str.ofString "c", .str c tc)] (tokLed w T D FA FD k0 k1 k2 k3 k4 k5 k6 k7 k8 k9 f0 f1 .none ut (.int ml tml) q false false dl (.int n tln) fn (.str tx ttx) (.int k' tat')) s' ∧ getc ⟨tx, k, none, q, false, a, ml, n⟩ = getcEnd ⟨tx, k, none, q, false, a, ml, n⟩ c k' false
theorem gcJ_of {w : World} {g : Heap} {L' : Addr} {s : Shared} {T D FA FD : Nat} {k0 k1 k2 k3 k4 k5 k6 k7 k8 k9 f0 f1 : Tok} {ut : Value} {q a : Bool} {dl fn : Value} {tml tln ttx : Tok} {ml n : Int} {tx : Str} {k : Int} {h' : Heap} {m : Str → Option Value} {tk : Nat} {ga dr os} {c : Str} {tc tat' : Tok} {k' : Int}
    (F : Fr g L' h' m) (N : News g L' h' (tokLed w T D FA FD k0 k1 k2 k3 k4 k5 k6 k7 k8 k9 f0 f1 .none ut (.int ml tml) q false false dl (.int n tln) fn (.str tx ttx) (.int k' tat')))
    (e1 : m (Str.ofString "self") = some (.ref T)) (e2 : m (Str.ofString "c") = some (.str c tc)) (hg : getc ⟨tx, k, none, q, false, a, ml, n⟩ = getcEnd ⟨tx, k, none, q, false, a, ml, n⟩ c k' false) (eg : ga = s.gens) (ed : dr = s.drawn) (eo : os = s.os) :
    GcJ w g L' s T D FA FD k0 k1 k2 k3 k4 k5 k6 k7 k8 k9 f0 f1 ut q a dl fn tml tln ttx ml n tx k ⟨h', ga, dr, tk, os⟩ :=
  ⟨c, tc, k', tat', getC_of F N (fun _ h => h) (fc e1 (fc e2 fz)) eg ed eo, hg⟩
theorem gj0 {tx : Str} {k : Int} {q : Bool} {ml n : Int} : getc ⟨tx, k, none, q, false, false, ml, n⟩ = getcEnd ⟨tx, k, none, q, false, false, ml, n⟩ (sl tx k) (k + (sl tx k).length) false := by
  simp [getc]
theorem gj1 {tx : Str} {k : Int} {q : Bool} {ml n : Int} (hb : (sl tx k == Str.ofString "\n") = true) : getc ⟨tx, k, none, q, false, true, ml, n⟩ = getcEnd ⟨tx, k, none, q, false, true, ml, n⟩ (sl tx (k + (sl tx k).length)) (k + (sl tx k).length + (sl tx (k + (sl tx k).length)).length) false := by
  unfold getc
  simp only [Bool.false_eq_true, if_false, if_true]
  rw [if_pos hb]
theorem gj2 {tx : Str} {k : Int} {q : Bool} {ml n : Int} (hb : (sl tx k == Str.ofString "\n") = false) : getc ⟨tx, k, none, q, false, true, ml, n⟩ = getcEnd ⟨tx, k, none, q, false, true, ml, n⟩ (sl tx k) (k + (sl tx k).length) false := by
  unfold getc
  simp only [Bool.false_eq_true, if_false, if_true]
  rw [if_neg (by rw [hb]; decide)]
section
local macro_rules | `(tactic| walk_at "execs cons") => `(tactic| refine stop_att ?_)
local macro_rules | `(tactic| walk_at $k) => if ["exec If", "ite"].contains k.getString then `(tactic| refine Mine.stop_of ?_) else Lean.Macro.throwUnsupported
namespace getc_none_
noncomputable abbrev VV := (World) × (ExcName → Option Value) × (Str → Option Value) × (Str → Option Value) × (Nat) × (Nat) × (Nat) × (Nat) × (Tok) × (Tok) × (Tok) × (Tok) × (Tok) × (Tok) × (Tok) × (Tok) × (Tok) × (Tok) × (Tok) × (Tok) × (Value) × (Bool) × (Value) × (Value) × (Tok) × (Tok) × (Tok) × (Tok) × (Int) × (Int) × (Str) × (Int) × (List Env) × (Heap) × (Heap) × (Shared) × (Value → Shared → Prop) × (Value → Shared → Prop)
noncomputable def SS (w : World) (mean : ExcName → Option Value) (mg : Str → Option Value) (mb : Str → Option Value) (T : Nat) (D : Nat) (FA : Nat) (FD : Nat) (k0 : Tok) (k1 : Tok) (k2 : Tok) (k3 : Tok) (k4 : Tok) (k5 : Tok) (k6 : Tok) (k7 : Tok) (k8 : Tok) (k9 : Tok) (f0 : Tok) (f1 : Tok) (ut : Value) (q : Bool) (dl : Value) (fn : Value) (tml : Tok) (tln : Tok) (ttx : Tok) (tat : Tok) (ml : Int) (n : Int) (tx : Str) (k : Int) (outer : List Env) (base : Heap) (g : Heap) (s : Shared) (Q : Value → Shared → Prop) (E : Value → Shared → Prop) : Prop := ∀ (e : Bool), ∀ (a : Bool), (D < T) → (T < FD) → (FD < FA) → (Ok ⟨tx, k, none, q, e, a, ml, n⟩) → Con1 w mean mg mb 700 (.ref 235) [.ref T] (tokLed w T D FA FD k0 k1 k2 k3 k4 k5 k6 k7 k8 k9 f0 f1 .none ut (.int ml tml) q e a dl (.int n tln) fn (.str tx ttx) (.int k tat)) (fun _ => True)
      (fun _ v led' => GcR w T D FA FD k0 k1 k2 k3 k4 k5 k6 k7 k8 k9 f0 f1 ut q dl fn tml ttx ml tx (getc ⟨tx, k, none, q, e, a, ml, n⟩) v led') outer base g s Q E
noncomputable def PP (v : VV) : Prop := SS v.1 v.2.1 v.2.2.1 v.2.2.2.1 v.2.2.2.2.1 v.2.2.2.2.2.1 v.2.2.2.2.2.2.1 v.2.2.2.2.2.2.2.1 v.2.2.2.2.2.2.2.2.1 v.2.2.2.2.2.2.2.2.2.1 v.2.2.2.2.2.2.2.2.2.2.1 v.2.2.2.2.2.2.2.2.2.2.2.1 v.2.2.2.2.2.2.2.2.2.2.2.2.1 v.2.2.2.2.2.2.2.2.2.2.2.2.2.1 v.2.2.2.2.2.2.2.2.2.2.2.2.2.2.1 v.2.2.2.2.2.2.2.2.2.2.2.2.2.2.2.1 v.2.2.2.2.2.2.2.2.2.2.2.2.2.2.2.2.1 v.2.2.2.2.2.2.2.2.2.2.2.2.2.2.2.2.2.1 v.2.2.2.2.2.2.2.2.2.2.2.2.2.2.2.2.2.2.1 v.2.2.2.2.2.2.2.2.2.2.2.2.2.2.2.2.2.2.2.1 v.2.2.2.2.2.2.2.2.2.2.2.2.2.2.2.2.2.2.2.2.1 v.2.2.2.2.2.2.2.2.2.2.2.2.2.2.2.2.2.2.2.2.2.1 v.2.2.2.2.2.2.2.2.2.2.2.2.2.2.2.2.2.2.2.2.2.2.1 v.2.2.2.2.2.2.2.2.2.2.2.2.2.2.2.2.2.2.2.2.2.2.2.1 v.2.2.2.2.2.2.2.2.2.2.2.2.2.2.2.2.2.2.2.2.2.2.2.2.1 v.2.2.2.2.2.2.2.2.2.2.2.2.2.2.2.2.2.2.2.2.2.2.2.2.2.1 v.2.2.2.2.2.2.2.2.2.2.2.2.2.2.2.2.2.2.2.2.2.2.2.2.2.2.1 v.2.2.2.2.2.2.2.2.2.2.2.2.2.2.2.2.2.2.2.2.2.2.2.2.2.2.2.1 v.2.2.2.2.2.2.2.2.2.2.2.2.2.2.2.2.2.2.2.2.2.2.2.2.2.2.2.2.1 v.2.2.2.2.2.2.2.2.2.2.2.2.2.2.2.2.2.2.2.2.2.2.2.2.2.2.2.2.2.1 v.2.2.2.2.2.2.2.2.2.2.2.2.2.2.2.2.2.2.2.2.2.2.2.2.2.2.2.2.2.2.1 v.2.2.2.2.2.2.2.2.2.2.2.2.2.2.2.2.2.2.2.2.2.2.2.2.2.2.2.2.2.2.2.1 v.2.2.2.2.2.2.2.2.2.2.2.2.2.2.2.2.2.2.2.2.2.2.2.2.2.2.2.2.2.2.2.2.1 v.2.2.2.2.2.2.2.2.2.2.2.2.2.2.2.2.2.2.2.2.2.2.2.2.2.2.2.2.2.2.2.2.2.1 v.2.2.2.2.2.2.2.2.2.2.2.2.2.2.2.2.2.2.2.2.2.2.2.2.2.2.2.2.2.2.2.2.2.2.1 v.2.2.2.2.2.2.2.2.2.2.2.2.2.2.2.2.2.2.2.2.2.2.2.2.2.2.2.2.2.2.2.2.2.2.2.1 v.2.2.2.2.2.2.2.2.2.2.2.2.2.2.2.2.2.2.2.2.2.2.2.2.2.2.2.2.2.2.2.2.2.2.2.2.1 v.2.2.2.2.2.2.2.2.2.2.2.2.2.2.2.2.2.2.2.2.2.2.2.2.2.2.2.2.2.2.2.2.2.2.2.2.2
theorem NN : Nonempty VV := ⟨(aWorld 0, fun _ => none, fun _ => none, fun _ => none, 0, 0, 0, 0, 0, 0, 0, 0, 0, 0, 0, 0, 0, 0, 0, 0, default, false, default, default, 0, 0, 0, 0, 0, 0, default, 0, [], default, default, ⟨default, #[], boot_drawn, 0, default⟩, fun _ _ => True, fun _ _ => True)⟩
@[irreducible] noncomputable def CC : VV := bad NN PP
@[irreducible] noncomputable def w : World := CC.1
@[irreducible] noncomputable def mean : ExcName → Option Value := CC.2.1
@[irreducible] noncomputable def mg : Str → Option Value := CC.2.2.1
@[irreducible] noncomputable def mb : Str → Option Value := CC.2.2.2.1
@[irreducible] noncomputable def T : Nat := CC.2.2.2.2.1
@[irreducible] noncomputable def D : Nat := CC.2.2.2.2.2.1
@[irreducible] noncomputable def FA : Nat := CC.2.2.2.2.2.2.1
@[irreducible] noncomputable def FD : Nat := CC.2.2.2.2.2.2.2.1
@[irreducible] noncomputable def k0 : Tok := CC.2.2.2.2.2.2.2.2.1
@[irreducible] noncomputable def k1 : Tok := CC.2.2.2.2.2.2.2.2.2.1
@[irreducible] noncomputable def k2 : Tok := CC.2.2.2.2.2.2.2.2.2.2.1
@[irreducible] noncomputable def k3 : Tok := CC.2.2.2.2.2.2.2.2.2.2.2.1
@[irreducible] noncomputable def k4 : Tok := CC.2.2.2.2.2.2.2.2.2.2.2.2.1
@[irreducible] noncomputable def k5 : Tok := CC.2.2.2.2.2.2.2.2.2.2.2.2.2.1
@[irreducible] noncomputable def k6 : Tok := CC.2.2.2.2.2.2.2.2.2.2.2.2.2.2.1
@[irreducible] noncomputable def k7 : Tok := CC.2.2.2.2.2.2.2.2.2.2.2.2.2.2.2.1
@[irreducible] noncomputable def k8 : Tok := CC.2.2.2.2.2.2.2.2.2.2.2.2.2.2.2.2.1
@[irreducible] noncomputable def k9 : Tok := CC.2.2.2.2.2.2.2.2.2.2.2.2.2.2.2.2.2.1
@[irreducible] noncomputable def f0 : Tok := CC.2.2.2.2.2.2.2.2.2.2.2.2.2.2.2.2.2.2.1
@[irreducible] noncomputable def f1 : Tok := CC.2.2.2.2.2.2.2.2.2.2.2.2.2.2.2.2.2.2.2.1
@[irreducible] noncomputable def ut : Value := CC.2.2.2.2.2.2.2.2.2.2.2.2.2.2.2.2.2.2.2.2.1
@[irreducible] noncomputable def q : Bool := CC.2.2.2.2.2.2.2.2.2.2.2.2.2.2.2.2.2.2.2.2.2.1
@[irreducible] noncomputable def dl : Value := CC.2.2.2.2.2.2.2.2.2.2.2.2.2.2.2.2.2.2.2.2.2.2.1
@[irreducible] noncomputable def fn : Value := CC.2.2.2.2.2.2.2.2.2.2.2.2.2.2.2.2.2.2.2.2.2.2.2.1
@[irreducible] noncomputable def tml : Tok := CC.2.2.2.2.2.2.2.2.2.2.2.2.2.2.2.2.2.2.2.2.2.2.2.2.1
@[irreducible] noncomputable def tln : Tok := CC.2.2.2.2.2.2.2.2.2.2.2.2.2.2.2.2.2.2.2.2.2.2.2.2.2.1
@[irreducible] noncomputable def ttx : Tok := CC.2.2.2.2.2.2.2.2.2.2.2.2.2.2.2.2.2.2.2.2.2.2.2.2.2.2.1
@[irreducible] noncomputable def tat : Tok := CC.2.2.2.2.2.2.2.2.2.2.2.2.2.2.2.2.2.2.2.2.2.2.2.2.2.2.2.1
@[irreducible] noncomputable def ml : Int := CC.2.2.2.2.2.2.2.2.2.2.2.2.2.2.2.2.2.2.2.2.2.2.2.2.2.2.2.2.1
@[irreducible] noncomputable def n : Int := CC.2.2.2.2.2.2.2.2.2.2.2.2.2.2.2.2.2.2.2.2.2.2.2.2.2.2.2.2.2.1
@[irreducible] noncomputable def tx : Str := CC.2.2.2.2.2.2.2.2.2.2.2.2.2.2.2.2.2.2.2.2.2.2.2.2.2.2.2.2.2.2.1
@[irreducible] noncomputable def k : Int := CC.2.2.2.2.2.2.2.2.2.2.2.2.2.2.2.2.2.2.2.2.2.2.2.2.2.2.2.2.2.2.2.1
@[irreducible] noncomputable def outer : List Env := CC.2.2.2.2.2.2.2.2.2.2.2.2.2.2.2.2.2.2.2.2.2.2.2.2.2.2.2.2.2.2.2.2.1
@[irreducible] noncomputable def base : Heap := CC.2.2.2.2.2.2.2.2.2.2.2.2.2.2.2.2.2.2.2.2.2.2.2.2.2.2.2.2.2.2.2.2.2.1
@[irreducible] noncomputable def g : Heap := CC.2.2.2.2.2.2.2.2.2.2.2.2.2.2.2.2.2.2.2.2.2.2.2.2.2.2.2.2.2.2.2.2.2.2.1
@[irreducible] noncomputable def s : Shared := CC.2.2.2.2.2.2.2.2.2.2.2.2.2.2.2.2.2.2.2.2.2.2.2.2.2.2.2.2.2.2.2.2.2.2.2.1
@[irreducible] noncomputable def Q : Value → Shared → Prop := CC.2.2.2.2.2.2.2.2.2.2.2.2.2.2.2.2.2.2.2.2.2.2.2.2.2.2.2.2.2.2.2.2.2.2.2.2.1
@[irreducible] noncomputable def E : Value → Shared → Prop := CC.2.2.2.2.2.2.2.2.2.2.2.2.2.2.2.2.2.2.2.2.2.2.2.2.2.2.2.2.2.2.2.2.2.2.2.2.2
set_option maxHeartbeats 8000000 in
theorem core : SS w mean mg mb T D FA FD k0 k1 k2 k3 k4 k5 k6 k7 k8 k9 f0 f1 ut q dl fn tml tln ttx tat ml n tx k outer base g s Q E := by
  intro e a hn1 hn2 hn3 hO H _ hret
  have hO' := hO
  obtain ⟨o1, o2, o3, o4, o5⟩ := hO'
  dsimp only at o1 o2 o3 o4 o5
  (refine wpAny_call ?_; k_dflt (refine' con_enter0 ?kH ?k1 ?k2 ?k3 ?k4 ?k5 ?_ ?c1 ?c2 ?c3 ?c4; (case kH => with_reducible assumption); (case k1 => k_is); (case k2 => k_is); (case k3 => k_room); (case k4 => first | exact BindsTo.of_eq rfl | exact binds_K (H.k.keeps H.st) rfl (by k_is) rfl rfl rfl); (case k5 => exact locs rfl); (case c1 => exact rfl); (case c2 => exact rfl); (case c3 => exact rfl); (case c4 => decide); intro h' tk' F' N' B' X' T' hz' hl'; (try dsimp only)))
  cases e
  · (k_steps; repeat' (refine stop_out ?_; first | ((k_dflt (refine' s_if1 (slf := Str.ofString "self") (ns := tokNames) (gl_ok _) (cl451 _) ?F ?X ?T ?hs ?I ?hk ?hsk ?hsd ?ht ?_; (case F => k_asm); (case X => k_asm); (case T => k_asm); (case hs => rfl); (case I => k_inst); (case hk => rfl); (case hsk => rfl); (case hsd => rfl); (case ht => rfl); k_whole); intro _); k_steps) | ((first | (refine ite_t (by with_reducible assumption) ?_) | (refine ite_f (by with_reducible assumption) ?_) | (refine ite_f (Bool.and_false _) ?_) | (refine ite_f rfl ?_) | (refine ite_t rfl ?_)); k_steps) | (refine wpAny_If ?_; k_steps)))
    refine stop_out (if_joinX (GcJ w g s.heap.objs.size s T D FA FD k0 k1 k2 k3 k4 k5 k6 k7 k8 k9 f0 f1 ut q a dl fn tml tln ttx ml n tx k) ?_ ?_)
    · try k_fold
      cases a
      · (k_steps; repeat' (refine stop_out ?_; first | ((k_dflt (refine' s_if1 (slf := Str.ofString "self") (ns := tokNames) (gl_ok _) (cl451 _) ?F ?X ?T ?hs ?I ?hk ?hsk ?hsd ?ht ?_; (case F => k_asm); (case X => k_asm); (case T => k_asm); (case hs => rfl); (case I => k_inst); (case hk => rfl); (case hsk => rfl); (case hsd => rfl); (case ht => rfl); k_whole); intro _); k_steps) | ((first | (refine ite_t (by with_reducible assumption) ?_) | (refine ite_f (by with_reducible assumption) ?_) | (refine ite_f (Bool.and_false _) ?_) | (refine ite_f rfl ?_) | (refine ite_t rfl ?_)); k_steps) | (refine wpAny_If ?_; k_steps)))
        (repeat (first | (with_reducible show Mine.Fw _ _ _ _; constructor) | k_unfold | (dsimp only [WPost]) | dsimp only))
        exact gcJ_of (by k_asm) (by k_asm) rfl rfl gj0 rfl rfl rfl
      · (k_steps; repeat' (refine stop_out ?_; first | ((k_dflt (refine' s_if1 (slf := Str.ofString "self") (ns := tokNames) (gl_ok _) (cl451 _) ?F ?X ?T ?hs ?I ?hk ?hsk ?hsd ?ht ?_; (case F => k_asm); (case X => k_asm); (case T => k_asm); (case hs => rfl); (case I => k_inst); (case hk => rfl); (case hsk => rfl); (case hsd => rfl); (case ht => rfl); k_whole); intro _); k_steps) | ((first | (refine ite_t (by with_reducible assumption) ?_) | (refine ite_f (by with_reducible assumption) ?_) | (refine ite_f (Bool.and_false _) ?_) | (refine ite_f rfl ?_) | (refine ite_t rfl ?_)); k_steps) | (refine wpAny_If ?_; k_steps)))
        refine stop_out (ite_s ?_ ?_)
        · intro hb
          (k_steps; repeat' (refine stop_out ?_; first | ((k_dflt (refine' s_if1 (slf := Str.ofString "self") (ns := tokNames) (gl_ok _) (cl451 _) ?F ?X ?T ?hs ?I ?hk ?hsk ?hsd ?ht ?_; (case F => k_asm); (case X => k_asm); (case T => k_asm); (case hs => rfl); (case I => k_inst); (case hk => rfl); (case hsk => rfl); (case hsd => rfl); (case ht => rfl); k_whole); intro _); k_steps) | ((first | (refine ite_t (by with_reducible assumption) ?_) | (refine ite_f (by with_reducible assumption) ?_) | (refine ite_f (Bool.and_false _) ?_) | (refine ite_f rfl ?_) | (refine ite_t rfl ?_)); k_steps) | (refine wpAny_If ?_; k_steps)))
          (repeat (first | (with_reducible show Mine.Fw _ _ _ _; constructor) | k_unfold | (dsimp only [WPost]) | dsimp only))
          exact gcJ_of (by k_asm) (by k_asm) rfl rfl (gj1 hb) rfl rfl rfl
        · intro hb
          (k_steps; repeat' (refine stop_out ?_; first | ((k_dflt (refine' s_if1 (slf := Str.ofString "self") (ns := tokNames) (gl_ok _) (cl451 _) ?F ?X ?T ?hs ?I ?hk ?hsk ?hsd ?ht ?_; (case F => k_asm); (case X => k_asm); (case T => k_asm); (case hs => rfl); (case I => k_inst); (case hk => rfl); (case hsk => rfl); (case hsd => rfl); (case ht => rfl); k_whole); intro _); k_steps) | ((first | (refine ite_t (by with_reducible assumption) ?_) | (refine ite_f (by with_reducible assumption) ?_) | (refine ite_f (Bool.and_false _) ?_) | (refine ite_f rfl ?_) | (refine ite_t rfl ?_)); k_steps) | (refine wpAny_If ?_; k_steps)))
          (repeat (first | (with_reducible show Mine.Fw _ _ _ _; constructor) | k_unfold | (dsimp only [WPost]) | dsimp only))
          exact gcJ_of (by k_asm) (by k_asm) rfl rfl (gj2 hb) rfl rfl rfl
    · rintro s' ⟨c, tc, k', tat', ⟨h2, tk2, u2, rfl, F2, N2⟩, hg⟩
      (k_steps; repeat' (refine stop_out ?_; first | ((k_dflt (refine' s_if1 (slf := Str.ofString "self") (ns := tokNames) (gl_ok _) (cl451 _) ?F ?X ?T ?hs ?I ?hk ?hsk ?hsd ?ht ?_; (case F => k_asm); (case X => k_asm); (case T => k_asm); (case hs => rfl); (case I => k_inst); (case hk => rfl); (case hsk => rfl); (case hsd => rfl); (case ht => rfl); k_whole); intro _); k_steps) | ((first | (refine ite_t (by with_reducible assumption) ?_) | (refine ite_f (by with_reducible assumption) ?_) | (refine ite_f (Bool.and_false _) ?_) | (refine ite_f rfl ?_) | (refine ite_t rfl ?_)); k_steps) | (refine wpAny_If ?_; k_steps)))
      refine stop_out (ite_s ?_ ?_)
      · intro hb
        (k_steps; repeat' (refine stop_out ?_; first | ((k_dflt (refine' s_if1 (slf := Str.ofString "self") (ns := tokNames) (gl_ok _) (cl451 _) ?F ?X ?T ?hs ?I ?hk ?hsk ?hsd ?ht ?_; (case F => k_asm); (case X => k_asm); (case T => k_asm); (case hs => rfl); (case I => k_inst); (case hk => rfl); (case hsk => rfl); (case hsd => rfl); (case ht => rfl); k_whole); intro _); k_steps) | ((first | (refine ite_t (by with_reducible assumption) ?_) | (refine ite_f (by with_reducible assumption) ?_) | (refine ite_f (Bool.and_false _) ?_) | (refine ite_f rfl ?_) | (refine ite_t rfl ?_)); k_steps) | (refine wpAny_If ?_; k_steps)))
        ((repeat (first | (with_reducible show Mine.Fw _ _ _ _; constructor) | k_unfold | (dsimp only [WPost]) | dsimp only)); refine' con_ret hret ?kF ?kN ?kz ?kr ?kg ?kd ?ko; (case kg => exact rfl); (case kd => exact rfl); (case ko => exact rfl); (case kF => with_reducible assumption); (case kN => with_reducible assumption); (case kz => with_reducible assumption); (case kr => exact gcR_of (ge1 hg hb)))
      · intro hb
        (k_steps; repeat' (refine stop_out ?_; first | ((k_dflt (refine' s_if1 (slf := Str.ofString "self") (ns := tokNames) (gl_ok _) (cl451 _) ?F ?X ?T ?hs ?I ?hk ?hsk ?hsd ?ht ?_; (case F => k_asm); (case X => k_asm); (case T => k_asm); (case hs => rfl); (case I => k_inst); (case hk => rfl); (case hsk => rfl); (case hsd => rfl); (case ht => rfl); k_whole); intro _); k_steps) | ((first | (refine ite_t (by with_reducible assumption) ?_) | (refine ite_f (by with_reducible assumption) ?_) | (refine ite_f (Bool.and_false _) ?_) | (refine ite_f rfl ?_) | (refine ite_t rfl ?_)); k_steps) | (refine wpAny_If ?_; k_steps)))
        refine stop_out (ite_s ?_ ?_)
        · intro h1
          (k_steps; repeat' (refine stop_out ?_; first | ((k_dflt (refine' s_if1 (slf := Str.ofString "self") (ns := tokNames) (gl_ok _) (cl451 _) ?F ?X ?T ?hs ?I ?hk ?hsk ?hsd ?ht ?_; (case F => k_asm); (case X => k_asm); (case T => k_asm); (case hs => rfl); (case I => k_inst); (case hk => rfl); (case hsk => rfl); (case hsd => rfl); (case ht => rfl); k_whole); intro _); k_steps) | ((first | (refine ite_t (by with_reducible assumption) ?_) | (refine ite_f (by with_reducible assumption) ?_) | (refine ite_f (Bool.and_false _) ?_) | (refine ite_f rfl ?_) | (refine ite_t rfl ?_)); k_steps) | (refine wpAny_If ?_; k_steps)))
          ((repeat (first | (with_reducible show Mine.Fw _ _ _ _; constructor) | k_unfold | (dsimp only [WPost]) | dsimp only)); refine' con_ret hret ?kF ?kN ?kz ?kr ?kg ?kd ?ko; (case kg => exact rfl); (case kd => exact rfl); (case ko => exact rfl); (case kF => with_reducible assumption); (case kN => with_reducible assumption); (case kz => with_reducible assumption); (case kr => exact gcR_of (ge2 hg hb h1)))
        · intro h1
          (k_steps; repeat' (refine stop_out ?_; first | ((k_dflt (refine' s_if1 (slf := Str.ofString "self") (ns := tokNames) (gl_ok _) (cl451 _) ?F ?X ?T ?hs ?I ?hk ?hsk ?hsd ?ht ?_; (case F => k_asm); (case X => k_asm); (case T => k_asm); (case hs => rfl); (case I => k_inst); (case hk => rfl); (case hsk => rfl); (case hsd => rfl); (case ht => rfl); k_whole); intro _); k_steps) | ((first | (refine ite_t (by with_reducible assumption) ?_) | (refine ite_f (by with_reducible assumption) ?_) | (refine ite_f (Bool.and_false _) ?_) | (refine ite_f rfl ?_) | (refine ite_t rfl ?_)); k_steps) | (refine wpAny_If ?_; k_steps)))
          refine stop_out (ite_s ?_ ?_)
          · intro h2
            (k_steps; repeat' (refine stop_out ?_; first | ((k_dflt (refine' s_if1 (slf := Str.ofString "self") (ns := tokNames) (gl_ok _) (cl451 _) ?F ?X ?T ?hs ?I ?hk ?hsk ?hsd ?ht ?_; (case F => k_asm); (case X => k_asm); (case T => k_asm); (case hs => rfl); (case I => k_inst); (case hk => rfl); (case hsk => rfl); (case hsd => rfl); (case ht => rfl); k_whole); intro _); k_steps) | ((first | (refine ite_t (by with_reducible assumption) ?_) | (refine ite_f (by with_reducible assumption) ?_) | (refine ite_f (Bool.and_false _) ?_) | (refine ite_f rfl ?_) | (refine ite_t rfl ?_)); k_steps) | (refine wpAny_If ?_; k_steps)))
            ((repeat (first | (with_reducible show Mine.Fw _ _ _ _; constructor) | k_unfold | (dsimp only [WPost]) | dsimp only)); refine' con_ret hret ?kF ?kN ?kz ?kr ?kg ?kd ?ko; (case kg => exact rfl); (case kd => exact rfl); (case ko => exact rfl); (case kF => with_reducible assumption); (case kN => with_reducible assumption); (case kz => with_reducible assumption); (case kr => exact gcR_of (ge3 hg hb h1 h2)))
          · intro h2
            (k_steps; repeat' (refine stop_out ?_; first | ((k_dflt (refine' s_if1 (slf := Str.ofString "self") (ns := tokNames) (gl_ok _) (cl451 _) ?F ?X ?T ?hs ?I ?hk ?hsk ?hsd ?ht ?_; (case F => k_asm); (case X => k_asm); (case T => k_asm); (case hs => rfl); (case I => k_inst); (case hk => rfl); (case hsk => rfl); (case hsd => rfl); (case ht => rfl); k_whole); intro _); k_steps) | ((first | (refine ite_t (by with_reducible assumption) ?_) | (refine ite_f (by with_reducible assumption) ?_) | (refine ite_f (Bool.and_false _) ?_) | (refine ite_f rfl ?_) | (refine ite_t rfl ?_)); k_steps) | (refine wpAny_If ?_; k_steps)))
            ((repeat (first | (with_reducible show Mine.Fw _ _ _ _; constructor) | k_unfold | (dsimp only [WPost]) | dsimp only)); refine' con_ret hret ?kF ?kN ?kz ?kr ?kg ?kd ?ko; (case kg => exact rfl); (case kd => exact rfl); (case ko => exact rfl); (case kF => with_reducible assumption); (case kN => with_reducible assumption); (case kz => with_reducible assumption); (case kr => exact gcR_of (ge4 hg hb h1 h2)))
  · (k_steps; repeat' (refine stop_out ?_; first | ((k_dflt (refine' s_if1 (slf := Str.ofString "self") (ns := tokNames) (gl_ok _) (cl451 _) ?F ?X ?T ?hs ?I ?hk ?hsk ?hsd ?ht ?_; (case F => k_asm); (case X => k_asm); (case T => k_asm); (case hs => rfl); (case I => k_inst); (case hk => rfl); (case hsk => rfl); (case hsd => rfl); (case ht => rfl); k_whole); intro _); k_steps) | ((first | (refine ite_t (by with_reducible assumption) ?_) | (refine ite_f (by with_reducible assumption) ?_) | (refine ite_f (Bool.and_false _) ?_) | (refine ite_f rfl ?_) | (refine ite_t rfl ?_)); k_steps) | (refine wpAny_If ?_; k_steps)))
    ((repeat (first | (with_reducible show Mine.Fw _ _ _ _; constructor) | k_unfold | (dsimp only [WPost]) | dsimp only)); refine' con_ret hret ?kF ?kN ?kz ?kr ?kg ?kd ?ko; (case kg => exact rfl); (case kd => exact rfl); (case ko => exact rfl); (case kF => with_reducible assumption); (case kN => with_reducible assumption); (case kz => with_reducible assumption); (case kr => exact gcR_of (by rfl)))
theorem over (v : VV) : PP v := by
  with_unfolding_all exact bad_all (hn := NN) (P := PP) core v
end getc_none_
theorem getc_none {w : World} {mean : ExcName → Option Value} {mg mb : Str → Option Value} {T D FA FD : Nat} {k0 k1 k2 k3 k4 k5 k6 k7 k8 k9 f0 f1 : Tok} {ut : Value} {q e a : Bool} {dl fn : Value} {tml tln ttx tat : Tok} {ml n : Int} {tx : Str} {k : Int}
   (hn1 : D < T) (hn2 : T < FD) (hn3 : FD < FA) (hO : Ok ⟨tx, k, none, q, e, a, ml, n⟩) :
    Con w mean mg mb 700 (.ref 235) [.ref T] (tokLed w T D FA FD k0 k1 k2 k3 k4 k5 k6 k7 k8 k9 f0 f1 .none ut (.int ml tml) q e a dl (.int n tln) fn (.str tx ttx) (.int k tat)) (fun _ => True)
      (fun _ v led' => GcR w T D FA FD k0 k1 k2 k3 k4 k5 k6 k7 k8 k9 f0 f1 ut q dl fn tml ttx ml tx (getc ⟨tx, k, none, q, e, a, ml, n⟩) v led') := fun outer base g s Q E => getc_none_.over (w, mean, mg, mb, T, D, FA, FD, k0, k1, k2, k3, k4, k5, k6, k7, k8, k9, f0, f1, ut, q, dl, fn, tml, tln, ttx, tat, ml, n, tx, k, outer, base, g, s, Q, E) e a hn1 hn2 hn3 hO
end
end Mine
end

section
local macro_rules | `(tactic| walk_at $_) => Lean.Macro.throwUnsupported
open PySem PySem.W PySem.Calls PyProof.Rows
set_option genInjectivity false
set_option genSizeOf false
namespace Mine
set_option maxHeartbeats 8000000 in
theorem fill2 : PySem.Challenge.rw_jf0021_01 = PySem.Challenge.rw_jf0021_01 ∧ Mine.hd.heap_1 = Mine.hd.heap_1 := by
  k_fill
  exact ⟨rfl, rfl⟩

theorem getc_con {w : World} {mean : ExcName → Option Value} {mg mb : Str → Option Value} {T D FA FD : Nat} {k0 k1 k2 k3 k4 k5 k6 k7 k8 k9 f0 f1 : Tok} {uc : Option Str} {tuc : Tok} {ut : Value} {q e a : Bool} {dl fn : Value} {tml tln ttx tat : Tok} {ml n : Int} {tx : Str} {k : Int}
   (hn1 : D < T) (hn2 : T < FD) (hn3 : FD < FA) (hO : Ok ⟨tx, k, uc, q, e, a, ml, n⟩) :
    Con w mean mg mb 700 (.ref 235) [.ref T] (tokLed w T D FA FD k0 k1 k2 k3 k4 k5 k6 k7 k8 k9 f0 f1 (vUC uc tuc) ut (.int ml tml) q e a dl (.int n tln) fn (.str tx ttx) (.int k tat)) (fun _ => True)
      (fun _ v led' => ∃ c tc k' e' a' n' tln' tat', getc ⟨tx, k, uc, q, e, a, ml, n⟩ = (c, ⟨tx, k', none, q, e', a', ml, n'⟩) ∧ v = .str c tc ∧ led' = tokLed w T D FA FD k0 k1 k2 k3 k4 k5 k6 k7 k8 k9 f0 f1 .none ut (.int ml tml) q e' a' dl (.int n' tln') fn (.str tx ttx) (.int k' tat')) := by
  cases uc with
  | none => exact getc_none hn1 hn2 hn3 hO
  | some c =>
    intro outer base g s Q E H hP hret
    refine getc_some hn1 hn2 hn3 outer base g s Q E H hP fun v led' h' tk D r => hret v led' h' tk D ?_
    exact ⟨c, tuc, k, e, a, n, tln, tat, rfl, r.1, r.2⟩


theorem getc_use {w : World} {mean : ExcName → Option Value} {mg mb : Str → Option Value} {T D FA FD : Nat} {k0 k1 k2 k3 k4 k5 k6 k7 k8 k9 f0 f1 : Tok} {uc : Option Str} {tuc : Tok} {ut : Value} {q e a : Bool} {dl fn : Value} {tml tln ttx tat : Tok} {ml n : Int} {tx : Str} {k : Int}
    {A₀ A : Around} {base h₀ : Heap} {outer : List Env} {env : Env} {L : Addr} {m : Str → Option Value} {news : List (Addr × Obj)} {s : Shared} {Q E : Value → Shared → Prop}
    (hn1 : D < T) (hn2 : T < FD) (hn3 : FD < FA) (hO : Ok ⟨tx, k, uc, q, e, a, ml, n⟩)
    (B : Below A₀ base outer h₀) (F : Fr h₀ L s.heap m) (X : (Mine.hd.heap_1 w.params).In h₀) (N : News h₀ L s.heap news) (Tp : Top Mine.hd.view_39 (looseW Mine.hd.view_39 [Str.ofString "_law_pieces"]) mean mg mb h₀)
    (hA : A.frames = some (env :: outer)) (hf : env.frame = some L) (hke : env.scope.kind = .function) (hd : A.depth ≤ 700) (hu : A.units ≤ 700) (hh : A.handled = none)
    (h1 : ∀ p ∈ tokLed w T D FA FD k0 k1 k2 k3 k4 k5 k6 k7 k8 k9 f0 f1 (vUC uc tuc) ut (.int ml tml) q e a dl (.int n tln) fn (.str tx ttx) (.int k tat), p ∈ news)
    (ret : ∀ (c : Str) (k' : Int) (e' a' : Bool) (n' : Int) (tc tln' tat' : Tok) (h' : Heap) (tk : Nat), getc ⟨tx, k, uc, q, e, a, ml, n⟩ = (c, ⟨tx, k', none, q, e', a', ml, n'⟩) → Ok ⟨tx, k', none, q, e', a', ml, n'⟩ → Fr h₀ L h' m →
      News h₀ L h' (tokLed w T D FA FD k0 k1 k2 k3 k4 k5 k6 k7 k8 k9 f0 f1 .none ut (.int ml tml) q e' a' dl (.int n' tln') fn (.str tx ttx) (.int k' tat')) → Q (.str c tc) ⟨h', s.gens, s.drawn, tk, s.os⟩) :
    wpAny (model prg w) A (call (.ref 235) [.ref T]) Q E s := by
  refine Con.use0 (getc_con hn1 hn2 hn3 hO) B F X N Tp hA hf hke hd hu hh h1 (fun _ _ => trivial) ?_
  rintro z v led' h' tk hz F' N' ⟨c, tc, k', e', a', n', tln', tat', hg, rfl, rfl⟩
  exact ret c k' e' a' n' tc tln' tat' h' tk hg (getc_ok hO hg) F' N'

structure SkS where
  uc : Option Str
  tuc : Tok
  k : Int
  e : Bool
  a : Bool
  n : Int
  tln : Tok
  tat : Tok
  sk : Int
  tsk : Tok

section
variable {m : Nat} {σ σ1 : TS} {c : Str} {sk : Int}
theorem sk_st (hg : getc σ = (c, σ1)) (h1 : (c != Str.ofString " " && c != Str.ofString "\t") = true) (h2 : (c != Str.ofString "\n" || !(σ.ml != 0)) = true) : skipM (m + 1) σ sk = some (sk, { σ1 with uc := some c }) := by
  obtain ⟨a, b⟩ := Bool.and_eq_true_iff.mp h1
  rw [skipM, hg]
  dsimp only
  rw [if_pos a, if_pos b]
  cases h3 : (c != Str.ofString "\n") with
  | true => rfl
  | false =>
    rw [h3] at h2
    have h4 : σ.ml = 0 := by simpa using h2
    rw [if_neg (by decide), if_pos h4]
theorem sk_go1 (hg : getc σ = (c, σ1)) (h1 : (c != Str.ofString " " && c != Str.ofString "\t") = false) : skipM (m + 1) σ sk = skipM m σ1 (sk + 1) := by
  rw [skipM, hg]
  dsimp only
  rcases Bool.and_eq_false_iff.mp h1 with a | a
  · rw [if_neg (by rw [a]; decide)]
  · rw [a]
    split
    · rfl
    · rfl
theorem sk_go2 (hg : getc σ = (c, σ1)) (h1 : (c != Str.ofString " " && c != Str.ofString "\t") = true) (h2 : (c != Str.ofString "\n" || !(σ.ml != 0)) = false) : skipM (m + 1) σ sk = skipM m σ1 (sk + 1) := by
  obtain ⟨a, b⟩ := Bool.and_eq_true_iff.mp h1
  obtain ⟨d, e⟩ := Bool.or_eq_false_iff.mp h2
  rw [skipM, hg]
  dsimp only
  rw [if_pos a, if_pos b, if_neg (by rw [d]; decide), if_neg (by simpa using e)]
end
section
local macro_rules | `(tactic| walk_at "call ref") => `(tactic| refine stop_call [235] rfl ?_)
local macro_rules | `(tactic| walk_at $k) => if ["exec If", "ite"].contains k.getString then `(tactic| refine Mine.stop_of ?_) else Lean.Macro.throwUnsupported
namespace skip_con_
noncomputable abbrev VV := (World) × (ExcName → Option Value) × (Str → Option Value) × (Str → Option Value) × (Nat) × (Nat) × (Nat) × (Nat) × (Tok) × (Tok) × (Tok) × (Tok) × (Tok) × (Tok) × (Tok) × (Tok) × (Tok) × (Tok) × (Tok) × (Tok) × (Option Str) × (Tok) × (Value) × (Bool) × (Bool) × (Bool) × (Value) × (Value) × (Tok) × (Tok) × (Tok) × (Tok) × (Int) × (Int) × (Str) × (Int) × (List Env) × (Heap) × (Heap) × (Shared) × (Value → Shared → Prop) × (Value → Shared → Prop)
noncomputable def SS (w : World) (mean : ExcName → Option Value) (mg : Str → Option Value) (mb : Str → Option Value) (T : Nat) (D : Nat) (FA : Nat) (FD : Nat) (k0 : Tok) (k1 : Tok) (k2 : Tok) (k3 : Tok) (k4 : Tok) (k5 : Tok) (k6 : Tok) (k7 : Tok) (k8 : Tok) (k9 : Tok) (f0 : Tok) (f1 : Tok) (uc : Option Str) (tuc : Tok) (ut : Value) (q : Bool) (e : Bool) (a : Bool) (dl : Value) (fn : Value) (tml : Tok) (tln : Tok) (ttx : Tok) (tat : Tok) (ml : Int) (n : Int) (tx : Str) (k : Int) (outer : List Env) (base : Heap) (g : Heap) (s : Shared) (Q : Value → Shared → Prop) (E : Value → Shared → Prop) : Prop := ∀ (r : Int), ∀ (σ' : TS), (D < T) → (T < FD) → (FD < FA) → (Ok ⟨tx, k, uc, q, e, a, ml, n⟩) → (skipM 3000 ⟨tx, k, uc, q, e, a, ml, n⟩ 0 = some (r, σ')) → Con1 w mean mg mb 600 (.ref 256) [.ref T] (tokLed w T D FA FD k0 k1 k2 k3 k4 k5 k6 k7 k8 k9 f0 f1 (vUC uc tuc) ut (.int ml tml) q e a dl (.int n tln) fn (.str tx ttx) (.int k tat)) (fun _ => True)
      (fun _ v led' => ∃ c tc k' e' a' n' tr tln' tat', σ' = ⟨tx, k', some c, q, e', a', ml, n'⟩ ∧ v = .int r tr ∧ led' = tokLed w T D FA FD k0 k1 k2 k3 k4 k5 k6 k7 k8 k9 f0 f1 (.str c tc) ut (.int ml tml) q e' a' dl (.int n' tln') fn (.str tx ttx) (.int k' tat')) outer base g s Q E
noncomputable def PP (v : VV) : Prop := SS v.1 v.2.1 v.2.2.1 v.2.2.2.1 v.2.2.2.2.1 v.2.2.2.2.2.1 v.2.2.2.2.2.2.1 v.2.2.2.2.2.2.2.1 v.2.2.2.2.2.2.2.2.1 v.2.2.2.2.2.2.2.2.2.1 v.2.2.2.2.2.2.2.2.2.2.1 v.2.2.2.2.2.2.2.2.2.2.2.1 v.2.2.2.2.2.2.2.2.2.2.2.2.1 v.2.2.2.2.2.2.2.2.2.2.2.2.2.1 v.2.2.2.2.2.2.2.2.2.2.2.2.2.2.1 v.2.2.2.2.2.2.2.2.2.2.2.2.2.2.2.1 v.2.2.2.2.2.2.2.2.2.2.2.2.2.2.2.2.1 v.2.2.2.2.2.2.2.2.2.2.2.2.2.2.2.2.2.1 v.2.2.2.2.2.2.2.2.2.2.2.2.2.2.2.2.2.2.1 v.2.2.2.2.2.2.2.2.2.2.2.2.2.2.2.2.2.2.2.1 v.2.2.2.2.2.2.2.2.2.2.2.2.2.2.2.2.2.2.2.2.1 v.2.2.2.2.2.2.2.2.2.2.2.2.2.2.2.2.2.2.2.2.2.1 v.2.2.2.2.2.2.2.2.2.2.2.2.2.2.2.2.2.2.2.2.2.2.1 v.2.2.2.2.2.2.2.2.2.2.2.2.2.2.2.2.2.2.2.2.2.2.2.1 v.2.2.2.2.2.2.2.2.2.2.2.2.2.2.2.2.2.2.2.2.2.2.2.2.1 v.2.2.2.2.2.2.2.2.2.2.2.2.2.2.2.2.2.2.2.2.2.2.2.2.2.1 v.2.2.2.2.2.2.2.2.2.2.2.2.2.2.2.2.2.2.2.2.2.2.2.2.2.2.1 v.2.2.2.2.2.2.2.2.2.2.2.2.2.2.2.2.2.2.2.2.2.2.2.2.2.2.2.1 v.2.2.2.2.2.2.2.2.2.2.2.2.2.2.2.2.2.2.2.2.2.2.2.2.2.2.2.2.1 v.2.2.2.2.2.2.2.2.2.2.2.2.2.2.2.2.2.2.2.2.2.2.2.2.2.2.2.2.2.1 v.2.2.2.2.2.2.2.2.2.2.2.2.2.2.2.2.2.2.2.2.2.2.2.2.2.2.2.2.2.2.1 v.2.2.2.2.2.2.2.2.2.2.2.2.2.2.2.2.2.2.2.2.2.2.2.2.2.2.2.2.2.2.2.1 v.2.2.2.2.2.2.2.2.2.2.2.2.2.2.2.2.2.2.2.2.2.2.2.2.2.2.2.2.2.2.2.2.1 v.2.2.2.2.2.2.2.2.2.2.2.2.2.2.2.2.2.2.2.2.2.2.2.2.2.2.2.2.2.2.2.2.2.1 v.2.2.2.2.2.2.2.2.2.2.2.2.2.2.2.2.2.2.2.2.2.2.2.2.2.2.2.2.2.2.2.2.2.2.1 v.2.2.2.2.2.2.2.2.2.2.2.2.2.2.2.2.2.2.2.2.2.2.2.2.2.2.2.2.2.2.2.2.2.2.2.1 v.2.2.2.2.2.2.2.2.2.2.2.2.2.2.2.2.2.2.2.2.2.2.2.2.2.2.2.2.2.2.2.2.2.2.2.2.1 v.2.2.2.2.2.2.2.2.2.2.2.2.2.2.2.2.2.2.2.2.2.2.2.2.2.2.2.2.2.2.2.2.2.2.2.2.2.1 v.2.2.2.2.2.2.2.2.2.2.2.2.2.2.2.2.2.2.2.2.2.2.2.2.2.2.2.2.2.2.2.2.2.2.2.2.2.2.1 v.2.2.2.2.2.2.2.2.2.2.2.2.2.2.2.2.2.2.2.2.2.2.2.2.2.2.2.2.2.2.2.2.2.2.2.2.2.2.2.1 v.2.2.2.2.2.2.2.2.2.2.2.2.2.2.2.2.2.2.2.2.2.2.2.2.2.2.2.2.2.2.2.2.2.2.2.2.2.2.2.2.1 v.2.2.2.2.2.2.2.2.2.2.2.2.2.2.2.2.2.2.2.2.2.2.2.2.2.2.2.2.2.2.2.2.2.2.2.2.2.2.2.2.2
theorem NN : Nonempty VV := ⟨(aWorld 0, fun _ => none, fun _ => none, fun _ => none, 0, 0, 0, 0, 0, 0, 0, 0, 0, 0, 0, 0, 0, 0, 0, 0, none, 0, default, false, false, false, default, default, 0, 0, 0, 0, 0, 0, default, 0, [], default, default, ⟨default, #[], boot_drawn, 0, default⟩, fun _ _ => True, fun _ _ => True)⟩
@[irreducible] noncomputable def CC : VV := bad NN PP
@[irreducible] noncomputable def w : World := CC.1
@[irreducible] noncomputable def mean : ExcName → Option Value := CC.2.1
@[irreducible] noncomputable def mg : Str → Option Value := CC.2.2.1
@[irreducible] noncomputable def mb : Str → Option Value := CC.2.2.2.1
@[irreducible] noncomputable def T : Nat := CC.2.2.2.2.1
@[irreducible] noncomputable def D : Nat := CC.2.2.2.2.2.1
@[irreducible] noncomputable def FA : Nat := CC.2.2.2.2.2.2.1
@[irreducible] noncomputable def FD : Nat := CC.2.2.2.2.2.2.2.1
@[irreducible] noncomputable def k0 : Tok := CC.2.2.2.2.2.2.2.2.1
@[irreducible] noncomputable def k1 : Tok := CC.2.2.2.2.2.2.2.2.2.1
@[irreducible] noncomputable def k2 : Tok := CC.2.2.2.2.2.2.2.2.2.2.1
@[irreducible] noncomputable def k3 : Tok := CC.2.2.2.2.2.2.2.2.2.2.2.1
@[irreducible] noncomputable def k4 : Tok := CC.2.2.2.2.2.2.2.2.2.2.2.2.1
@[irreducible] noncomputable def k5 : Tok := CC.2.2.2.2.2.2.2.2.2.2.2.2.2.1
@[irreducible] noncomputable def k6 : Tok := CC.2.2.2.2.2.2.2.2.2.2.2.2.2.2.1
@[irreducible] noncomputable def k7 : Tok := CC.2.2.2.2.2.2.2.2.2.2.2.2.2.2.2.1
@[irreducible] noncomputable def k8 : Tok := CC.2.2.2.2.2.2.2.2.2.2.2.2.2.2.2.2.1
@[irreducible] noncomputable def k9 : Tok := CC.2.2.2.2.2.2.2.2.2.2.2.2.2.2.2.2.2.1
@[irreducible] noncomputable def f0 : Tok := CC.2.2.2.2.2.2.2.2.2.2.2.2.2.2.2.2.2.2.1
@[irreducible] noncomputable def f1 : Tok := CC.2.2.2.2.2.2.2.2.2.2.2.2.2.2.2.2.2.2.2.1
@[irreducible] noncomputable def uc : Option Str := CC.2.2.2.2.2.2.2.2.2.2.2.2.2.2.2.2.2.2.2.2.1
@[irreducible] noncomputable def tuc : Tok := CC.2.2.2.2.2.2.2.2.2.2.2.2.2.2.2.2.2.2.2.2.2.1
@[irreducible] noncomputable def ut : Value := CC.2.2.2.2.2.2.2.2.2.2.2.2.2.2.2.2.2.2.2.2.2.2.1
@[irreducible] noncomputable def q : Bool := CC.2.2.2.2.2.2.2.2.2.2.2.2.2.2.2.2.2.2.2.2.2.2.2.1
@[irreducible] noncomputable def e : Bool := CC.2.2.2.2.2.2.2.2.2.2.2.2.2.2.2.2.2.2.2.2.2.2.2.2.1
@[irreducible] noncomputable def a : Bool := CC.2.2.2.2.2.2.2.2.2.2.2.2.2.2.2.2.2.2.2.2.2.2.2.2.2.1
@[irreducible] noncomputable def dl : Value := CC.2.2.2.2.2.2.2.2.2.2.2.2.2.2.2.2.2.2.2.2.2.2.2.2.2.2.1
@[irreducible] noncomputable def fn : Value := CC.2.2.2.2.2.2.2.2.2.2.2.2.2.2.2.2.2.2.2.2.2.2.2.2.2.2.2.1
@[irreducible] noncomputable def tml : Tok := CC.2.2.2.2.2.2.2.2.2.2.2.2.2.2.2.2.2.2.2.2.2.2.2.2.2.2.2.2.1
@[irreducible] noncomputable def tln : Tok := CC.2.2.2.2.2.2.2.2.2.2.2.2.2.2.2.2.2.2.2.2.2.2.2.2.2.2.2.2.2.1
@[irreducible] noncomputable def ttx : Tok := CC.2.2.2.2.2.2.2.2.2.2.2.2.2.2.2.2.2.2.2.2.2.2.2.2.2.2.2.2.2.2.1
@[irreducible] noncomputable def tat : Tok := CC.2.2.2.2.2.2.2.2.2.2.2.2.2.2.2.2.2.2.2.2.2.2.2.2.2.2.2.2.2.2.2.1
@[irreducible] noncomputable def ml : Int := CC.2.2.2.2.2.2.2.2.2.2.2.2.2.2.2.2.2.2.2.2.2.2.2.2.2.2.2.2.2.2.2.2.1
@[irreducible] noncomputable def n : Int := CC.2.2.2.2.2.2.2.2.2.2.2.2.2.2.2.2.2.2.2.2.2.2.2.2.2.2.2.2.2.2.2.2.2.1
@[irreducible] noncomputable def tx : Str := CC.2.2.2.2.2.2.2.2.2.2.2.2.2.2.2.2.2.2.2.2.2.2.2.2.2.2.2.2.2.2.2.2.2.2.1
@[irreducible] noncomputable def k : Int := CC.2.2.2.2.2.2.2.2.2.2.2.2.2.2.2.2.2.2.2.2.2.2.2.2.2.2.2.2.2.2.2.2.2.2.2.1
@[irreducible] noncomputable def outer : List Env := CC.2.2.2.2.2.2.2.2.2.2.2.2.2.2.2.2.2.2.2.2.2.2.2.2.2.2.2.2.2.2.2.2.2.2.2.2.1
@[irreducible] noncomputable def base : Heap := CC.2.2.2.2.2.2.2.2.2.2.2.2.2.2.2.2.2.2.2.2.2.2.2.2.2.2.2.2.2.2.2.2.2.2.2.2.2.1
@[irreducible] noncomputable def g : Heap := CC.2.2.2.2.2.2.2.2.2.2.2.2.2.2.2.2.2.2.2.2.2.2.2.2.2.2.2.2.2.2.2.2.2.2.2.2.2.2.1
@[irreducible] noncomputable def s : Shared := CC.2.2.2.2.2.2.2.2.2.2.2.2.2.2.2.2.2.2.2.2.2.2.2.2.2.2.2.2.2.2.2.2.2.2.2.2.2.2.2.1
@[irreducible] noncomputable def Q : Value → Shared → Prop := CC.2.2.2.2.2.2.2.2.2.2.2.2.2.2.2.2.2.2.2.2.2.2.2.2.2.2.2.2.2.2.2.2.2.2.2.2.2.2.2.2.1
@[irreducible] noncomputable def E : Value → Shared → Prop := CC.2.2.2.2.2.2.2.2.2.2.2.2.2.2.2.2.2.2.2.2.2.2.2.2.2.2.2.2.2.2.2.2.2.2.2.2.2.2.2.2.2
set_option maxHeartbeats 8000000 in
theorem core : SS w mean mg mb T D FA FD k0 k1 k2 k3 k4 k5 k6 k7 k8 k9 f0 f1 uc tuc ut q e a dl fn tml tln ttx tat ml n tx k outer base g s Q E := by
  intro r σ' hn1 hn2 hn3 hO hM H _ hret
  (refine wpAny_call ?_; k_dflt (refine' con_enter0 ?kH ?k1 ?k2 ?k3 ?k4 ?k5 ?_ ?c1 ?c2 ?c3 ?c4; (case kH => with_reducible assumption); (case k1 => k_is); (case k2 => k_is); (case k3 => k_room); (case k4 => first | exact BindsTo.of_eq rfl | exact binds_K (H.k.keeps H.st) rfl (by k_is) rfl rfl rfl); (case k5 => exact locs rfl); (case c1 => exact rfl); (case c2 => exact rfl); (case c3 => exact rfl); (case c4 => decide); intro h' tk' F' N' B' X' T' hz' hl'; (try dsimp only)))
  k_steps
  refine stop_out ?_
  refine my_while (σ := SkS) (fun c => tokLed w T D FA FD k0 k1 k2 k3 k4 k5 k6 k7 k8 k9 f0 f1 (vUC c.uc c.tuc) ut (.int ml tml) q c.e c.a dl (.int c.n c.tln) fn (.str tx ttx) (.int c.k c.tat))
    (fun c => [(Str.ofString "self", .ref T), (Str.ofString "skipped", .int c.sk c.tsk)])
    (fun m c => skipM m ⟨tx, c.k, c.uc, q, c.e, c.a, ml, c.n⟩ c.sk = some (r, σ') ∧ Ok ⟨tx, c.k, c.uc, q, c.e, c.a, ml, c.n⟩ ∧ 0 ≤ c.sk)
    ⟨uc, tuc, k, e, a, n, tln, tat, 0, _⟩ (by k_asm) (by k_asm) (by exact fun _ h => h) (by exact fc rfl (fc rfl fz)) (by exact ⟨hM, hO, Int.le_refl _⟩) ?_ (by passes_own)
  rintro m ⟨uc, tuc, k, e, a, n, tln, tat, sk, tsk⟩ u h tk ⟨hM, hO, hs⟩ F N
  dsimp only at hM hO hs F N
  obtain _ | m := m
  · cases hM
  try k_fold
  (k_steps; repeat' (refine stop_out ?_; first | ((k_dflt (refine' s_if1 (slf := Str.ofString "self") (ns := tokNames) (gl_ok _) (cl451 _) ?F ?X ?T ?hs ?I ?hk ?hsk ?hsd ?ht ?_; (case F => k_asm); (case X => k_asm); (case T => k_asm); (case hs => rfl); (case I => k_inst); (case hk => rfl); (case hsk => rfl); (case hsd => rfl); (case ht => rfl); k_whole); intro _); k_steps) | ((first | (refine ite_t (by with_reducible assumption) ?_) | (refine ite_f (by with_reducible assumption) ?_) | (refine ite_f (Bool.and_false _) ?_) | (refine ite_f rfl ?_) | (refine ite_t rfl ?_)); k_steps) | (refine wpAny_If ?_; k_steps)))
  (refine stop_out ?_; k_dflt (first | (refine' getc_use (uc := none) (tuc := 0) ?gn1 ?gn2 ?gn3 ?gO ?kB ?kF ?kX ?kN ?kT ?kA ?kf ?ke ?kd ?ku ?kh ?h1 ?_; (case kB => k_asm); (case kF => k_asm); (case kX => k_asm); (case kN => k_asm); (case kT => k_asm); (case kA => exact rfl); (case kf => exact rfl); (case ke => exact rfl); (case kd => exact Nat.le_of_ble_eq_true rfl); (case ku => exact Nat.le_of_ble_eq_true rfl); (case kh => exact rfl); (case h1 => first | exact fun _ h => h | exact fm4 (by k_mem) (by k_mem) (by k_mem) (by k_mem)); (case gn1 => assumption); (case gn2 => assumption); (case gn3 => assumption); (case gO => first | assumption | exact ok_ml (by assumption) | exact ok_q (by assumption)); k_whole) | (refine' getc_use ?gn1 ?gn2 ?gn3 ?gO ?kB ?kF ?kX ?kN ?kT ?kA ?kf ?ke ?kd ?ku ?kh ?h1 ?_; (case kB => k_asm); (case kF => k_asm); (case kX => k_asm); (case kN => k_asm); (case kT => k_asm); (case kA => exact rfl); (case kf => exact rfl); (case ke => exact rfl); (case kd => exact Nat.le_of_ble_eq_true rfl); (case ku => exact Nat.le_of_ble_eq_true rfl); (case kh => exact rfl); (case h1 => first | exact fun _ h => h | exact fm4 (by k_mem) (by k_mem) (by k_mem) (by k_mem)); (case gn1 => assumption); (case gn2 => assumption); (case gn3 => assumption); (case gO => first | assumption | exact ok_ml (by assumption) | exact ok_q (by assumption)); k_whole)); intro c kn en an nn tcn tlnn tatn hpn tkn hg hO2 Fn Nn; (try dsimp only))
  (k_steps; repeat' (refine stop_out ?_; first | ((k_dflt (refine' s_if1 (slf := Str.ofString "self") (ns := tokNames) (gl_ok _) (cl451 _) ?F ?X ?T ?hs ?I ?hk ?hsk ?hsd ?ht ?_; (case F => k_asm); (case X => k_asm); (case T => k_asm); (case hs => rfl); (case I => k_inst); (case hk => rfl); (case hsk => rfl); (case hsd => rfl); (case ht => rfl); k_whole); intro _); k_steps) | ((first | (refine ite_t (by with_reducible assumption) ?_) | (refine ite_f (by with_reducible assumption) ?_) | (refine ite_f (Bool.and_false _) ?_) | (refine ite_f rfl ?_) | (refine ite_t rfl ?_)); k_steps) | (refine wpAny_If ?_; k_steps)))
  refine stop_out (ite_s ?_ ?_)
  · intro h1
    (k_steps; repeat' (refine stop_out ?_; first | ((k_dflt (refine' s_if1 (slf := Str.ofString "self") (ns := tokNames) (gl_ok _) (cl451 _) ?F ?X ?T ?hs ?I ?hk ?hsk ?hsd ?ht ?_; (case F => k_asm); (case X => k_asm); (case T => k_asm); (case hs => rfl); (case I => k_inst); (case hk => rfl); (case hsk => rfl); (case hsd => rfl); (case ht => rfl); k_whole); intro _); k_steps) | ((first | (refine ite_t (by with_reducible assumption) ?_) | (refine ite_f (by with_reducible assumption) ?_) | (refine ite_f (Bool.and_false _) ?_) | (refine ite_f rfl ?_) | (refine ite_t rfl ?_)); k_steps) | (refine wpAny_If ?_; k_steps)))
    refine stop_out (ite_s ?_ ?_)
    · intro h2
      rw [sk_st hg h1 h2] at hM
      simp only [Option.some.injEq, Prod.mk.injEq] at hM
      obtain ⟨hM1, hM2⟩ := hM
      subst hM1 hM2
      (k_steps; repeat' (refine stop_out ?_; first | ((k_dflt (refine' s_if1 (slf := Str.ofString "self") (ns := tokNames) (gl_ok _) (cl451 _) ?F ?X ?T ?hs ?I ?hk ?hsk ?hsd ?ht ?_; (case F => k_asm); (case X => k_asm); (case T => k_asm); (case hs => rfl); (case I => k_inst); (case hk => rfl); (case hsk => rfl); (case hsd => rfl); (case ht => rfl); k_whole); intro _); k_steps) | ((first | (refine ite_t (by with_reducible assumption) ?_) | (refine ite_f (by with_reducible assumption) ?_) | (refine ite_f (Bool.and_false _) ?_) | (refine ite_f rfl ?_) | (refine ite_t rfl ?_)); k_steps) | (refine wpAny_If ?_; k_steps)))
      ((repeat (first | (with_reducible show Mine.Fw _ _ _ _; constructor) | k_unfold | (dsimp only [WPost]) | dsimp only)); refine' con_ret hret ?kF ?kN ?kz ?kr ?kg ?kd ?ko; (case kg => exact rfl); (case kd => exact rfl); (case ko => exact rfl); (case kF => with_reducible assumption); (case kN => with_reducible assumption); (case kz => with_reducible assumption); (case kr => exact ⟨_, _, _, _, _, _, _, _, _, rfl, rfl, rfl⟩))
    · intro h2
      rw [sk_go2 hg h1 h2] at hM
      (k_steps; repeat' (refine stop_out ?_; first | ((k_dflt (refine' s_if1 (slf := Str.ofString "self") (ns := tokNames) (gl_ok _) (cl451 _) ?F ?X ?T ?hs ?I ?hk ?hsk ?hsd ?ht ?_; (case F => k_asm); (case X => k_asm); (case T => k_asm); (case hs => rfl); (case I => k_inst); (case hk => rfl); (case hsk => rfl); (case hsd => rfl); (case ht => rfl); k_whole); intro _); k_steps) | ((first | (refine ite_t (by with_reducible assumption) ?_) | (refine ite_f (by with_reducible assumption) ?_) | (refine ite_f (Bool.and_false _) ?_) | (refine ite_f rfl ?_) | (refine ite_t rfl ?_)); k_steps) | (refine wpAny_If ?_; k_steps)))
      ((with_reducible rename News _ _ _ _ => nE); refine wpost_next (⟨none, 0, _, _, _, _, _, _, _, _⟩ : SkS) (by k_asm) nE (by exact fun _ h => h) (by exact (fc rfl (fc rfl fz))) (by exact ⟨hM, by assumption, by (try dsimp only); (first | lia | omega)⟩) (by exact Nat.lt_succ_self _) (by exact rfl) (by exact rfl) (by exact rfl))
  · intro h1
    rw [sk_go1 hg h1] at hM
    (k_steps; repeat' (refine stop_out ?_; first | ((k_dflt (refine' s_if1 (slf := Str.ofString "self") (ns := tokNames) (gl_ok _) (cl451 _) ?F ?X ?T ?hs ?I ?hk ?hsk ?hsd ?ht ?_; (case F => k_asm); (case X => k_asm); (case T => k_asm); (case hs => rfl); (case I => k_inst); (case hk => rfl); (case hsk => rfl); (case hsd => rfl); (case ht => rfl); k_whole); intro _); k_steps) | ((first | (refine ite_t (by with_reducible assumption) ?_) | (refine ite_f (by with_reducible assumption) ?_) | (refine ite_f (Bool.and_false _) ?_) | (refine ite_f rfl ?_) | (refine ite_t rfl ?_)); k_steps) | (refine wpAny_If ?_; k_steps)))
    ((with_reducible rename News _ _ _ _ => nE); refine wpost_next (⟨none, 0, _, _, _, _, _, _, _, _⟩ : SkS) (by k_asm) nE (by exact fun _ h => h) (by exact (fc rfl (fc rfl fz))) (by exact ⟨hM, by assumption, by (try dsimp only); (first | lia | omega)⟩) (by exact Nat.lt_succ_self _) (by exact rfl) (by exact rfl) (by exact rfl))
theorem over (v : VV) : PP v := by
  with_unfolding_all exact bad_all (hn := NN) (P := PP) core v
end skip_con_
theorem skip_con {w : World} {mean : ExcName → Option Value} {mg mb : Str → Option Value} {T D FA FD : Nat} {k0 k1 k2 k3 k4 k5 k6 k7 k8 k9 f0 f1 : Tok} {uc : Option Str} {tuc : Tok} {ut : Value} {q e a : Bool} {dl fn : Value} {tml tln ttx tat : Tok} {ml n : Int} {tx : Str} {k : Int} {r : Int} {σ' : TS}
   (hn1 : D < T) (hn2 : T < FD) (hn3 : FD < FA) (hO : Ok ⟨tx, k, uc, q, e, a, ml, n⟩) (hM : skipM 3000 ⟨tx, k, uc, q, e, a, ml, n⟩ 0 = some (r, σ')) :
    Con w mean mg mb 600 (.ref 256) [.ref T] (tokLed w T D FA FD k0 k1 k2 k3 k4 k5 k6 k7 k8 k9 f0 f1 (vUC uc tuc) ut (.int ml tml) q e a dl (.int n tln) fn (.str tx ttx) (.int k tat)) (fun _ => True)
      (fun _ v led' => ∃ c tc k' e' a' n' tr tln' tat', σ' = ⟨tx, k', some c, q, e', a', ml, n'⟩ ∧ v = .int r tr ∧ led' = tokLed w T D FA FD k0 k1 k2 k3 k4 k5 k6 k7 k8 k9 f0 f1 (.str c tc) ut (.int ml tml) q e' a' dl (.int n' tln') fn (.str tx ttx) (.int k' tat')) := fun outer base g s Q E => skip_con_.over (w, mean, mg, mb, T, D, FA, FD, k0, k1, k2, k3, k4, k5, k6, k7, k8, k9, f0, f1, uc, tuc, ut, q, e, a, dl, fn, tml, tln, ttx, tat, ml, n, tx, k, outer, base, g, s, Q, E) r σ' hn1 hn2 hn3 hO hM
theorem skip_con' {w : World} {mean : ExcName → Option Value} {mg mb : Str → Option Value} {T D FA FD : Nat} {k0 k1 k2 k3 k4 k5 k6 k7 k8 k9 f0 f1 : Tok} {uc : Option Str} {tuc : Tok} {ut : Value} {q e a : Bool} {dl fn : Value} {tml tln ttx tat : Tok} {ml n : Int} {tx : Str} {k : Int}
   (hn1 : D < T) (hn2 : T < FD) (hn3 : FD < FA) (hO : Ok ⟨tx, k, uc, q, e, a, ml, n⟩) :
    Con w mean mg mb 600 (.ref 256) [.ref T] (tokLed w T D FA FD k0 k1 k2 k3 k4 k5 k6 k7 k8 k9 f0 f1 (vUC uc tuc) ut (.int ml tml) q e a dl (.int n tln) fn (.str tx ttx) (.int k tat)) (fun _ => True)
      (fun _ v led' => ∃ r c tc k' e' a' n' tr tln' tat', skipM 3000 ⟨tx, k, uc, q, e, a, ml, n⟩ 0 = some (r, ⟨tx, k', some c, q, e', a', ml, n'⟩) ∧ Ok ⟨tx, k', some c, q, e', a', ml, n'⟩ ∧ v = .int r tr ∧ led' = tokLed w T D FA FD k0 k1 k2 k3 k4 k5 k6 k7 k8 k9 f0 f1 (.str c tc) ut (.int ml tml) q e' a' dl (.int n' tln') fn (.str tx ttx) (.int k' tat')) := by
  obtain ⟨r, c, σ', hM, hc, hO', h1, h2, h3⟩ := skip_total hO
  intro outer base g s Q E H hP hret
  refine skip_con hn1 hn2 hn3 hO hM outer base g s Q E H hP fun v led' h' tk D r' => hret v led' h' tk D ?_
  obtain ⟨c', tc, k', e', a', n', tr, tln', tat', e0, e1, e2⟩ := r'
  subst e0
  exact ⟨r, c', tc, k', e', a', n', tr, tln', tat', hM, hO', e1, e2⟩
end
end Mine
end

section
open PySem PySem.W PySem.Calls PyProof.Rows
set_option genInjectivity false
set_option genSizeOf false
namespace Mine
noncomputable abbrev tokenO (w : World) (t0 t1 t2 t3 : Tok) (ty : Int) (tty : Tok) (v : Str) (tv : Tok) (esc : Bool) (cm : Value) : Obj :=
  dictOf [ent w "ttype" t0 (.int ty tty), ent w "value" t1 (.str v tv), ent w "has_escape" t2 (.bool esc), ent w "comment" t3 cm] 4
theorem fill_s2 : PySem.Challenge.rw_jf0021_01 = PySem.Challenge.rw_jf0021_01 ∧ Mine.hd.heap_1 = Mine.hd.heap_1 := by
  k_fill
  exact ⟨rfl, rfl⟩
section
variable {w : World} {mean : ExcName → Option Value} {mg mb : Str → Option Value}
theorem off2 {news : List (Addr × Obj)} {x d : Nat} {a b : Obj} (h1 : ∀ p ∈ news, p.1 < d) (h2 : d < x) : ∀ p ∈ news, ∀ q ∈ [((x : Addr), a), ((d : Addr), b)], p.1 ≠ q.1 := by
  intro p hp q hq
  have h : @LT.lt Nat _ p.1 d := h1 p hp
  rcases List.mem_cons.mp hq with rfl | hq
  · exact Nat.ne_of_lt (Nat.lt_trans h h2)
  · rw [List.mem_singleton.mp hq]; exact Nat.ne_of_lt h
theorem skip_use {T D FA FD : Nat} {k0 k1 k2 k3 k4 k5 k6 k7 k8 k9 f0 f1 : Tok} {uc : Option Str} {tuc : Tok} {ut : Value} {q e a : Bool} {dl fn : Value} {tml tln ttx tat : Tok} {ml n : Int} {tx : Str} {k : Int}
    {A₀ A : Around} {base h₀ : Heap} {outer : List Env} {env : Env} {L : Addr} {m : Str → Option Value} {news : List (Addr × Obj)} {s : Shared} {Q E : Value → Shared → Prop}
    (hn1 : D < T) (hn2 : T < FD) (hn3 : FD < FA) (hO : Ok ⟨tx, k, uc, q, e, a, ml, n⟩)
    (B : Below A₀ base outer h₀) (F : Fr h₀ L s.heap m) (X : (Mine.hd.heap_1 w.params).In h₀) (N : News h₀ L s.heap news) (Tp : Top Mine.hd.view_39 (looseW Mine.hd.view_39 [Str.ofString "_law_pieces"]) mean mg mb h₀)
    (hA : A.frames = some (env :: outer)) (hf : env.frame = some L) (hke : env.scope.kind = .function) (hd : A.depth ≤ 600) (hu : A.units ≤ 600) (hh : A.handled = none)
    (h1 : ∀ p ∈ tokLed w T D FA FD k0 k1 k2 k3 k4 k5 k6 k7 k8 k9 f0 f1 (vUC uc tuc) ut (.int ml tml) q e a dl (.int n tln) fn (.str tx ttx) (.int k tat), p ∈ news)
    (ret : ∀ (r : Int) (c : Str) (k' : Int) (e' a' : Bool) (n' : Int) (tr tc tln' tat' : Tok) (h' : Heap) (tk : Nat), skipM 3000 ⟨tx, k, uc, q, e, a, ml, n⟩ 0 = some (r, ⟨tx, k', some c, q, e', a', ml, n'⟩) → Ok ⟨tx, k', some c, q, e', a', ml, n'⟩ → Fr h₀ L h' m →
      News h₀ L h' (tokLed w T D FA FD k0 k1 k2 k3 k4 k5 k6 k7 k8 k9 f0 f1 (.str c tc) ut (.int ml tml) q e' a' dl (.int n' tln') fn (.str tx ttx) (.int k' tat')) → Q (.int r tr) ⟨h', s.gens, s.drawn, tk, s.os⟩) :
    wpAny (model prg w) A (call (.ref 256) [.ref T]) Q E s := by
  refine Con.use0 (skip_con' hn1 hn2 hn3 hO) B F X N Tp hA hf hke hd hu hh h1 (fun _ _ => trivial) ?_
  rintro z v led' h' tk hz F' N' ⟨r, c, tc, k', e', a', n', tr, tln', tat', hs, hO', rfl, rfl⟩
  exact ret r c k' e' a' n' tr tc tln' tat' h' tk hs hO' F' N'
/-- what binds a token's four parts -/
noncomputable def TokB (w : World) (pos : List Value) (kw : List (Str × Value)) (ty : Int) (tty : Tok) (v : Str) (tv : Tok) (esc : Bool) (cm : Value) : Prop :=
  ∀ x s fd, (∃ oc od osl, (Mine.hd.heap_1 w.params).lookup 115 = some ⟨oc, od, .func fd, osl⟩) → (Mine.hd.heap_1 w.params).In s.heap → BindsTo s fd ⟨.ref x :: pos, kw⟩ [(Str.ofString "self", .ref x), (Str.ofString "ttype", .int ty tty), (Str.ofString "value", .str v tv), (Str.ofString "has_escape", .bool esc), (Str.ofString "comment", cm)]
set_option maxHeartbeats 8000000 in
theorem tokini {pos : List Value} {kw : List (Str × Value)} {x d : Nat} {ty : Int} {tty : Tok} {v : Str} {tv : Tok} {esc : Bool} {cm : Value} (hdx : d < x) (hb : TokB w pos kw ty tty v tv esc cm) :
    ConC w mean mg mb 600 (.ref 115) ⟨.ref x :: pos, kw⟩ [(x, instObj 209 d), (d, dictOf [] 0)] (fun _ r led' => r = .none ∧ ∃ t0 t1 t2 t3, led' = [(x, instObj 209 d), (d, tokenO w t0 t1 t2 t3 ty tty v tv esc cm)]) := by
  intro outer base g s Rr H hret
  (k_dflt (refine' con_enter ?kH ?k1 ?k2 ?k3 ?k4 ?k5 ?_ ?c1 ?c2 ?c3 ?c4; (case kH => with_reducible assumption); (case k1 => k_is); (case k2 => k_is); (case k3 => k_room); (case k4 => exact hb x s _ ⟨_, _, _, by k_is⟩ (H.k.keeps H.st)); (case k5 => exact locs rfl); (case c1 => exact rfl); (case c2 => exact rfl); (case c3 => exact rfl); (case c4 => decide); intro L' h' tk' F' N' B' X' T' hz' hl'; (try dsimp only); (try k_fold)))
  k_steps
  ((repeat (first | (with_reducible show Mine.Fw _ _ _ _; constructor) | k_unfold | (dsimp only [WPost]) | dsimp only)); refine' con_ret (Q := fun v s' => Rr (Except.ok (Flow.ret v)) s') hret ?kF ?kN ?kz ?kr ?kg ?kd ?ko; (case kg => exact rfl); (case kd => exact rfl); (case ko => exact rfl); (case kF => with_reducible assumption); (case kz => with_reducible assumption); (case kN => with_reducible assumption); (case kr => exact ⟨rfl, _, _, _, _, rfl⟩))
theorem tok_use {pos : List Value} {kw : List (Str × Value)} {ty : Int} {tty : Tok} {v : Str} {tv : Tok} {esc : Bool} {cm : Value}
    {A₀ A : Around} {base h₀ : Heap} {outer : List Env} {env : Env} {L : Addr} {m : Str → Option Value} {news : List (Addr × Obj)} {s : Shared} {Q E : Value → Shared → Prop}
    (hb : TokB w pos kw ty tty v tv esc cm)
    (B : Below A₀ base outer h₀) (F : Fr h₀ L s.heap m) (X : (Mine.hd.heap_1 w.params).In h₀) (N : News h₀ L s.heap news) (Tp : Top Mine.hd.view_39 (looseW Mine.hd.view_39 [Str.ofString "_law_pieces"]) mean mg mb h₀)
    (hA : A.frames = some (env :: outer)) (hf : env.frame = some L) (hke : env.scope.kind = .function) (hd : A.depth ≤ 590) (hu : A.units ≤ 590) (hh : A.handled = none)
    (ret : ∀ (x d : Nat) (t0 t1 t2 t3 : Tok) (h' : Heap) (tk : Nat), (∀ p ∈ news, p.1 < d) → d < x → Fr h₀ L h' m →
      News h₀ L h' ((x, instObj 209 d) :: (d, tokenO w t0 t1 t2 t3 ty tty v tv esc cm) :: news) → Q (.ref x) ⟨h', s.gens, s.drawn, tk, s.os⟩) :
    wpAny (model prg w) A (call (.ref 209) pos kw) Q E s := by
  refine call_cls F X N (by k_is) (by k_is) (by k_is) ?_
  intro x d h' F' N' l1 l2
  refine ConC.use (outer := outer) (env := env) (rest := news) (tokini l2 hb) B F' X N' Tp hA hf hke (Nat.le_trans (Nat.add_le_add_right hd _) (Nat.le_of_ble_eq_true rfl)) (Nat.le_trans (Nat.add_le_add_right hu _) (Nat.le_of_ble_eq_true rfl)) hh (fc (List.Mem.head _) (fc (List.Mem.tail _ (List.Mem.head _)) fz)) (fun _ h => List.Mem.tail _ (List.Mem.tail _ h)) (off2 l1 l2) ?_
  rintro z r led' h'' tk hz F'' N'' ho ⟨rfl, t0, t1, t2, t3, rfl⟩
  exact ⟨rfl, ret x d t0 t1 t2 t3 h'' tk l1 l2 F'' N''⟩
theorem tb_of {s : Shared} {name qual : Str} {params : Arguments} {body : List Stmt} {scope : Scope} {dV kV doc pm cdv ct oc : Value} {an od : Option Addr} {osl : Array (Option Value)} {f : Addr} {args : Args} {binds : List (Str × Value)} {fd : FuncData}
    (ho : (Mine.hd.heap_1 w.params).lookup f = some ⟨oc, od, .func (fnOf name qual params body scope dV kV doc pm an cdv ct), osl⟩) (e : ∃ oc od osl, (Mine.hd.heap_1 w.params).lookup f = some ⟨oc, od, .func fd, osl⟩)
    (h : BindsTo s (fnOf name qual params body scope dV kV doc pm an cdv ct) args binds) : BindsTo s fd args binds := by
  obtain ⟨_, _, _, e⟩ := e
  rw [ho] at e
  injection e with e
  injection e with _ _ e
  injection e with e
  rw [← e]
  exact h
theorem tb2 {ty : Int} {tty : Tok} {v : Str} {tv : Tok} : TokB w [.int ty tty, .str v tv] [] ty tty v tv false .none := by
  intro x s fd e X
  refine' tb_of ?ho e ?_
  case ho => k_is
  exact binds_K X rfl (by k_is) rfl rfl rfl
theorem tb3 {ty : Int} {tty : Tok} {v : Str} {tv : Tok} {esc : Bool} : TokB w [.int ty tty, .str v tv, .bool esc] [] ty tty v tv esc .none := by
  intro x s fd e X
  refine' tb_of ?ho e ?_
  case ho => k_is
  exact binds_K X rfl (by k_is) rfl rfl rfl
theorem tbk1 {ty : Int} {tty : Tok} {cm : Str} {tcm : Tok} : TokB w [.int ty tty] [(Str.ofString "comment", .str cm tcm)] ty tty (Str.ofString "") 341 false (.str cm tcm) := by
  intro x s fd e X
  refine' tb_of ?ho e ?_
  case ho => k_is
  exact binds_K X rfl (by k_is) rfl rfl rfl
theorem tbk2 {ty : Int} {tty : Tok} {cm v : Str} {tcm tv : Tok} : TokB w [.int ty tty, .str v tv] [(Str.ofString "comment", .str cm tcm)] ty tty v tv false (.str cm tcm) := by
  intro x s fd e X
  refine' tb_of ?ho e ?_
  case ho => k_is
  exact binds_K X rfl (by k_is) rfl rfl rfl
set_option maxHeartbeats 8000000 in
theorem ung_con {T D FA FD : Nat} {k0 k1 k2 k3 k4 k5 k6 k7 k8 k9 f0 f1 : Tok} {c : Str} {tc : Tok} {ut ml : Value} {q e a : Bool} {dl ln fn tx at_ : Value}
   (hn1 : D < T) (hn2 : T < FD) (hn3 : FD < FA) :
    Con w mean mg mb 600 (.ref 249) [.ref T, .str c tc] (tokLed w T D FA FD k0 k1 k2 k3 k4 k5 k6 k7 k8 k9 f0 f1 .none ut ml q e a dl ln fn tx at_) (fun _ => True)
      (fun _ v led' => v = .none ∧ led' = tokLed w T D FA FD k0 k1 k2 k3 k4 k5 k6 k7 k8 k9 f0 f1 (.str c tc) ut ml q e a dl ln fn tx at_) := by
  intro outer base g s Q E H _ hret
  (refine wpAny_call ?_; k_dflt (refine' con_enter ?kH ?k1 ?k2 ?k3 ?k4 ?k5 ?_ ?c1 ?c2 ?c3 ?c4; (case kH => with_reducible assumption); (case k1 => k_is); (case k2 => k_is); (case k3 => k_room); (case k4 => first | exact BindsTo.of_eq rfl | exact binds_K (H.k.keeps H.st) rfl (by k_is) rfl rfl rfl); (case k5 => exact locs rfl); (case c1 => exact rfl); (case c2 => exact rfl); (case c3 => exact rfl); (case c4 => decide); intro L' h' tk' F' N' B' X' T' hz' hl'; (try dsimp only); (try k_fold)))
  k_steps
  all_goals ((repeat (first | (with_reducible show Mine.Fw _ _ _ _; constructor) | k_unfold | (dsimp only [WPost]) | dsimp only)); refine' con_ret hret ?kF ?kN ?kz ?kr ?kg ?kd ?ko; (case kg => exact rfl); (case kd => exact rfl); (case ko => exact rfl); (case kF => with_reducible assumption); (case kN => with_reducible assumption); (case kz => with_reducible assumption); (case kr => exact ⟨rfl, rfl⟩))
theorem ung_use {T D FA FD : Nat} {k0 k1 k2 k3 k4 k5 k6 k7 k8 k9 f0 f1 : Tok} {c : Str} {tc : Tok} {ut ml : Value} {q e a : Bool} {dl ln fn tx at_ : Value}
    {A₀ A : Around} {base h₀ : Heap} {outer : List Env} {env : Env} {L : Addr} {m : Str → Option Value} {news : List (Addr × Obj)} {s : Shared} {Q E : Value → Shared → Prop}
    (hn1 : D < T) (hn2 : T < FD) (hn3 : FD < FA)
    (B : Below A₀ base outer h₀) (F : Fr h₀ L s.heap m) (X : (Mine.hd.heap_1 w.params).In h₀) (N : News h₀ L s.heap news) (Tp : Top Mine.hd.view_39 (looseW Mine.hd.view_39 [Str.ofString "_law_pieces"]) mean mg mb h₀)
    (hA : A.frames = some (env :: outer)) (hf : env.frame = some L) (hke : env.scope.kind = .function) (hd : A.depth ≤ 600) (hu : A.units ≤ 600) (hh : A.handled = none)
    (h1 : ∀ p ∈ tokLed w T D FA FD k0 k1 k2 k3 k4 k5 k6 k7 k8 k9 f0 f1 .none ut ml q e a dl ln fn tx at_, p ∈ news)
    (ret : ∀ (h' : Heap) (tk : Nat), Fr h₀ L h' m → News h₀ L h' (tokLed w T D FA FD k0 k1 k2 k3 k4 k5 k6 k7 k8 k9 f0 f1 (.str c tc) ut ml q e a dl ln fn tx at_) → Q .none ⟨h', s.gens, s.drawn, tk, s.os⟩) :
    wpAny (model prg w) A (call (.ref 249) [.ref T, .str c tc]) Q E s := by
  refine Con.use0 (ung_con hn1 hn2 hn3) B F X N Tp hA hf hke hd hu hh h1 (fun _ _ => trivial) ?_
  rintro z v led' h' tk hz F' N' ⟨rfl, rfl⟩
  exact ret h' tk F' N'
end
end Mine
end

section
set_option genInjectivity false
set_option genSizeOf false
open PySem PySem.W
namespace Mine
/-- a piece of the law's own cut -/
inductive Pc where
  | space (c : Str)
  | line (c : Str)
  | lp
  | rp
  | str (v : Str) (e : Bool)
  | shut
  | wrongNl
  | wrongEnd
  | note (v : Str)
  | word (v : Str) (e : Bool)
  | fin
noncomputable def Pc.kind : Pc → Str
  | .space _ => Str.ofString "space"
  | .line _ => Str.ofString "line"
  | .lp => Str.ofString "("
  | .rp => Str.ofString ")"
  | .str _ _ => Str.ofString "string"
  | .shut => Str.ofString "shut"
  | .wrongNl => Str.ofString "wrong"
  | .wrongEnd => Str.ofString "wrong"
  | .note _ => Str.ofString "note"
  | .word _ _ => Str.ofString "word"
  | .fin => Str.ofString "end"
noncomputable def Pc.val : Pc → Str
  | .space c => c
  | .line c => c
  | .lp => Str.ofString "("
  | .rp => Str.ofString ")"
  | .str v _ => v
  | .shut => Str.ofString ""
  | .wrongNl => Str.ofString "newline"
  | .wrongEnd => Str.ofString "end"
  | .note v => v
  | .word v _ => v
  | .fin => Str.ofString ""
noncomputable def Pc.esc : Pc → Bool
  | .str _ e => e
  | .word _ e => e
  | _ => false
end Mine
namespace Mine
noncomputable def strM : Nat → Str → Int → Str → Bool → Option (Pc × Int)
  | 0, _, _, _, _ => none
  | n + 1, tx, k, v, e =>
    if k < (tx.length : Int) then
      if (Txt.item tx k == Str.ofString "\"") = true then some (.str v e, k + 1)
      else if (Txt.item tx k == Str.ofString "\n") = true then some (.wrongNl, tx.length)
      else if (Txt.item tx k == Str.ofString "\\") = true then
        if k + 1 = (tx.length : Int) then some (.wrongEnd, tx.length)
        else strM n tx (k + 1 + 1) (v ++ Str.ofString "\\" ++ Txt.item tx (k + 1)) true
      else strM n tx (k + 1) (v ++ Txt.item tx k) e
    else some (.wrongEnd, tx.length)
end Mine
namespace Mine
theorem len_bs : (Str.ofString "\\").length = 1 := by decide +kernel
noncomputable abbrev notIn (x c : Str) : Bool := (Builtin.Str.occurrences x c 0 x.length 1).isEmpty
noncomputable abbrev lStop : Str := Str.ofString " \t\n\r;()\""
noncomputable abbrev lLine : Str := Str.ofString "\n\r"
noncomputable def wordM : Nat → Str → Int → Str → Bool → Option (Pc × Int)
  | 0, _, _, _, _ => none
  | n + 1, tx, k, v, e =>
    if k < (tx.length : Int) then
      if notIn lStop (Txt.item tx k) = true then
        if (Txt.item tx k == Str.ofString "\\") = true then
          if k + 1 = (tx.length : Int) then some (.wrongEnd, tx.length)
          else if notIn lLine (Txt.item tx (k + 1)) = true then wordM n tx (k + 1 + 1) (v ++ Str.ofString "\\" ++ Txt.item tx (k + 1)) true
          else some (.wrongEnd, tx.length)
        else wordM n tx (k + 1) (v ++ Txt.item tx k) e
      else some (.word v e, k)
    else some (.word v e, k)
noncomputable def cnoteM : Nat → Str → Int → Str → Option (Pc × Int)
  | 0, _, _, _ => none
  | n + 1, tx, k, v =>
    if k < (tx.length : Int) then
      if notIn lLine (Txt.item tx k) = true then cnoteM n tx (k + 1) (v ++ Txt.item tx k)
      else some (.note v, k)
    else some (.note v, k)
end Mine
namespace Mine
noncomputable abbrev lBlank : Str := Str.ofString " \t"
noncomputable abbrev lPar : Str := Str.ofString "()"
noncomputable def pcPar (c : Str) : Pc := if c = Str.ofString "(" then .lp else .rp
noncomputable def pcAfter (p : Pc) : List Pc := match p with
  | .str v e => [.str v e, .shut]
  | p => [p]
noncomputable def cutM : Nat → Str → Int → List Pc → Option (List Pc)
  | 0, _, _, _ => none
  | n + 1, tx, k, acc =>
    if acc.length ≤ 5000 then
    if k < (tx.length : Int) then
      if notIn lBlank (Txt.item tx k) = false then cutM n tx (k + 1) (acc ++ [.space (Txt.item tx k)])
      else if notIn lLine (Txt.item tx k) = false then
        cutM n tx (k + (if (Txt.slice tx (some k) (some (k + 2)) == Str.ofString "\r\n") = true then 2 else 1)) (acc ++ [.line (Txt.item tx k)])
      else if notIn lPar (Txt.item tx k) = false then cutM n tx (k + 1) (acc ++ [pcPar (Txt.item tx k)])
      else if (Txt.item tx k == Str.ofString "\"") = true then
        (match strM 3000 tx (k + 1) (Str.ofString "") false with
        | none => none
        | some (p, k') => cutM n tx k' (acc ++ pcAfter p))
      else if (Txt.item tx k == Str.ofString ";") = true then
        (match cnoteM 3000 tx (k + 1) (Str.ofString "") with
        | none => none
        | some (p, k') => cutM n tx k' (acc ++ [p]))
      else
        (match wordM 3000 tx k (Str.ofString "") false with
        | none => none
        | some (p, k') => cutM n tx k' (acc ++ [p]))
    else some (acc ++ [.fin])
    else none
theorem cutM_len {n : Nat} {tx : Str} {k : Int} {acc r : List Pc} (h : cutM (n + 1) tx k acc = some r) : acc.length ≤ 5000 := by
  rw [cutM] at h
  by_cases e : acc.length ≤ 5000
  · exact e
  · rw [if_neg e] at h; cases h
end Mine
namespace Mine
theorem strM_total (tx : Str) : ∀ (n : Nat) (k : Int) (v : Str) (e : Bool), 0 ≤ k → (tx.length : Int) - k < n → 0 < n → ∃ p k', strM n tx k v e = some (p, k') ∧ 0 ≤ k' ∧ ((∃ v e, p = .str v e) ∨ p = .wrongNl ∨ p = .wrongEnd) := by
  intro n
  induction n with
  | zero => intro k v e h0 h h1; exact absurd h1 (Nat.lt_irrefl _)
  | succ n ih =>
    intro k v e h0 h _
    rw [strM]
    split
    · split
      · exact ⟨_, _, rfl, by (first | lia | omega), .inl ⟨_, _, rfl⟩⟩
      · split
        · exact ⟨_, _, rfl, by (first | lia | omega), .inr (.inl rfl)⟩
        · split
          · split
            · exact ⟨_, _, rfl, by (first | lia | omega), .inr (.inr rfl)⟩
            · exact ih _ _ _ (by (first | lia | omega)) (by (first | lia | omega)) (by (first | lia | omega))
          · exact ih _ _ _ (by (first | lia | omega)) (by (first | lia | omega)) (by (first | lia | omega))
    · exact ⟨_, _, rfl, by (first | lia | omega), .inr (.inr rfl)⟩
theorem wordM_total (tx : Str) : ∀ (n : Nat) (k : Int) (v : Str) (e : Bool), 0 ≤ k → (tx.length : Int) - k < n → 0 < n → ∃ p k', wordM n tx k v e = some (p, k') ∧ 0 ≤ k' ∧ ((∃ v e, p = .word v e) ∨ p = .wrongEnd) := by
  intro n
  induction n with
  | zero => intro k v e h0 h h1; exact absurd h1 (Nat.lt_irrefl _)
  | succ n ih =>
    intro k v e h0 h _
    rw [wordM]
    split
    · split
      · split
        · split
          · exact ⟨_, _, rfl, by (first | lia | omega), .inr rfl⟩
          · split
            · exact ih _ _ _ (by (first | lia | omega)) (by (first | lia | omega)) (by (first | lia | omega))
            · exact ⟨_, _, rfl, by (first | lia | omega), .inr rfl⟩
        · exact ih _ _ _ (by (first | lia | omega)) (by (first | lia | omega)) (by (first | lia | omega))
      · exact ⟨_, _, rfl, by (first | lia | omega), .inl ⟨_, _, rfl⟩⟩
    · exact ⟨_, _, rfl, by (first | lia | omega), .inl ⟨_, _, rfl⟩⟩
theorem cnoteM_total (tx : Str) : ∀ (n : Nat) (k : Int) (v : Str), 0 ≤ k → (tx.length : Int) - k < n → 0 < n → ∃ p k', cnoteM n tx k v = some (p, k') ∧ 0 ≤ k' ∧ (∃ v, p = .note v) := by
  intro n
  induction n with
  | zero => intro k v h0 h h1; exact absurd h1 (Nat.lt_irrefl _)
  | succ n ih =>
    intro k v h0 h _
    rw [cnoteM]
    split
    · split
      · exact ih _ _ (by (first | lia | omega)) (by (first | lia | omega)) (by (first | lia | omega))
      · exact ⟨_, _, rfl, by (first | lia | omega), ⟨_, rfl⟩⟩
    · exact ⟨_, _, rfl, by (first | lia | omega), ⟨_, rfl⟩⟩
theorem notIn_one {c : Nat} {x : Str} : notIn x ⟨#[c]⟩ = !(x.cps.toList.contains c) := by
  have h := StrLaws.found_one x c
  have h2 : decide (c ∈ x.cps.toList) = x.cps.toList.contains c := by rw [List.contains_eq_mem]
  rw [h2] at h
  show (Builtin.Str.occurrences x ⟨#[c]⟩ 0 x.length 1).isEmpty = _
  rw [← h, Bool.not_not]
theorem item_one {tx : Str} {k : Int} (h0 : 0 ≤ k) (h1 : k < tx.length) : Txt.item tx k = ⟨#[tx.cps.getD k.toNat 0]⟩ :=
  eq_of_beq (PyProof.Rows.item_closes ⟨h0, h1⟩)
theorem par_cases {c : Str} (h : notIn lPar c = false) (h1 : 1 ≤ c.length ∧ c.length ≤ 1) : c = Str.ofString "(" ∨ c = Str.ofString ")" := by
  obtain ⟨⟨l⟩⟩ := c
  match l, h1 with
  | [a], _ =>
    rw [show (⟨⟨[a]⟩⟩ : Str) = ⟨#[a]⟩ from rfl, notIn_one] at h
    have e : (lPar).cps.toList = [40, 41] := by decide +kernel
    rw [e] at h
    have h2 : a = 40 ∨ a = 41 := by
      have h3 : ¬a = 40 → a = 41 := by simpa using h
      (first | lia | omega)
    rcases h2 with rfl | rfl
    · left; decide +kernel
    · right; decide +kernel
  | [], h1 => exact absurd h1.1 (by decide)
  | _ :: _ :: r, h1 => exact absurd h1.2 (by show ¬ (r.length + 1 + 1 ≤ 1); (first | lia | omega))
theorem not_string {c : Str} (h : (c == Str.ofString "string") = true) (h1 : 1 ≤ c.length ∧ c.length ≤ 1) : False := by
  have := len_of_beq h
  rw [show (Str.ofString "string").length = 6 by decide +kernel] at this
  (first | lia | omega)
end Mine
namespace Mine
/-- past the blanks -/
noncomputable def pastM : Nat → List Pc → Int → Int → Option Int
  | 0, _, _, _ => none
  | n + 1, ps, k, d =>
    match ps[k.toNat]? with
    | none => none
    | some p =>
      match p with
      | .space _ => pastM n ps (k + 1) d
      | .line _ => if 0 < d then pastM n ps (k + 1) d else some k
      | _ => some k
/-- what is due: a token, or a wrong; the place; the depth -/
noncomputable def nextL : Nat → Bool → List Pc → Int → Int → Option (Res × Int × Int)
  | 0, _, _, _, _ => none
  | n + 1, note, ps, k, d =>
    match ps[k.toNat]? with
    | none => none
    | some p =>
      match p with
      | .lp => (match pastM 3000 ps (k + 1) (d + 1) with
        | none => none
        | some k' => nextL n note ps k' (d + 1))
      | .rp => if d + -1 < 0 then some (.syn, k, d + -1) else (match pastM 3000 ps (k + 1) (d + -1) with
        | none => none
        | some k' => nextL n note ps k' (d + -1))
      | .shut => if d + 0 < 0 then some (.syn, k, d + 0) else (match pastM 3000 ps (k + 1) (d + 0) with
        | none => none
        | some k' => nextL n note ps k' (d + 0))
      | .note v =>
        if note = true then some (.tok 5 v false none, k + 1, d)
        else (match ps[(k + 1).toNat]? with
          | none => none
          | some .fin => if 0 < d then some (.syn, k + 1, d) else some (.tok 0 (Str.ofString "") false (some v), k + 1, d)
          | some _ =>
            if d = 0 then some (.tok 1 (Str.ofString "\n") false (some v), k + 2, d)
            else (match pastM 3000 ps (k + 1) d with
              | none => none
              | some k' => nextL n note ps k' d))
      | .line _ => some (.tok 1 (Str.ofString "\n") false none, k + 1, d)
      | .fin => if 0 < d then some (.syn, k, d) else some (.tok 0 (Str.ofString "") false none, k, d)
      | .wrongNl => some (.syn, k, d)
      | .wrongEnd => some (.fin, k, d)
      | .word v e => some (.tok 3 v e none, k + 1, d)
      | .str v e => some (.tok 4 v e none, k + 1, d)
      | .space _ => none
/-- a turn of next, told by the piece -/
noncomputable def nextB (go : Int → Int → Option (Res × Int × Int)) (note : Bool) (ps : List Pc) (k d : Int) (p : Pc) : Option (Res × Int × Int) :=
  match p with
      | .lp => (match pastM 3000 ps (k + 1) (d + 1) with
        | none => none
        | some k' => go k' (d + 1))
      | .rp => if d + -1 < 0 then some (.syn, k, d + -1) else (match pastM 3000 ps (k + 1) (d + -1) with
        | none => none
        | some k' => go k' (d + -1))
      | .shut => if d + 0 < 0 then some (.syn, k, d + 0) else (match pastM 3000 ps (k + 1) (d + 0) with
        | none => none
        | some k' => go k' (d + 0))
      | .note v =>
        if note = true then some (.tok 5 v false none, k + 1, d)
        else (match ps[(k + 1).toNat]? with
          | none => none
          | some .fin => if 0 < d then some (.syn, k + 1, d) else some (.tok 0 (Str.ofString "") false (some v), k + 1, d)
          | some _ =>
            if d = 0 then some (.tok 1 (Str.ofString "\n") false (some v), k + 2, d)
            else (match pastM 3000 ps (k + 1) d with
              | none => none
              | some k' => go k' d))
      | .line _ => some (.tok 1 (Str.ofString "\n") false none, k + 1, d)
      | .fin => if 0 < d then some (.syn, k, d) else some (.tok 0 (Str.ofString "") false none, k, d)
      | .wrongNl => some (.syn, k, d)
      | .wrongEnd => some (.fin, k, d)
      | .word v e => some (.tok 3 v e none, k + 1, d)
      | .str v e => some (.tok 4 v e none, k + 1, d)
      | .space _ => none
theorem nextL_b {n : Nat} {note : Bool} {ps : List Pc} {k d : Int} {p : Pc} {R : Option (Res × Int × Int)} (h : nextL (n + 1) note ps k d = R) (hp : ps[k.toNat]? = some p) : nextB (nextL n note ps) note ps k d p = R := by
  rw [← h, nextL, hp]
  cases p <;> rfl
theorem nextL_e {n : Nat} {note : Bool} {ps : List Pc} {k d : Int} {p : Pc} (hp : ps[k.toNat]? = some p) : nextL (n + 1) note ps k d = nextB (nextL n note ps) note ps k d p := (nextL_b rfl hp).symm
theorem nextL_n {n : Nat} {note : Bool} {ps : List Pc} {k d : Int} (hp : ps[k.toNat]? = none) : nextL (n + 1) note ps k d = none := by rw [nextL, hp]
noncomputable def nextM (lead note : Bool) (ps : List Pc) (k d : Int) : Option (Res × Int × Int) :=
  match pastM 3000 ps k d with
  | none => none
  | some k' => if lead = true ∧ k < k' then some (.tok 2 (Str.ofString " ") false none, k', d) else nextL 3000 note ps k' d
end Mine
namespace Mine
section
variable {n : Nat} {tx : Str} {k : Int} {v : Str} {e : Bool}
theorem sm0 (h : ¬ k < (tx.length : Int)) : strM (n + 1) tx k v e = some (Pc.wrongEnd, (tx.length : Int)) := by rw [strM, if_neg h]
theorem sm1 (h : k < (tx.length : Int)) (h1 : (Txt.item tx k == Str.ofString "\"") = true) : strM (n + 1) tx k v e = some (Pc.str v e, k + 1) := by rw [strM, if_pos h, if_pos h1]
theorem sm2 (h : k < (tx.length : Int)) (h1 : (Txt.item tx k == Str.ofString "\"") = false) (h2 : (Txt.item tx k == Str.ofString "\n") = true) : strM (n + 1) tx k v e = some (Pc.wrongNl, (tx.length : Int)) := by
  rw [strM, if_pos h, if_neg (by rw [h1]; decide), if_pos h2]
theorem sm3 (h : k < (tx.length : Int)) (h1 : (Txt.item tx k == Str.ofString "\"") = false) (h2 : (Txt.item tx k == Str.ofString "\n") = false) (h3 : (Txt.item tx k == Str.ofString "\\") = true) (h4 : k + 1 = (tx.length : Int)) : strM (n + 1) tx k v e = some (Pc.wrongEnd, (tx.length : Int)) := by
  rw [strM, if_pos h, if_neg (by rw [h1]; decide), if_neg (by rw [h2]; decide), if_pos h3, if_pos h4]
theorem sm4 (h : k < (tx.length : Int)) (h1 : (Txt.item tx k == Str.ofString "\"") = false) (h2 : (Txt.item tx k == Str.ofString "\n") = false) (h3 : (Txt.item tx k == Str.ofString "\\") = true) (h4 : k + 1 ≠ (tx.length : Int)) : strM (n + 1) tx k v e = strM n tx (k + 1 + 1) (v ++ Str.ofString "\\" ++ Txt.item tx (k + 1)) true := by
  rw [strM, if_pos h, if_neg (by rw [h1]; decide), if_neg (by rw [h2]; decide), if_pos h3, if_neg h4]
theorem sm5 (h : k < (tx.length : Int)) (h1 : (Txt.item tx k == Str.ofString "\"") = false) (h2 : (Txt.item tx k == Str.ofString "\n") = false) (h3 : (Txt.item tx k == Str.ofString "\\") = false) : strM (n + 1) tx k v e = strM n tx (k + 1) (v ++ Txt.item tx k) e := by
  rw [strM, if_pos h, if_neg (by rw [h1]; decide), if_neg (by rw [h2]; decide), if_neg (by rw [h3]; decide)]
theorem wm0 (h : ¬ k < (tx.length : Int)) : wordM (n + 1) tx k v e = some (Pc.word v e, k) := by rw [wordM, if_neg h]
theorem wm1 (h : k < (tx.length : Int)) (h1 : notIn lStop (Txt.item tx k) = false) : wordM (n + 1) tx k v e = some (Pc.word v e, k) := by rw [wordM, if_pos h, if_neg (by rw [h1]; decide)]
theorem wm2 (h : k < (tx.length : Int)) (h1 : notIn lStop (Txt.item tx k) = true) (h2 : (Txt.item tx k == Str.ofString "\\") = true) (h3 : k + 1 = (tx.length : Int)) : wordM (n + 1) tx k v e = some (Pc.wrongEnd, (tx.length : Int)) := by
  rw [wordM, if_pos h, if_pos h1, if_pos h2, if_pos h3]
theorem wm3 (h : k < (tx.length : Int)) (h1 : notIn lStop (Txt.item tx k) = true) (h2 : (Txt.item tx k == Str.ofString "\\") = true) (h3 : k + 1 ≠ (tx.length : Int)) (h4 : notIn lLine (Txt.item tx (k + 1)) = false) : wordM (n + 1) tx k v e = some (Pc.wrongEnd, (tx.length : Int)) := by
  rw [wordM, if_pos h, if_pos h1, if_pos h2, if_neg h3, if_neg (by rw [h4]; decide)]
theorem wm4 (h : k < (tx.length : Int)) (h1 : notIn lStop (Txt.item tx k) = true) (h2 : (Txt.item tx k == Str.ofString "\\") = true) (h3 : k + 1 ≠ (tx.length : Int)) (h4 : notIn lLine (Txt.item tx (k + 1)) = true) : wordM (n + 1) tx k v e = wordM n tx (k + 1 + 1) (v ++ Str.ofString "\\" ++ Txt.item tx (k + 1)) true := by
  rw [wordM, if_pos h, if_pos h1, if_pos h2, if_neg h3, if_pos h4]
theorem wm5 (h : k < (tx.length : Int)) (h1 : notIn lStop (Txt.item tx k) = true) (h2 : (Txt.item tx k == Str.ofString "\\") = false) : wordM (n + 1) tx k v e = wordM n tx (k + 1) (v ++ Txt.item tx k) e := by
  rw [wordM, if_pos h, if_pos h1, if_neg (by rw [h2]; decide)]
theorem cn0 (h : ¬ k < (tx.length : Int)) : cnoteM (n + 1) tx k v = some (Pc.note v, k) := by rw [cnoteM, if_neg h]
theorem cn1 (h : k < (tx.length : Int)) (h1 : notIn lLine (Txt.item tx k) = false) : cnoteM (n + 1) tx k v = some (Pc.note v, k) := by rw [cnoteM, if_pos h, if_neg (by rw [h1]; decide)]
theorem cn2 (h : k < (tx.length : Int)) (h1 : notIn lLine (Txt.item tx k) = true) : cnoteM (n + 1) tx k v = cnoteM n tx (k + 1) (v ++ Txt.item tx k) := by rw [cnoteM, if_pos h, if_pos h1]
end
end Mine
end

section
open PySem PySem.W PySem.Calls PyProof.Rows
set_option genInjectivity false
set_option genSizeOf false
namespace Mine
section
variable {n : Nat} {note : Bool} {σ σ1 σ2 : TS} {c c2 tk : Str} {ty : Int} {esc : Bool} {r : Res × TS}
noncomputable abbrev del7 (c : Str) : Bool := c == Str.ofString "" || [Str.ofString " ", Str.ofString "\t", Str.ofString "\n", Str.ofString ";", Str.ofString "(", Str.ofString ")", Str.ofString "\""].any (· == c)
noncomputable abbrev del1 (c : Str) : Bool := c == Str.ofString "" || [Str.ofString "\""].any (· == c)
theorem del7_t (t1 : del7 c = true) : c = Str.ofString "" ∨ Del c := by
  rcases Bool.or_eq_true_iff.mp t1 with h | h
  · exact .inl (eq_of_beq h)
  · refine .inr (del_of ?_)
    simp only [List.any_cons, List.any_nil, Bool.or_false, Bool.or_eq_true, beq_iff_eq] at h
    rcases h with h | h | h | h | h | h | h <;> simp [← h]
theorem del7_f (t1 : del7 c = false) (hb : (c == Str.ofString "\\") = false) : Other c := by
  rcases cls c with h | h | h | h | h | h | h | h | h | h
  · subst h; exact absurd t1 (by decide +kernel)
  · subst h; exact absurd t1 (by decide +kernel)
  · subst h; exact absurd t1 (by decide +kernel)
  · subst h; exact absurd t1 (by decide +kernel)
  · subst h; exact absurd t1 (by decide +kernel)
  · subst h; exact absurd t1 (by decide +kernel)
  · subst h; exact absurd t1 (by decide +kernel)
  · subst h; exact absurd t1 (by decide +kernel)
  · subst h; exact absurd hb (by decide +kernel)
  · exact h
theorem t3_f (t3 : (tk == Str.ofString "" && ty != 4) = false) : (tk == Str.ofString "") = false ∨ ty = 4 := by
  rcases Bool.and_eq_false_iff.mp t3 with h | h
  · exact .inl h
  · exact .inr (by simpa using h)
theorem t3_t (t3 : (tk == Str.ofString "" && ty != 4) = true) : tk = Str.ofString "" ∧ ty ≠ 4 := by
  obtain ⟨h1, h2⟩ := Bool.and_eq_true_iff.mp t3
  exact ⟨eq_of_beq h1, by simpa using h2⟩
theorem mb_len (hM : getM (n + 1) note σ tk ty esc = some r) (hg : getc σ = (c, σ1)) (hb : (c == Str.ofString "\\") = true) : tk.length ≤ 5000 := by
  rw [eq_of_beq hb] at hg
  exact getM_len_bs hM hg
theorem mb_len2 (hM : getM (n + 1) note σ tk ty esc = some r) (hg : getc σ = (c, σ1)) (hb : (c == Str.ofString "\\") = true) : tk.length ≤ 5000 ∧ c.length ≤ 5000 :=
  ⟨mb_len hM hg hb, by rw [eq_of_beq hb]; decide +kernel⟩
theorem mb_pair (hM : getM (n + 1) note σ tk ty esc = some r) (hg : getc σ = (c, σ1)) (hb : (c == Str.ofString "\\") = true) (hg2 : getc σ1 = (c2, σ2)) :
    (if (c2 == Str.ofString "") = true then some (.fin, σ2)
            else if (c2 == Str.ofString "\n") = true then
              (if σ.q = true then getM n note σ2 (tk ++ c ++ c2) ty true else some (.fin, σ2))
            else getM n note σ2 (tk ++ c ++ c2) ty true) = some r := by
  have hl := mb_len hM hg hb
  have hc : clOf c = .bs := by rw [eq_of_beq hb]; exact cl_bs
  exact (gb_bs hg hc hl hg2).symm.trans hM
theorem mb_fin (hM : getM (n + 1) note σ tk ty esc = some r) (hg : getc σ = (c, σ1)) (hb : (c == Str.ofString "\\") = true) (hg2 : getc σ1 = (c2, σ2)) (h : (c2 == Str.ofString "" || (c2 == Str.ofString "\n" && !σ.q)) = true) : r = (.fin, σ2) := by
  have hM := mb_pair hM hg hb hg2
  cases h1 : (c2 == Str.ofString "") with
  | true => rw [h1, if_pos rfl] at hM; exact (Option.some.inj hM).symm
  | false =>
    cases h2 : (c2 == Str.ofString "\n") with
    | false => rw [h1, h2] at h; cases h
    | true =>
      cases hq : σ.q with
      | true => rw [h1, h2, hq] at h; cases h
      | false =>
        rw [h1, h2, hq] at hM
        exact (Option.some.inj hM).symm
theorem mb_go (hM : getM (n + 1) note σ tk ty esc = some r) (hg : getc σ = (c, σ1)) (hb : (c == Str.ofString "\\") = true) (hg2 : getc σ1 = (c2, σ2)) (h : (c2 == Str.ofString "" || (c2 == Str.ofString "\n" && !σ.q)) = false) : getM n note σ2 (tk ++ c ++ c2) ty true = some r := by
  have hM := mb_pair hM hg hb hg2
  obtain ⟨h1, h2⟩ := Bool.or_eq_false_iff.mp h
  rw [h1] at hM
  cases h3 : (c2 == Str.ofString "\n") with
  | false => rw [h3] at hM; exact hM
  | true =>
    cases hq : σ.q with
    | false => rw [h3, hq] at h2; cases h2
    | true => rw [h3, hq] at hM; exact hM
theorem mo (hM : getM (n + 1) note σ tk ty esc = some r) (hg : getc σ = (c, σ1)) (hq : σ.q = false) (t1 : del7 c = false) (hb : (c == Str.ofString "\\") = false) : (tk.length ≤ 5000 ∧ c.length ≤ 5000) ∧ getM n note σ1 (tk ++ c) ty esc = some r := by
  have o := del7_f t1 hb
  have hl := getM_len_ot hM hg o.cl
  refine ⟨hl, ?_⟩
  exact (gb_ot hg hq o.cl hl).symm.trans hM
theorem m_back (hM : getM (n + 1) note σ tk ty esc = some r) (hg : getc σ = (c, σ1)) (hq : σ.q = false) (t1 : del7 c = true) (t3 : (tk == Str.ofString "" && ty != 4) = false) : r = (.tok ty tk esc none, { σ1 with uc := some c }) :=
  Option.some.inj (hM.symm.trans (getM_back hg hq (del7_t t1) (t3_f t3)))
theorem if1 {α : Type} {p : Prop} [Decidable p] {a b t : α} (hp : p) (h : (if p then a else b) = t) : a = t := by rw [if_pos hp] at h; exact h
theorem m_stage (hM : getM (n + 1) note σ tk ty esc = some r) (hg : getc σ = (c, σ1)) (hq : σ.q = false) (t3 : (tk == Str.ofString "" && ty != 4) = true) {k : Cl} (hk : clOf c = k) (h1 : k ≠ .ot) (h2 : k ≠ .bs) :
    (match (generalizing := false) k with
              | .lp =>
                (match skipM 3000 { σ1 with ml := σ.ml + 1 } 0 with
                | none => none
                | some (_, σ2) => getM n note σ2 tk ty esc)
              | .rp =>
                if σ.ml ≤ 0 then some (.syn, σ1)
                else (match skipM 3000 { σ1 with ml := σ.ml - 1 } 0 with
                | none => none
                | some (_, σ2) => getM n note σ2 tk ty esc)
              | .dq => getM n note { σ1 with q := true } tk 4 esc
              | .nl => some (.tok 1 (Str.ofString "\n") false none, σ1)
              | .sc =>
                (match noteM 3000 σ1 tk with
                | none => none
                | some (v, c2, σ2) =>
                  if note = true then some (.tok 5 v false none, { σ2 with uc := some c2 })
                  else if (c2 == Str.ofString "") = true then
                    (if σ.ml ≠ 0 then some (.syn, σ2) else some (.tok 0 (Str.ofString "") false (some v), σ2))
                  else if σ.ml ≠ 0 then
                    (match skipM 3000 σ2 0 with
                    | none => none
                    | some (_, σ3) => getM n note σ3 (Str.ofString "") ty esc)
                  else some (.tok 1 (Str.ofString "\n") false (some v), σ2))
              | _ => getFin σ1 c 6 esc) = some r := by
  obtain ⟨rfl, h4⟩ := t3_t t3
  rw [getM_b hg, hq, hk] at hM
  cases k <;> first | exact absurd rfl h1 | exact absurd rfl h2 | exact if1 h4 hM
theorem m_lp {v : Int} (hM : getM (n + 1) note σ tk ty esc = some r) (hg : getc σ = (c, σ1)) (hq : σ.q = false) (t3 : (tk == Str.ofString "" && ty != 4) = true) (h : (c == Str.ofString "(") = true) (hs : skipM 3000 { σ1 with ml := σ.ml + 1 } 0 = some (v, σ2)) : getM n note σ2 tk ty esc = some r := by
  have := m_stage hM hg hq t3 (k := .lp) (by rw [eq_of_beq h]; exact cl_lp) (by decide) (by decide)
  simpa only [hs] using this
theorem m_rp1 (hM : getM (n + 1) note σ tk ty esc = some r) (hg : getc σ = (c, σ1)) (hq : σ.q = false) (t3 : (tk == Str.ofString "" && ty != 4) = true) (h : (c == Str.ofString ")") = true) (hm : decide (σ.ml ≤ 0) = true) : r = (.syn, σ1) := by
  have := m_stage hM hg hq t3 (k := .rp) (by rw [eq_of_beq h]; exact cl_rp) (by decide) (by decide)
  simp only [of_decide_eq_true hm, if_true] at this
  exact (Option.some.inj this).symm
theorem m_rp2 {v : Int} (hM : getM (n + 1) note σ tk ty esc = some r) (hg : getc σ = (c, σ1)) (hq : σ.q = false) (t3 : (tk == Str.ofString "" && ty != 4) = true) (h : (c == Str.ofString ")") = true) (hm : decide (σ.ml ≤ 0) = false) (hs : skipM 3000 { σ1 with ml := σ.ml - 1 } 0 = some (v, σ2)) : getM n note σ2 tk ty esc = some r := by
  have := m_stage hM hg hq t3 (k := .rp) (by rw [eq_of_beq h]; exact cl_rp) (by decide) (by decide)
  simpa only [of_decide_eq_false hm, if_false, hs] using this
theorem m_dq (hM : getM (n + 1) note σ tk ty esc = some r) (hg : getc σ = (c, σ1)) (hq : σ.q = false) (t3 : (tk == Str.ofString "" && ty != 4) = true) (h : (c == Str.ofString "\"") = true) : getM n note { σ1 with q := true } tk 4 esc = some r :=
  m_stage hM hg hq t3 (k := .dq) (by rw [eq_of_beq h]; exact cl_dq) (by decide) (by decide)
theorem m_nl (hM : getM (n + 1) note σ tk ty esc = some r) (hg : getc σ = (c, σ1)) (hq : σ.q = false) (t3 : (tk == Str.ofString "" && ty != 4) = true) (h : (c == Str.ofString "\n") = true) : r = (.tok 1 (Str.ofString "\n") false none, σ1) :=
  (Option.some.inj (m_stage hM hg hq t3 (k := .nl) (by rw [eq_of_beq h]; exact cl_nl) (by decide) (by decide))).symm
/-- behind a comment -/
noncomputable def cmtM (n : Nat) (note : Bool) (ty : Int) (esc : Bool) (v c2 : Str) (σ2 : TS) : Option (Res × TS) :=
  if note = true then some (.tok 5 v false none, { σ2 with uc := some c2 })
  else if (c2 == Str.ofString "") = true then
    (if σ2.ml ≠ 0 then some (.syn, σ2) else some (.tok 0 (Str.ofString "") false (some v), σ2))
  else if σ2.ml ≠ 0 then
    (match skipM 3000 σ2 0 with
    | none => none
    | some (_, σ3) => getM n note σ3 (Str.ofString "") ty esc)
  else some (.tok 1 (Str.ofString "\n") false (some v), σ2)
theorem noteM_ml : ∀ {n : Nat} {σ σ2 : TS} {v w c : Str}, noteM n σ v = some (w, c, σ2) → σ2.ml = σ.ml
  | 0, _, _, _, _, _, h => by cases h
  | n + 1, σ, σ2, v, w, c, h => by
    rw [noteM] at h
    obtain ⟨⟨c', σ1⟩, hg⟩ : ∃ x, getc σ = x := ⟨_, rfl⟩
    have hs := (getc_same hg).2.2.1
    rw [hg] at h
    dsimp only at h
    split at h
    · cases h; exact hs
    · split at h
      · cases h; exact hs
      · split at h
        · rw [noteM_ml h, hs]
        · cases h
theorem m_sc (hM : getM (n + 1) note σ tk ty esc = some r) (hg : getc σ = (c, σ1)) (hq : σ.q = false) (t3 : (tk == Str.ofString "" && ty != 4) = true) (h : (c == Str.ofString ";") = true) :
    ∃ v c2 σ2, noteM 3000 σ1 tk = some (v, c2, σ2) ∧ cmtM n note ty esc v c2 σ2 = some r := by
  have := m_stage hM hg hq t3 (k := .sc) (by rw [eq_of_beq h]; exact cl_sc) (by decide) (by decide)
  dsimp only at this
  cases e : noteM 3000 σ1 tk with
  | none => rw [e] at this; cases this
  | some p =>
    obtain ⟨v, c2, σ2⟩ := p
    rw [e] at this
    have hml : σ2.ml = σ.ml := (noteM_ml e).trans (getc_same hg).2.2.1
    refine ⟨v, c2, σ2, rfl, ?_⟩
    rw [← hml] at this
    exact this
theorem cm_note {v : Str} (h : cmtM n note ty esc v c2 σ2 = some r) (hn : note = true) : r = (.tok 5 v false none, { σ2 with uc := some c2 }) := by
  unfold cmtM at h
  rw [if_pos hn] at h
  exact (Option.some.inj h).symm
theorem cm_syn {v : Str} (h : cmtM n note ty esc v c2 σ2 = some r) (hn : note = false) (h1 : (c2 == Str.ofString "") = true) (h2 : (σ2.ml != 0) = true) : r = (.syn, σ2) := by
  unfold cmtM at h
  rw [hn, if_neg (by decide), if_pos h1, if_pos (by simpa using h2)] at h
  exact (Option.some.inj h).symm
theorem cm_eof {v : Str} (h : cmtM n note ty esc v c2 σ2 = some r) (hn : note = false) (h1 : (c2 == Str.ofString "") = true) (h2 : (σ2.ml != 0) = false) : r = (.tok 0 (Str.ofString "") false (some v), σ2) := by
  unfold cmtM at h
  rw [hn, if_neg (by decide), if_pos h1, if_neg (by simpa using h2)] at h
  exact (Option.some.inj h).symm
theorem cm_go {v : Str} {u : Int} {σ3 : TS} (h : cmtM n note ty esc v c2 σ2 = some r) (hn : note = false) (h1 : (c2 == Str.ofString "") = false) (h2 : (σ2.ml != 0) = true) (hs : skipM 3000 σ2 0 = some (u, σ3)) : getM n note σ3 (Str.ofString "") ty esc = some r := by
  unfold cmtM at h
  rw [hn, if_neg (by decide), h1, if_neg (by decide), if_pos (by simpa using h2), hs] at h
  exact hn ▸ h
theorem cm_eol {v : Str} (h : cmtM n note ty esc v c2 σ2 = some r) (hn : note = false) (h1 : (c2 == Str.ofString "") = false) (h2 : (σ2.ml != 0) = false) : r = (.tok 1 (Str.ofString "\n") false (some v), σ2) := by
  unfold cmtM at h
  rw [hn, if_neg (by decide), h1, if_neg (by decide), if_neg (by simpa using h2)] at h
  exact (Option.some.inj h).symm
theorem m_else (hM : getM (n + 1) note σ tk ty esc = some r) (hg : getc σ = (c, σ1)) (hq : σ.q = false) (t1 : del7 c = true) (t3 : (tk == Str.ofString "" && ty != 4) = true) (a1 : (c == Str.ofString "(") = false) (a2 : (c == Str.ofString ")") = false) (a3 : (c == Str.ofString "\"") = false) (a4 : (c == Str.ofString "\n") = false) (a5 : (c == Str.ofString ";") = false) : getFin σ1 c 6 esc = some r := by
  rcases del7_t t1 with h | h
  · exact m_stage hM hg hq t3 (k := .nil) (by rw [h]; exact cl_nil) (by decide) (by decide)
  · rcases h.one with h | h | h | h | h | h | h
    · subst h; exact absurd a1 (by decide +kernel)
    · subst h; exact absurd a2 (by decide +kernel)
    · subst h; exact absurd a3 (by decide +kernel)
    · subst h; exact absurd a4 (by decide +kernel)
    · subst h; exact absurd a5 (by decide +kernel)
    · exact m_stage hM hg hq t3 (k := .sp) (by rw [h]; exact cl_sp) (by decide) (by decide)
    · exact m_stage hM hg hq t3 (k := .tb) (by rw [h]; exact cl_tb) (by decide) (by decide)
theorem fin_tok (h : getFin σ tk ty esc = some r) (t : (tk == Str.ofString "" && ty != 4) = false) : r = (.tok ty tk esc none, σ) := by
  unfold getFin at h
  rcases t3_f t with h1 | h1
  · rw [h1, if_neg (by decide)] at h; exact (Option.some.inj h).symm
  · subst h1
    rw [if_neg (by decide : ¬ ((4 : Int) ≠ 4)), ite_self] at h
    exact (Option.some.inj h).symm
theorem fin_syn (h : getFin σ tk ty esc = some r) (t : (tk == Str.ofString "" && ty != 4) = true) (hm : (σ.ml != 0) = true) : r = (.syn, σ) := by
  unfold getFin at h
  obtain ⟨h1, h2⟩ := t3_t t
  rw [if_pos (by rw [h1]; exact beq_self_eq_true _), if_pos h2, if_pos (by simpa using hm)] at h
  exact (Option.some.inj h).symm
theorem fin_eof (h : getFin σ tk ty esc = some r) (t : (tk == Str.ofString "" && ty != 4) = true) (hm : (σ.ml != 0) = false) : r = (.tok 0 tk esc none, σ) := by
  unfold getFin at h
  obtain ⟨h1, h2⟩ := t3_t t
  rw [if_pos (by rw [h1]; exact beq_self_eq_true _), if_pos h2, if_neg (by simpa using hm)] at h
  exact (Option.some.inj h).symm
theorem mq_nil (hM : getM (n + 1) note σ tk ty esc = some r) (hg : getc σ = (c, σ1)) (hq : σ.q = true) (h : (c == Str.ofString "") = true) : r = (.fin, σ1) := by
  have hc : clOf c = .nil := by rw [eq_of_beq h]; exact cl_nil
  exact (Option.some.inj (hM.symm.trans (gb_q0 hg hq hc)))
theorem mq_nl (hM : getM (n + 1) note σ tk ty esc = some r) (hg : getc σ = (c, σ1)) (hq : σ.q = true) (h : (c == Str.ofString "\n") = true) : r = (.syn, σ1) := by
  have hc : clOf c = .nl := by rw [eq_of_beq h]; exact cl_nl
  exact (Option.some.inj (hM.symm.trans (gb_q1 hg hq hc)))
theorem mq_c (t1 : del1 c = true) (h : (c == Str.ofString "") = false) : c = Str.ofString "\"" := by
  rcases Bool.or_eq_true_iff.mp t1 with h' | h'
  · rw [h] at h'; cases h'
  · simp only [List.any_cons, List.any_nil, Bool.or_false, beq_iff_eq] at h'
    exact h'.symm
theorem mq_back (hM : getM (n + 1) note σ tk ty esc = some r) (hg : getc σ = (c, σ1)) (hq : σ.q = true) (t1 : del1 c = true) (h : (c == Str.ofString "") = false) (t3 : (tk == Str.ofString "" && ty != 4) = false) : r = (.tok ty tk esc none, { σ1 with uc := some c }) := by
  have hc : clOf c = .dq := by rw [mq_c t1 h]; exact cl_dq
  rw [getM_b hg, hq, hc] at hM
  have hM : (if (tk == Str.ofString "") = true then (if ty ≠ 4 then _ else getFin { σ1 with uc := some c } tk ty esc) else getFin { σ1 with uc := some c } tk ty esc) = some r := hM
  have fin : getFin { σ1 with uc := some c } tk ty esc = some r := by
    rcases t3_f t3 with h1 | h1
    · rw [h1, if_neg (by decide)] at hM; exact hM
    · subst h1
      rw [if_neg (by decide : ¬ ((4 : Int) ≠ 4)), ite_self] at hM
      exact hM
  exact fin_tok fin t3
theorem mq_dq {v : Int} (hM : getM (n + 1) note σ tk ty esc = some r) (hg : getc σ = (c, σ1)) (hq : σ.q = true) (t1 : del1 c = true) (h : (c == Str.ofString "") = false) (t3 : (tk == Str.ofString "" && ty != 4) = true) (hs : skipM 3000 { σ1 with q := false } 0 = some (v, σ2)) : getM n note σ2 tk ty esc = some r := by
  have hc : clOf c = .dq := by rw [mq_c t1 h]; exact cl_dq
  obtain ⟨rfl, h4⟩ := t3_t t3
  rw [getM_b hg, hq, hc] at hM
  have hM : (match skipM 3000 { σ1 with q := false } 0 with | none => none | some (_, σ2) => getM n note σ2 (Str.ofString "") ty esc) = some r := if1 h4 hM
  rw [hs] at hM
  exact hM
theorem mq_ot (hM : getM (n + 1) note σ tk ty esc = some r) (hg : getc σ = (c, σ1)) (hq : σ.q = true) (t1 : del1 c = false) (hn : (c == Str.ofString "\n") = false) (hb : (c == Str.ofString "\\") = false) : (tk.length ≤ 5000 ∧ c.length ≤ 5000) ∧ getM n note σ1 (tk ++ c) ty esc = some r := by
  refine getM_len_q hM hg hq ?_
  rcases clsQ c with h | h | h | h | h
  · subst h; exact absurd t1 (by decide +kernel)
  · subst h; exact absurd t1 (by decide +kernel)
  · subst h; exact absurd hn (by decide +kernel)
  · subst h; exact absurd hb (by decide +kernel)
  · exact h.cl
theorem gT_ws {lead : Bool} {v : Int} (hG : getT lead note σ = some r) (hs : skipM 3000 σ 0 = some (v, σ1)) (hb : (lead && decide (0 < v)) = true) : r = (.tok 2 (Str.ofString " ") false none, σ1) := by
  unfold getT at hG
  obtain ⟨h1, h2⟩ := Bool.and_eq_true_iff.mp hb
  rw [hs] at hG
  dsimp only at hG
  rw [if_pos ⟨h1, of_decide_eq_true h2⟩] at hG
  exact (Option.some.inj hG).symm
theorem gT_go {lead : Bool} {v : Int} (hG : getT lead note σ = some r) (hs : skipM 3000 σ 0 = some (v, σ1)) (hb : (lead && decide (0 < v)) = false) : getM 3000 note σ1 (Str.ofString "") 3 false = some r := by
  unfold getT at hG
  rw [hs] at hG
  dsimp only at hG
  rw [if_neg (fun h => by rw [h.1, decide_eq_true h.2] at hb; cases hb)] at hG
  exact hG
theorem nt_brk {k : Nat} {v v2 : Str} {x : Option (Res × TS)} (hN : noteM (n + 1) σ v = some (v2, c2, σ2)) (hg : getc σ = (c, σ1)) (hb : (c == Str.ofString "\n" || c == Str.ofString "") = true) (hc : cmtM k note ty esc v2 c2 σ2 = x) : cmtM k note ty esc v c σ1 = x := by
  rw [noteM, hg] at hN
  dsimp only at hN
  rcases Bool.or_eq_true_iff.mp hb with h | h
  · rw [if_pos h] at hN; cases hN; exact hc
  · split at hN
    · cases hN; exact hc
    · cases hN; exact hc
theorem nt_go {v : Str} {x : Str × Str × TS} (hN : noteM (n + 1) σ v = some x) (hg : getc σ = (c, σ1)) (hb : (c == Str.ofString "\n" || c == Str.ofString "") = false) : v.length ≤ 5000 ∧ noteM n σ1 (v ++ c) = some x := by
  obtain ⟨h1, h2⟩ := Bool.or_eq_false_iff.mp hb
  exact noteM_len hN hg h2 h1
theorem mq_ne (t1 : del1 c = true) (h : (c == Str.ofString "") = false) : (c == Str.ofString "(") = false ∧ (c == Str.ofString ")") = false ∧ (c == Str.ofString "\"") = true := by
  rw [mq_c t1 h]; decide +kernel
end
end Mine
end

section
set_option genInjectivity false
set_option genSizeOf false
open PySem PySem.W
namespace Mine
/-! the two readings on lists of signs -/
noncomputable abbrev one (c : Nat) : Str := ⟨#[c]⟩
noncomputable abbrev tl (x : Str) : List Nat := x.cps.toList
noncomputable def dropNl : List Nat → List Nat
  | [] => []
  | c :: r => if c = 10 then r else c :: r
noncomputable def strL : List Nat → Str → Bool → Pc × List Nat
  | [], _, _ => (.wrongEnd, [])
  | c :: r, v, e =>
    if c = 34 then (.str v e, r) else if c = 10 then (.wrongNl, []) else if c = 92 then
      (match r with
      | [] => (.wrongEnd, [])
      | d :: r' => strL r' (v ++ Str.ofString "\\" ++ one d) true)
    else strL r (v ++ one c) e
noncomputable def wordL : List Nat → Str → Bool → Pc × List Nat
  | [], v, e => (.word v e, [])
  | c :: r, v, e =>
    if c ∈ [32, 9, 10, 13, 59, 40, 41, 34] then (.word v e, c :: r)
    else if c = 92 then
      (match r with
      | [] => (.wrongEnd, [])
      | d :: r' => if d ∈ [10, 13] then (.wrongEnd, []) else wordL r' (v ++ Str.ofString "\\" ++ one d) true)
    else wordL r (v ++ one c) e
noncomputable def noteL : List Nat → Str → Str × List Nat
  | [], v => (v, [])
  | c :: r, v => if c ∈ [10, 13] then (v, c :: r) else noteL r (v ++ one c)
inductive Cut : List Nat → List Pc → Prop where
  | nil : Cut [] [.fin]
  | space {x : Nat} {r : List Nat} {ps : List Pc} (h : x = 32 ∨ x = 9) : Cut r ps → Cut (x :: r) (.space (one x) :: ps)
  | nl {x : Nat} {r : List Nat} {ps : List Pc} (h : x = 10) : Cut r ps → Cut (x :: r) (.line (one x) :: ps)
  | cr {x : Nat} {r : List Nat} {ps : List Pc} (h : x = 13) : Cut (dropNl r) ps → Cut (x :: r) (.line (one x) :: ps)
  | lp {x : Nat} {r : List Nat} {ps : List Pc} (h : x = 40) : Cut r ps → Cut (x :: r) (.lp :: ps)
  | rp {x : Nat} {r : List Nat} {ps : List Pc} (h : x = 41) : Cut r ps → Cut (x :: r) (.rp :: ps)
  | dq {x : Nat} {r r' : List Nat} {p : Pc} {ps : List Pc} (h : x = 34) : strL r (Str.ofString "") false = (p, r') → Cut r' ps → Cut (x :: r) (pcAfter p ++ ps)
  | sc {x : Nat} {r r' : List Nat} {v : Str} {ps : List Pc} (h : x = 59) : noteL r (Str.ofString "") = (v, r') → Cut r' ps → Cut (x :: r) (.note v :: ps)
  | word {x : Nat} {r r' : List Nat} {p : Pc} {ps : List Pc} (h : x ∉ [32, 9, 10, 13, 59, 40, 41, 34]) : wordL (x :: r) (Str.ofString "") false = (p, r') → Cut r' ps → Cut (x :: r) (p :: ps)

theorem drop_at {tx : Str} {k : Int} (h0 : 0 ≤ k) (h1 : k < tx.length) : (tl tx).drop k.toNat = tx.cps.getD k.toNat 0 :: (tl tx).drop (k + 1).toNat := by
  have hk : k.toNat < (tl tx).length := by
    have : (tl tx).length = tx.length := by simp [Str.length]
    (first | lia | omega)
  rw [List.drop_eq_getElem_cons hk, show (k + 1).toNat = k.toNat + 1 by (first | lia | omega)]
  congr 1
  have hk' : k.toNat < tx.cps.size := by simpa using hk
  simp [Array.getD, hk']
theorem drop_end {tx : Str} {k : Int} (h1 : ¬ k < tx.length) : (tl tx).drop k.toNat = [] := by
  apply List.drop_of_length_le
  have : (tl tx).length = tx.length := by simp [Str.length]
  (first | lia | omega)
theorem one_beq {a b : Nat} : (one a == one b) = decide (a = b) := by
  by_cases h : a = b
  · subst h; simp
  · have : one a ≠ one b := fun e => h (by simpa using e)
    rw [beq_eq_false_iff_ne.mpr this]; simp [h]
theorem l_dq : Str.ofString "\"" = one 34 := by decide +kernel
theorem l_nl : Str.ofString "\n" = one 10 := by decide +kernel
theorem l_bs : Str.ofString "\\" = one 92 := by decide +kernel
theorem l_sc : Str.ofString ";" = one 59 := by decide +kernel
theorem l_lp : Str.ofString "(" = one 40 := by decide +kernel
theorem l_rp : Str.ofString ")" = one 41 := by decide +kernel
theorem l_sp : Str.ofString " " = one 32 := by decide +kernel
theorem l_tb : Str.ofString "\t" = one 9 := by decide +kernel
theorem l_cr : Str.ofString "\r" = one 13 := by decide +kernel
theorem l_stop : (lStop).cps.toList = [32, 9, 10, 13, 59, 40, 41, 34] := by decide +kernel
theorem l_line : (lLine).cps.toList = [10, 13] := by decide +kernel
theorem l_blank : (lBlank).cps.toList = [32, 9] := by decide +kernel
theorem l_par : (lPar).cps.toList = [40, 41] := by decide +kernel
theorem ni {c : Nat} {x : Str} {l : List Nat} (h : x.cps.toList = l) : notIn x (one c) = !decide (c ∈ l) := by
  rw [notIn_one, h, List.contains_eq_mem]

theorem strL_cons (c : Nat) (r : List Nat) (v : Str) (e : Bool) : strL (c :: r) v e =
    if c = 34 then (.str v e, r) else if c = 10 then (.wrongNl, []) else if c = 92 then
      (match r with
      | [] => (.wrongEnd, [])
      | d :: r' => strL r' (v ++ Str.ofString "\\" ++ one d) true)
    else strL r (v ++ one c) e := by
  cases r <;> rfl
theorem wordL_cons (c : Nat) (r : List Nat) (v : Str) (e : Bool) : wordL (c :: r) v e =
    if c ∈ [32, 9, 10, 13, 59, 40, 41, 34] then (.word v e, c :: r)
    else if c = 92 then
      (match r with
      | [] => (.wrongEnd, [])
      | d :: r' => if d ∈ [10, 13] then (.wrongEnd, []) else wordL r' (v ++ Str.ofString "\\" ++ one d) true)
    else wordL r (v ++ one c) e := by
  cases r <;> rfl
theorem strM_list (tx : Str) : ∀ (n : Nat) (k : Int) (v : Str) (e : Bool), 0 ≤ k → k ≤ tx.length → (tx.length : Int) - k < n →
    ∃ p k', strM n tx k v e = some (p, k') ∧ strL ((tl tx).drop k.toNat) v e = (p, (tl tx).drop k'.toNat) ∧ k ≤ k' ∧ k' ≤ tx.length := by
  intro n
  induction n with
  | zero => intro k v e h0 h1 h; (first | lia | omega)
  | succ n ih =>
    intro k v e h0 h1 h
    have hend : (tl tx).drop ((tx.length : Int)).toNat = [] := drop_end (by (first | lia | omega))
    by_cases hk : k < tx.length
    · have hi := item_one h0 hk
      have q1 : (Txt.item tx k == Str.ofString "\"") = decide (tx.cps.getD k.toNat 0 = 34) := by rw [hi, l_dq, one_beq]
      have q2 : (Txt.item tx k == Str.ofString "\n") = decide (tx.cps.getD k.toNat 0 = 10) := by rw [hi, l_nl, one_beq]
      have q3 : (Txt.item tx k == Str.ofString "\\") = decide (tx.cps.getD k.toNat 0 = 92) := by rw [hi, l_bs, one_beq]
      rw [drop_at h0 hk, strL_cons]
      generalize tx.cps.getD k.toNat 0 = c at hi q1 q2 q3
      by_cases c1 : c = 34
      · exact ⟨_, _, sm1 hk (q1.trans (decide_eq_true c1)), if_pos c1, (by (first | lia | omega)), (by (first | lia | omega))⟩
      · replace q1 := q1.trans (decide_eq_false c1)
        rw [if_neg c1]
        by_cases c2 : c = 10
        · exact ⟨_, _, sm2 hk q1 (q2.trans (decide_eq_true c2)), by rw [if_pos c2, hend], (by (first | lia | omega)), (by (first | lia | omega))⟩
        · replace q2 := q2.trans (decide_eq_false c2)
          rw [if_neg c2]
          by_cases c3 : c = 92
          · replace q3 := q3.trans (decide_eq_true c3)
            rw [if_pos c3]
            by_cases hk1 : k + 1 = tx.length
            · rw [drop_end (k := k + 1) (by (first | lia | omega))]
              exact ⟨_, _, sm3 hk q1 q2 q3 hk1, by rw [hend], (by (first | lia | omega)), (by (first | lia | omega))⟩
            · have hi1 := item_one (tx := tx) (k := k + 1) (by (first | lia | omega)) (by (first | lia | omega))
              rw [drop_at (k := k + 1) (by (first | lia | omega)) (by (first | lia | omega))]
              obtain ⟨p, k', e1, e2, e3, e4⟩ := ih (k + 1 + 1) (v ++ Str.ofString "\\" ++ Txt.item tx (k + 1)) true (by (first | lia | omega)) (by (first | lia | omega)) (by (first | lia | omega))
              rw [hi1] at e2
              exact ⟨p, k', (sm4 hk q1 q2 q3 hk1).trans e1, e2, (by (first | lia | omega)), e4⟩
          · rw [if_neg c3]
            obtain ⟨p, k', e1, e2, e3, e4⟩ := ih (k + 1) (v ++ Txt.item tx k) e (by (first | lia | omega)) (by (first | lia | omega)) (by (first | lia | omega))
            rw [hi] at e2
            exact ⟨p, k', (sm5 hk q1 q2 (q3.trans (decide_eq_false c3))).trans e1, e2, (by (first | lia | omega)), e4⟩
    · rw [drop_end hk]
      exact ⟨_, _, sm0 hk, by rw [hend]; rfl, (by (first | lia | omega)), (by (first | lia | omega))⟩
theorem wordM_list (tx : Str) : ∀ (n : Nat) (k : Int) (v : Str) (e : Bool), 0 ≤ k → k ≤ tx.length → (tx.length : Int) - k < n →
    ∃ p k', wordM n tx k v e = some (p, k') ∧ wordL ((tl tx).drop k.toNat) v e = (p, (tl tx).drop k'.toNat) ∧ k ≤ k' ∧ k' ≤ tx.length := by
  intro n
  induction n with
  | zero => intro k v e h0 h1 h; (first | lia | omega)
  | succ n ih =>
    intro k v e h0 h1 h
    have hend : (tl tx).drop ((tx.length : Int)).toNat = [] := drop_end (by (first | lia | omega))
    by_cases hk : k < tx.length
    · have hi := item_one h0 hk
      have hd := drop_at h0 hk
      have q1 : notIn lStop (Txt.item tx k) = !decide (tx.cps.getD k.toNat 0 ∈ [32, 9, 10, 13, 59, 40, 41, 34]) := by rw [hi, ni l_stop]
      have q2 : (Txt.item tx k == Str.ofString "\\") = decide (tx.cps.getD k.toNat 0 = 92) := by rw [hi, l_bs, one_beq]
      generalize tx.cps.getD k.toNat 0 = c at hi hd q1 q2
      by_cases c1 : c ∈ [32, 9, 10, 13, 59, 40, 41, 34]
      · exact ⟨_, _, wm1 hk (q1.trans (by rw [decide_eq_true c1]; rfl)), by rw [hd, wordL_cons, if_pos c1], (by (first | lia | omega)), (by (first | lia | omega))⟩
      · replace q1 := q1.trans (show (!decide _) = true by rw [decide_eq_false c1]; rfl)
        have hw := (congrArg (fun l => wordL l v e) hd).trans ((wordL_cons c ((tl tx).drop (k + 1).toNat) v e).trans (if_neg c1))
        by_cases c3 : c = 92
        · replace q2 := q2.trans (decide_eq_true c3)
          rw [if_pos c3] at hw
          by_cases hk1 : k + 1 = tx.length
          · rw [drop_end (k := k + 1) (by (first | lia | omega))] at hw
            exact ⟨_, _, wm2 hk q1 q2 hk1, by rw [hw, hend], (by (first | lia | omega)), (by (first | lia | omega))⟩
          · have hi1 := item_one (tx := tx) (k := k + 1) (by (first | lia | omega)) (by (first | lia | omega))
            rw [drop_at (k := k + 1) (by (first | lia | omega)) (by (first | lia | omega))] at hw
            have q4 : notIn lLine (Txt.item tx (k + 1)) = !decide (tx.cps.getD (k + 1).toNat 0 ∈ [10, 13]) := by rw [hi1, ni l_line]
            by_cases c4 : tx.cps.getD (k + 1).toNat 0 ∈ [10, 13]
            · exact ⟨_, _, wm3 hk q1 q2 hk1 (q4.trans (by rw [decide_eq_true c4]; rfl)), by rw [hw, hend]; exact if_pos c4, (by (first | lia | omega)), (by (first | lia | omega))⟩
            · obtain ⟨p, k', e1, e2, e3, e4⟩ := ih (k + 1 + 1) (v ++ Str.ofString "\\" ++ Txt.item tx (k + 1)) true (by (first | lia | omega)) (by (first | lia | omega)) (by (first | lia | omega))
              rw [hi1] at e2
              exact ⟨p, k', (wm4 hk q1 q2 hk1 (q4.trans (by rw [decide_eq_false c4]; rfl))).trans e1, hw.trans ((if_neg c4).trans e2), (by (first | lia | omega)), e4⟩
        · rw [if_neg c3] at hw
          obtain ⟨p, k', e1, e2, e3, e4⟩ := ih (k + 1) (v ++ Txt.item tx k) e (by (first | lia | omega)) (by (first | lia | omega)) (by (first | lia | omega))
          rw [hi] at e2
          exact ⟨p, k', (wm5 hk q1 (q2.trans (decide_eq_false c3))).trans e1, hw.trans e2, (by (first | lia | omega)), e4⟩
    · exact ⟨_, _, wm0 hk, by rw [drop_end hk]; rfl, (by (first | lia | omega)), (by (first | lia | omega))⟩
theorem cnoteM_list (tx : Str) : ∀ (n : Nat) (k : Int) (v : Str), 0 ≤ k → k ≤ tx.length → (tx.length : Int) - k < n →
    ∃ v' k', cnoteM n tx k v = some (.note v', k') ∧ noteL ((tl tx).drop k.toNat) v = (v', (tl tx).drop k'.toNat) ∧ k ≤ k' ∧ k' ≤ tx.length := by
  intro n
  induction n with
  | zero => intro k v h0 h1 h; (first | lia | omega)
  | succ n ih =>
    intro k v h0 h1 h
    by_cases hk : k < tx.length
    · have hi := item_one h0 hk
      have hd := drop_at h0 hk
      have q1 : notIn lLine (Txt.item tx k) = !decide (tx.cps.getD k.toNat 0 ∈ [10, 13]) := by rw [hi, ni l_line]
      generalize tx.cps.getD k.toNat 0 = c at hi hd q1
      by_cases c1 : c ∈ [10, 13]
      · exact ⟨_, _, cn1 hk (q1.trans (by rw [decide_eq_true c1]; rfl)), by rw [hd, noteL, if_pos c1], (by (first | lia | omega)), (by (first | lia | omega))⟩
      · obtain ⟨p, k', e1, e2, e3, e4⟩ := ih (k + 1) (v ++ Txt.item tx k) (by (first | lia | omega)) (by (first | lia | omega)) (by (first | lia | omega))
        rw [hi] at e2
        exact ⟨p, k', (cn2 hk (q1.trans (by rw [decide_eq_false c1]; rfl))).trans e1, by rw [hd, noteL, if_neg c1]; exact e2, (by (first | lia | omega)), e4⟩
    · exact ⟨_, _, cn0 hk, by rw [drop_end hk]; rfl, (by (first | lia | omega)), (by (first | lia | omega))⟩

theorem pc_of {p : Pc} {tx : Str} {n : Nat} {k k' : Int} {v : Str} {e : Bool} (h0 : 0 ≤ k) (h1 : (tx.length : Int) - k < n) (hn : 0 < n) (h : strM n tx k v e = some (p, k')) : (∃ v e, p = .str v e) ∨ p = .wrongNl ∨ p = .wrongEnd := by
  obtain ⟨p', k'', e1, _, h3⟩ := strM_total tx n k v e h0 h1 hn
  rw [e1] at h
  simp only [Option.some.injEq, Prod.mk.injEq] at h
  rw [← h.1]; exact h3
theorem sl2 {tx : Str} {k : Int} (h0 : 0 ≤ k) (h1 : k < tx.length) : Txt.slice tx (some k) (some (k + 2)) = ⟨(((tl tx).drop k.toNat).take 2).toArray⟩ := by
  have hl : (tl tx).length = tx.length := by simp [Str.length]
  by_cases h2 : k + 2 ≤ tx.length
  · have := StrLaws.sliceText_plain (x := tx) (i := k) (j := k + 2) ⟨h0, by (first | lia | omega), by rw [hl]; exact h2⟩
    rw [show (k + 2 - k).toNat = 2 by (first | lia | omega)] at this
    exact this
  · have e : Txt.slice tx (some k) (some (k + 2)) = Txt.slice tx (some k) (some (tx.length : Int)) := by
      have a1 : ¬ k < 0 := by (first | lia | omega)
      have a2 : ¬ k + 2 < 0 := by (first | lia | omega)
      have a3 : ¬ (tx.length : Int) < 0 := by (first | lia | omega)
      have a4 : min (k + 2) (tx.length : Int) = tx.length := by (first | lia | omega)
      have a5 : min (tx.length : Int) (tx.length : Int) = tx.length := by (first | lia | omega)
      have : Builtin.Str.strSliceIndices (some k) (some (k + 2)) 1 tx.length = Builtin.Str.strSliceIndices (some k) (some (tx.length : Int)) 1 tx.length := by
        simp only [Builtin.Str.strSliceIndices, a1, a2, a3, a4, a5, if_false, show ((1 : Int) > 0) = True from by simp, if_true]
      unfold Txt.slice
      rw [this]
    rw [e]
    have := StrLaws.sliceText_plain (x := tx) (i := k) (j := (tx.length : Int)) ⟨h0, by (first | lia | omega), by rw [hl]; (first | lia | omega)⟩
    have h3 : ((tl tx).drop k.toNat).length = ((tx.length : Int) - k).toNat := by rw [List.length_drop, hl]; (first | lia | omega)
    have g1 : ((tl tx).drop k.toNat).take 2 = (tl tx).drop k.toNat := List.take_of_length_le (by rw [h3]; (first | lia | omega))
    have g2 : ((tl tx).drop k.toNat).take ((tx.length : Int) - k).toNat = (tl tx).drop k.toNat := List.take_of_length_le (by rw [h3]; (first | lia | omega))
    rw [g1]
    exact this.trans (by rw [g2])
theorem l_crlf : (Str.ofString "\r\n").cps = #[13, 10] := by decide +kernel
theorem crlf {tx : Str} {k : Int} (h0 : 0 ≤ k) (h1 : k < tx.length) : (Txt.slice tx (some k) (some (k + 2)) == Str.ofString "\r\n") = decide (((tl tx).drop k.toNat).take 2 = [13, 10]) := by
  rw [sl2 h0 h1]
  rw [Bool.eq_iff_iff, beq_iff_eq, decide_eq_true_iff]
  constructor
  · intro h
    have := congrArg (fun s => s.cps.toList) h
    simpa [l_crlf] using this
  · intro h
    rw [h]
    decide +kernel
theorem wordL_lt : ∀ (n : Nat) (r : List Nat) (v : Str) (e : Bool) {p : Pc} {r' : List Nat}, r.length ≤ n → wordL r v e = (p, r') → r'.length ≤ r.length := by
  intro n
  induction n with
  | zero =>
    intro r v e p r' hn h
    cases r with
    | nil => cases h; exact Nat.le_refl _
    | cons => simp at hn
  | succ n ih =>
    intro r v e p r' hn h
    cases r with
    | nil => cases h; exact Nat.le_refl _
    | cons c r =>
      rw [wordL_cons] at h
      simp only [List.length_cons] at hn
      split at h
      · cases h; exact Nat.le_refl _
      · split at h
        · cases r with
          | nil => cases h; exact Nat.zero_le _
          | cons d r =>
            simp only [List.length_cons] at hn ⊢
            dsimp only at h
            split at h
            · cases h; exact Nat.zero_le _
            · have := ih r _ _ (by (first | lia | omega)) h; (first | lia | omega)
        · have := ih r _ _ (by (first | lia | omega)) h; simp only [List.length_cons]; (first | lia | omega)
theorem wordL_lt1 {c : Nat} {r r' : List Nat} {v : Str} {e : Bool} {p : Pc} (hc : c ∉ [32, 9, 10, 13, 59, 40, 41, 34]) (h : wordL (c :: r) v e = (p, r')) : r'.length ≤ r.length := by
  rw [wordL_cons, if_neg hc] at h
  split at h
  · cases r with
    | nil => cases h; exact Nat.zero_le _
    | cons d r =>
      dsimp only at h
      split at h
      · cases h; exact Nat.zero_le _
      · have := wordL_lt _ r _ _ (Nat.le_refl _) h; simp only [List.length_cons]; (first | lia | omega)
  · exact wordL_lt _ r _ _ (Nat.le_refl _) h
section
variable {n : Nat} {tx : Str} {k k' : Int} {acc : List Pc} {p : Pc} (ha : acc.length ≤ 5000)
include ha
theorem cu1 (hk : k < (tx.length : Int)) (h1 : notIn lBlank (Txt.item tx k) = false) : cutM (n + 1) tx k acc = cutM n tx (k + 1) (acc ++ [.space (Txt.item tx k)]) := by rw [cutM, if_pos ha, if_pos hk, if_pos h1]
theorem cu2a (hk : k < (tx.length : Int)) (h1 : notIn lBlank (Txt.item tx k) = true) (h2 : notIn lLine (Txt.item tx k) = false) (h3 : (Txt.slice tx (some k) (some (k + 2)) == Str.ofString "\r\n") = true) : cutM (n + 1) tx k acc = cutM n tx (k + 2) (acc ++ [.line (Txt.item tx k)]) := by
  rw [cutM, if_pos ha, if_pos hk, if_neg (by rw [h1]; decide), if_pos h2, if_pos h3]
theorem cu2b (hk : k < (tx.length : Int)) (h1 : notIn lBlank (Txt.item tx k) = true) (h2 : notIn lLine (Txt.item tx k) = false) (h3 : (Txt.slice tx (some k) (some (k + 2)) == Str.ofString "\r\n") = false) : cutM (n + 1) tx k acc = cutM n tx (k + 1) (acc ++ [.line (Txt.item tx k)]) := by
  rw [cutM, if_pos ha, if_pos hk, if_neg (by rw [h1]; decide), if_pos h2, if_neg (by rw [h3]; decide)]
theorem cu3 (hk : k < (tx.length : Int)) (h1 : notIn lBlank (Txt.item tx k) = true) (h2 : notIn lLine (Txt.item tx k) = true) (h3 : notIn lPar (Txt.item tx k) = false) : cutM (n + 1) tx k acc = cutM n tx (k + 1) (acc ++ [pcPar (Txt.item tx k)]) := by
  rw [cutM, if_pos ha, if_pos hk, if_neg (by rw [h1]; decide), if_neg (by rw [h2]; decide), if_pos h3]
theorem cu4 (hk : k < (tx.length : Int)) (h1 : notIn lBlank (Txt.item tx k) = true) (h2 : notIn lLine (Txt.item tx k) = true) (h3 : notIn lPar (Txt.item tx k) = true) (h4 : (Txt.item tx k == Str.ofString "\"") = true) (e : strM 3000 tx (k + 1) (Str.ofString "") false = some (p, k')) :
    cutM (n + 1) tx k acc = cutM n tx k' (acc ++ pcAfter p) := by
  rw [cutM, if_pos ha, if_pos hk, if_neg (by rw [h1]; decide), if_neg (by rw [h2]; decide), if_neg (by rw [h3]; decide), if_pos h4, e]
theorem cu5 (hk : k < (tx.length : Int)) (h1 : notIn lBlank (Txt.item tx k) = true) (h2 : notIn lLine (Txt.item tx k) = true) (h3 : notIn lPar (Txt.item tx k) = true) (h4 : (Txt.item tx k == Str.ofString "\"") = false) (h5 : (Txt.item tx k == Str.ofString ";") = true) (e : cnoteM 3000 tx (k + 1) (Str.ofString "") = some (p, k')) :
    cutM (n + 1) tx k acc = cutM n tx k' (acc ++ [p]) := by
  rw [cutM, if_pos ha, if_pos hk, if_neg (by rw [h1]; decide), if_neg (by rw [h2]; decide), if_neg (by rw [h3]; decide), if_neg (by rw [h4]; decide), if_pos h5, e]
theorem cu6 (hk : k < (tx.length : Int)) (h1 : notIn lBlank (Txt.item tx k) = true) (h2 : notIn lLine (Txt.item tx k) = true) (h3 : notIn lPar (Txt.item tx k) = true) (h4 : (Txt.item tx k == Str.ofString "\"") = false) (h5 : (Txt.item tx k == Str.ofString ";") = false) (e : wordM 3000 tx k (Str.ofString "") false = some (p, k')) :
    cutM (n + 1) tx k acc = cutM n tx k' (acc ++ [p]) := by
  rw [cutM, if_pos ha, if_pos hk, if_neg (by rw [h1]; decide), if_neg (by rw [h2]; decide), if_neg (by rw [h3]; decide), if_neg (by rw [h4]; decide), if_neg (by rw [h5]; decide), e]
theorem cu7 (hk : ¬ k < (tx.length : Int)) : cutM (n + 1) tx k acc = some (acc ++ [.fin]) := by rw [cutM, if_pos ha, if_neg hk]
end
/-- what the cut gives from here on -/
inductive CutL (tx : Str) (n : Nat) (k : Int) (acc : List Pc) : Prop where
  | mk (ps : List Pc) (e1 : cutM n tx k acc = some (acc ++ ps)) (e2 : Cut ((tl tx).drop k.toNat) ps) (e3 : (acc.length + ps.length : Int) ≤ 2 * tx.length + 1)
theorem CutL.more {tx : Str} {n : Nat} {k k' : Int} {acc : List Pc} {p : Pc} (E : cutM (n + 1) tx k acc = cutM n tx k' (acc ++ [p])) (J : CutL tx n k' (acc ++ [p])) (C : ∀ {ps}, Cut ((tl tx).drop k'.toNat) ps → Cut ((tl tx).drop k.toNat) (p :: ps)) : CutL tx (n + 1) k acc := by
  obtain ⟨ps, e1, e2, e3⟩ := J
  refine .mk (p :: ps) (E.trans (by rw [e1]; simp)) (C e2) ?_
  rw [List.length_append, List.length_singleton] at e3
  rw [List.length_cons]; (first | lia | omega)
theorem CutL.more2 {tx : Str} {n : Nat} {k k' : Int} {acc : List Pc} {p q : Pc} (E : cutM (n + 1) tx k acc = cutM n tx k' (acc ++ [p, q])) (J : CutL tx n k' (acc ++ [p, q])) (C : ∀ {ps}, Cut ((tl tx).drop k'.toNat) ps → Cut ((tl tx).drop k.toNat) (p :: q :: ps)) : CutL tx (n + 1) k acc := by
  obtain ⟨ps, e1, e2, e3⟩ := J
  refine .mk (p :: q :: ps) (E.trans (by rw [e1]; simp)) (C e2) ?_
  simp at e3 ⊢
  (first | lia | omega)
theorem cutM_list0 (tx : Str) (hx : tx.length ≤ 1000) : ∀ (n : Nat) (k : Int) (acc : List Pc), 0 ≤ k → k ≤ tx.length → (tx.length : Int) - k < n → (acc.length : Int) ≤ 2 * k → CutL tx n k acc := by
  intro n
  induction n with
  | zero => intro k acc h0 h1 h; (first | lia | omega)
  | succ n ih =>
    intro k acc h0 h1 h ha
    have ha5 : acc.length ≤ 5000 := by (first | lia | omega)
    by_cases hk : k < tx.length
    · have hd := drop_at h0 hk
      have hi : Txt.item tx k = one (tx.cps.getD k.toNat 0) := item_one h0 hk
      have hcr := crlf h0 hk
      rw [hd] at hcr
      have hl : (tl tx).length = tx.length := by simp [Str.length]
      have h8 := congrArg List.length hd
      rw [List.length_drop, List.length_cons, hl] at h8
      have on : ∀ {p : Pc} {k' : Int}, k < k' → k' ≤ tx.length → CutL tx n k' (acc ++ [p]) := fun h h2 => ih _ _ (by (first | lia | omega)) h2 (by (first | lia | omega)) (by rw [List.length_append, List.length_singleton]; (first | lia | omega))
      have on2 : ∀ {p q : Pc} {k' : Int}, k < k' → k' ≤ tx.length → CutL tx n k' (acc ++ [p, q]) := fun h h2 => ih _ _ (by (first | lia | omega)) h2 (by (first | lia | omega)) (by simp; (first | lia | omega))
      clear ih
      generalize tx.cps.getD k.toNat 0 = c at hd hi hcr h8
      have b1 : notIn lBlank (Txt.item tx k) = !decide (c ∈ [32, 9]) := by rw [hi, ni l_blank]
      have b2 : notIn lLine (Txt.item tx k) = !decide (c ∈ [10, 13]) := by rw [hi, ni l_line]
      have b3 : notIn lPar (Txt.item tx k) = !decide (c ∈ [40, 41]) := by rw [hi, ni l_par]
      have b4 : (Txt.item tx k == Str.ofString "\"") = decide (c = 34) := by rw [hi, l_dq, one_beq]
      have b5 : (Txt.item tx k == Str.ofString ";") = decide (c = 59) := by rw [hi, l_sc, one_beq]
      have h1' : k < k + 1 := by (first | lia | omega)
      have h1'' : k + 1 ≤ tx.length := by (first | lia | omega)
      by_cases c1 : c ∈ [32, 9]
      · have E := cu1 (n := n) ha5 hk (b1.trans (by rw [decide_eq_true c1]; rfl))
        rw [hi] at E
        exact .more E (on h1' h1'') fun e2 => by rw [hd]; exact .space (by simpa using c1) e2
      replace b1 := b1.trans (show (!decide (c ∈ [32, 9])) = true by rw [decide_eq_false c1]; rfl)
      by_cases c2 : c ∈ [10, 13]
      · replace b2 := b2.trans (show (!decide (c ∈ [10, 13])) = false by rw [decide_eq_true c2]; rfl)
        have hc2 : c = 10 ∨ c = 13 := by simpa using c2
        rcases hc2 with hc2 | hc2
        · have E := cu2b (n := n) ha5 hk b1 b2 (hcr.trans (by rw [hc2]; simp))
          rw [hi] at E
          exact .more E (on h1' h1'') fun e2 => by rw [hd, hc2]; exact .nl rfl e2
        · by_cases hn : ((tl tx).drop (k + 1).toNat).take 1 = [10]
          · have hk1 : k + 1 < tx.length := by
              by_cases q : k + 1 < tx.length
              · exact q
              · rw [drop_end q] at hn; simp at hn
            have hd1 := drop_at (k := k + 1) (by (first | lia | omega)) hk1
            have E := cu2a (n := n) ha5 hk b1 b2 (hcr.trans (by rw [hc2]; simp [hn]))
            rw [hi] at E
            refine .more E (on (by (first | lia | omega)) (by (first | lia | omega))) fun e2 => ?_
            rw [hd, hc2]
            refine .cr rfl ?_
            rw [hd1] at hn ⊢
            simp only [List.take_succ_cons, List.take_zero, List.cons.injEq, and_true] at hn
            rw [dropNl, if_pos hn, show k + 1 + 1 = k + 2 by (first | lia | omega)]
            exact e2
          · have E := cu2b (n := n) ha5 hk b1 b2 (hcr.trans (by rw [hc2]; simp [hn]))
            rw [hi] at E
            refine .more E (on h1' h1'') fun e2 => ?_
            rw [hd, hc2]
            refine .cr rfl ?_
            cases hr : (tl tx).drop (k + 1).toNat with
            | nil => rw [hr] at e2; exact e2
            | cons d r =>
              rw [hr] at hn e2
              rw [dropNl, if_neg fun q => hn (by simp [q])]
              exact e2
      replace b2 := b2.trans (show (!decide (c ∈ [10, 13])) = true by rw [decide_eq_false c2]; rfl)
      by_cases c3 : c ∈ [40, 41]
      · have E := cu3 (n := n) ha5 hk b1 b2 (b3.trans (by rw [decide_eq_true c3]; rfl))
        rw [hi] at E
        have hc3 : c = 40 ∨ c = 41 := by simpa using c3
        rcases hc3 with hc3 | hc3
        · rw [show pcPar (one c) = .lp by rw [hc3, pcPar, if_pos (by decide +kernel)]] at E
          exact .more E (on h1' h1'') fun e2 => by rw [hd]; exact .lp hc3 e2
        · rw [show pcPar (one c) = .rp by rw [hc3, pcPar, if_neg (by decide +kernel)]] at E
          exact .more E (on h1' h1'') fun e2 => by rw [hd]; exact .rp hc3 e2
      replace b3 := b3.trans (show (!decide (c ∈ [40, 41])) = true by rw [decide_eq_false c3]; rfl)
      by_cases c4 : c = 34
      · obtain ⟨p, k', e1, e2, e3, e4⟩ := strM_list tx 3000 (k + 1) (Str.ofString "") false (by (first | lia | omega)) (by (first | lia | omega)) (by (first | lia | omega))
        have E := cu4 (n := n) ha5 hk b1 b2 b3 (b4.trans (decide_eq_true c4)) e1
        have hk' : k < k' := by (first | lia | omega)
        rcases pc_of (by (first | lia | omega)) (by (first | lia | omega)) (by decide) e1 with ⟨v, e, rfl⟩ | rfl | rfl
        · exact .more2 E (on2 hk' e4) fun f2 => by rw [hd]; exact .dq (p := .str v e) c4 e2 f2
        · exact .more E (on hk' e4) fun f2 => by rw [hd]; exact .dq (p := .wrongNl) c4 e2 f2
        · exact .more E (on hk' e4) fun f2 => by rw [hd]; exact .dq (p := .wrongEnd) c4 e2 f2
      replace b4 := b4.trans (decide_eq_false c4)
      by_cases c5 : c = 59
      · obtain ⟨v, k', e1, e2, e3, e4⟩ := cnoteM_list tx 3000 (k + 1) (Str.ofString "") (by (first | lia | omega)) (by (first | lia | omega)) (by (first | lia | omega))
        exact .more (cu5 ha5 hk b1 b2 b3 b4 (b5.trans (decide_eq_true c5)) e1) (on (by (first | lia | omega)) e4) fun f2 => by rw [hd]; exact .sc c5 e2 f2
      have hw : c ∉ [32, 9, 10, 13, 59, 40, 41, 34] := by
        simp at c1 c2 c3 ⊢
        (first | lia | omega)
      obtain ⟨p, k', e1, e2, e3, e4⟩ := wordM_list tx 3000 k (Str.ofString "") false (by (first | lia | omega)) (by (first | lia | omega)) (by (first | lia | omega))
      rw [hd] at e2
      have hk' : k < k' := by
        have h9 := wordL_lt1 hw e2
        rw [List.length_drop, hl] at h9
        (first | lia | omega)
      exact .more (cu6 ha5 hk b1 b2 b3 b4 (b5.trans (decide_eq_false c5)) e1) (on hk' e4) fun f2 => by rw [hd]; exact .word hw e2 f2
    · refine .mk [.fin] (cu7 ha5 hk) (by rw [drop_end hk]; exact .nil) ?_
      simp; (first | lia | omega)
theorem cutM_list (tx : Str) (hx : tx.length ≤ 1000) (n : Nat) (k : Int) (acc : List Pc) (h0 : 0 ≤ k) (h1 : k ≤ tx.length) (h2 : (tx.length : Int) - k < n) (h3 : (acc.length : Int) ≤ 2 * k) :
    ∃ ps, cutM n tx k acc = some (acc ++ ps) ∧ Cut ((tl tx).drop k.toNat) ps ∧ (acc.length + ps.length : Int) ≤ 2 * tx.length + 1 := by
  obtain ⟨ps, e1, e2, e3⟩ := cutM_list0 tx hx n k acc h0 h1 h2 h3
  exact ⟨ps, e1, e2, e3⟩
end Mine
end

section
set_option genInjectivity false
set_option genSizeOf false
open PySem PySem.W
namespace Mine
theorem ofs_nil : Str.ofString "" = (⟨#[]⟩ : Str) := by decide +kernel
/-- where the text goes on, nothing put back -/
structure Base (σ : TS) (r : List Nat) : Prop where
  ok : Ok σ
  b : (σ.e = true ∧ r = []) ∨ (σ.e = false ∧ σ.a = false ∧ r = (tl σ.tx).drop σ.k.toNat) ∨ (σ.e = false ∧ σ.a = true ∧ r = dropNl ((tl σ.tx).drop σ.k.toNat))
/-- one sign -/
inductive Step : List Nat → Str → List Nat → Prop where
  | nil : Step [] (Str.ofString "") []
  | nl {x : Nat} {r : List Nat} (h : x = 10) : Step (x :: r) (Str.ofString "\n") r
  | cr {x : Nat} {r : List Nat} (h : x = 13) : Step (x :: r) (Str.ofString "\n") (dropNl r)
  | ch {x : Nat} {r : List Nat} (h1 : x ≠ 10) (h2 : x ≠ 13) : Step (x :: r) (one x) r
noncomputable abbrev TS.bare (σ : TS) : TS := { σ with uc := none }
/-- where the text goes on -/
noncomputable def Full (σ : TS) (r : List Nat) : Prop :=
  (σ.uc = none ∧ Base σ r) ∨ (∃ c r1, σ.uc = some c ∧ Step r c r1 ∧ Base σ.bare r1 ∧ (c = Str.ofString "\n" ∨ σ.a = false ∨ c = Str.ofString ""))
noncomputable def nl1 (c : Str) : Int := if c = Str.ofString "\n" then 1 else 0
/-- the lines counted, a newline put back not -/
noncomputable def TS.vl (σ : TS) : Int := σ.ln - (match σ.uc with | none => 0 | some c => nl1 c)
theorem sl_at {tx : Str} {k : Int} (h0 : 0 ≤ k) (h1 : k < tx.length) : sl tx k = one (tx.cps.getD k.toNat 0) ∧ (sl tx k).length = 1 := by
  rcases sl_cases h0 (Int.le_of_lt h1) with ⟨e, _⟩ | ⟨h, e, l⟩
  · (first | lia | omega)
  · refine ⟨?_, l⟩
    rw [show sl tx k = _ from e]
    have : k.toNat < tx.cps.size := h
    simp [Array.getD, this]
    rfl
theorem sl_no {tx : Str} {k : Int} (h : k = tx.length) : sl tx k = Str.ofString "" := by
  subst h
  exact sl_end
theorem beq_one_ofs {c : Nat} : (one c == lNil) = false := by
  rw [show lNil = Str.ofString "" from rfl, ofs_nil]
  exact beq_eq_false_iff_ne.mpr (by simp)
theorem one_ne_nil {c : Nat} : one c ≠ Str.ofString "" := by
  rw [ofs_nil]; simp

/-- the choice's end, quoting or not -/
theorem getcEnd_list {σ : TS} {k : Int} (hk0 : 0 ≤ k) (hk : k ≤ σ.tx.length) :
    (k = σ.tx.length ∧ getcEnd σ (sl σ.tx k) (k + (sl σ.tx k).length) false = (Str.ofString "", ⟨σ.tx, k, none, σ.q, true, false, σ.ml, σ.ln⟩)) ∨
    (∃ x, (tl σ.tx).drop k.toNat = x :: (tl σ.tx).drop (k + 1).toNat ∧
      ((x = 13 ∧ σ.q = false ∧ getcEnd σ (sl σ.tx k) (k + (sl σ.tx k).length) false = (Str.ofString "\n", ⟨σ.tx, k + 1, none, σ.q, false, true, σ.ml, σ.ln + 1⟩)) ∨
       (x = 10 ∧ getcEnd σ (sl σ.tx k) (k + (sl σ.tx k).length) false = (one x, ⟨σ.tx, k + 1, none, σ.q, false, false, σ.ml, σ.ln + 1⟩)) ∨
       ((x = 13 → σ.q = true) ∧ x ≠ 10 ∧ getcEnd σ (sl σ.tx k) (k + (sl σ.tx k).length) false = (one x, ⟨σ.tx, k + 1, none, σ.q, false, false, σ.ml, σ.ln⟩)))) := by
  by_cases h : k = σ.tx.length
  · left
    refine ⟨h, ?_⟩
    rw [sl_no h, len_nil]
    unfold getcEnd
    rw [if_neg (fun h => absurd h.1 (by decide +kernel)), if_pos (by decide +kernel)]
    simp
  · right
    obtain ⟨e, l⟩ := sl_at hk0 (by (first | lia | omega) : k < σ.tx.length)
    refine ⟨_, drop_at hk0 (by (first | lia | omega)), ?_⟩
    rw [l, e]
    generalize σ.tx.cps.getD k.toNat 0 = x
    unfold getcEnd
    rw [beq_one_ofs, show lCr = one 13 from l_cr, show lNl = one 10 from l_nl, one_beq, one_beq]
    by_cases h13 : x = 13
    · cases hq : σ.q with
      | false => left; simp [h13, l_nl]
      | true => right; right; simp [h13]
    · by_cases h10 : x = 10
      · right; left; simp [h10]
      · right; right; simp [h10, h13]
/-- what one sign leaves -/
structure Got (σ σ1 : TS) (r : List Nat) (c : Str) (r1 : List Nat) : Prop where
  st : Step r c r1
  b : Base σ1 r1
  uc : σ1.uc = none
  a : c = Str.ofString "\n" ∨ σ1.a = false ∨ c = Str.ofString ""
  q : σ1.q = σ.q
  ml : σ1.ml = σ.ml
  tx : σ1.tx = σ.tx
  ln : σ1.ln = σ.vl + nl1 c
theorem Got.back {σ σ1 : TS} {r r1 : List Nat} {c : Str} (g : Got σ σ1 r c r1) : Full { σ1 with uc := some c } r :=
  .inr ⟨c, r1, rfl, g.st, ⟨⟨g.b.ok.1, g.b.ok.2, g.b.ok.3, g.b.ok.4, g.b.ok.5⟩, g.b.b⟩, g.a⟩
theorem Got.back_vl {σ σ1 : TS} {r r1 : List Nat} {c : Str} (g : Got σ σ1 r c r1) : ({ σ1 with uc := some c } : TS).vl = σ.vl := by
  show σ1.ln - nl1 c = _
  rw [g.ln]; (first | lia | omega)
theorem Got.full {σ σ1 : TS} {r r1 : List Nat} {c : Str} (g : Got σ σ1 r c r1) : Full σ1 r1 := .inl ⟨g.uc, g.b⟩
theorem Got.vl {σ σ1 : TS} {r r1 : List Nat} {c : Str} (g : Got σ σ1 r c r1) : σ1.vl = σ.vl + nl1 c := by
  rw [← g.ln]; unfold TS.vl; rw [g.uc]; exact Int.sub_zero _
theorem nl1_nil : nl1 (Str.ofString "") = 0 := by unfold nl1; rw [if_neg (by decide +kernel)]
theorem nl1_nl : nl1 (Str.ofString "\n") = 1 := by unfold nl1; rw [if_pos rfl]
theorem nl1_one {x : Nat} (h : x ≠ 10) : nl1 (one x) = 0 := by unfold nl1; rw [l_nl, if_neg (fun q => h (by simpa using q))]

theorem getc_full {σ : TS} {r : List Nat} (h : Full σ r) (hq : σ.q = false) : ∃ c r1 σ1, getc σ = (c, σ1) ∧ Got σ σ1 r c r1 := by
  rcases h with ⟨hu, hb⟩ | ⟨c, r1, hu, hs, hb, ha⟩
  · rcases hg : getc σ with ⟨c, σ1⟩
    have hO := getc_ok hb.ok hg
    obtain ⟨s1, s2, s3, s4⟩ := getc_same hg
    have hvl : σ.vl = σ.ln := by unfold TS.vl; rw [hu]; exact Int.sub_zero _
    refine ⟨c, ?_⟩
    -- the choice's end at a place
    have fin : ∀ k0 : Int, 0 ≤ k0 → k0 ≤ σ.tx.length → r = (tl σ.tx).drop k0.toNat → getcEnd σ (sl σ.tx k0) (k0 + (sl σ.tx k0).length) false = (c, σ1) → ∃ r1 σ2, (c, σ1) = (c, σ2) ∧ Got σ σ2 r c r1 := by
      intro k0 h0 h1 hr hgg
      rcases getcEnd_list h0 h1 with ⟨e, e1⟩ | ⟨x, hx, ⟨x1, x2, e1⟩ | ⟨x1, e1⟩ | ⟨x1, x2, e1⟩⟩
      · rw [e1] at hgg
        simp only [Prod.mk.injEq] at hgg
        obtain ⟨rfl, rfl⟩ := hgg
        have : r = [] := by rw [hr]; exact drop_end (by (first | lia | omega))
        subst this
        exact ⟨[], _, rfl, ⟨.nil, ⟨hO, .inl ⟨rfl, rfl⟩⟩, rfl, .inr (.inr rfl), rfl, rfl, rfl, by rw [hvl, nl1_nil]; exact (Int.add_zero _).symm⟩⟩
      · rw [e1] at hgg
        simp only [Prod.mk.injEq] at hgg
        obtain ⟨rfl, rfl⟩ := hgg
        rw [hx] at hr
        subst hr
        exact ⟨_, _, rfl, ⟨.cr x1, ⟨hO, .inr (.inr ⟨rfl, rfl, rfl⟩)⟩, rfl, .inl rfl, rfl, rfl, rfl, by rw [hvl, nl1_nl]⟩⟩
      · rw [e1] at hgg
        simp only [Prod.mk.injEq] at hgg
        obtain ⟨rfl, rfl⟩ := hgg
        rw [hx] at hr
        subst hr
        subst x1
        rw [← l_nl]
        exact ⟨_, _, rfl, ⟨.nl rfl, ⟨hO, .inr (.inl ⟨rfl, rfl, rfl⟩)⟩, rfl, .inl rfl, rfl, rfl, rfl, by rw [hvl, nl1_nl]⟩⟩
      · rw [e1] at hgg
        simp only [Prod.mk.injEq] at hgg
        obtain ⟨rfl, rfl⟩ := hgg
        rw [hx] at hr
        subst hr
        exact ⟨_, _, rfl, ⟨.ch x2 (fun q => by rw [x1 q] at hq; cases hq), ⟨hO, .inr (.inl ⟨rfl, rfl, rfl⟩)⟩, rfl, .inr (.inl rfl), rfl, rfl, rfl, by rw [hvl, nl1_one x2]; exact (Int.add_zero _).symm⟩⟩
    unfold getc at hg
    rw [hu] at hg
    dsimp only at hg
    rcases hb.b with ⟨b1, b2⟩ | ⟨b1, b2, b3⟩ | ⟨b1, b2, b3⟩
    · rw [if_pos b1] at hg
      simp only [Prod.mk.injEq] at hg
      obtain ⟨rfl, rfl⟩ := hg
      subst b2
      exact ⟨[], _, rfl, ⟨.nil, ⟨hO, .inl ⟨rfl, rfl⟩⟩, rfl, .inr (.inr rfl), rfl, rfl, rfl, by rw [hvl, show nl1 lNil = 0 from nl1_nil]; exact (Int.add_zero _).symm⟩⟩
    · rw [if_neg (by simp [b1]), if_neg (by simp [b2])] at hg
      exact fin _ hb.ok.k0 hb.ok.k1 b3 hg
    · rw [if_neg (by simp [b1]), if_pos b2] at hg
      by_cases hk : σ.k < σ.tx.length
      · obtain ⟨e, l⟩ := sl_at hb.ok.k0 hk
        have hd := drop_at hb.ok.k0 hk
        rw [e, show lNl = one 10 from l_nl, one_beq] at hg
        rw [hd, dropNl] at b3
        by_cases h10 : σ.tx.cps.getD σ.k.toNat 0 = 10
        · rw [if_pos (decide_eq_true h10)] at hg
          rw [if_pos h10] at b3
          exact fin (σ.k + 1) (by have := hb.ok.k0; (first | lia | omega)) (by (first | lia | omega)) b3 (by
            rw [← e, l] at hg
            exact hg)
        · rw [if_neg (fun q => h10 (of_decide_eq_true q))] at hg
          rw [if_neg h10, ← hd] at b3
          exact fin σ.k hb.ok.k0 hb.ok.k1 b3 (by rw [e]; exact hg)
      · have hk' : σ.k = σ.tx.length := by have := hb.ok.k1; (first | lia | omega)
        rw [drop_end hk] at b3
        rw [if_neg (by rw [sl_no hk']; decide +kernel)] at hg
        exact fin σ.k hb.ok.k0 hb.ok.k1 (by rw [drop_end hk]; exact b3) hg
  · refine ⟨c, r1, σ.bare, ?_, ?_⟩
    · unfold getc; rw [hu]
    · exact ⟨hs, hb, rfl, ha.imp id (Or.imp id id), rfl, rfl, rfl, by unfold TS.vl; rw [hu]; show σ.ln = _; dsimp only; (first | lia | omega)⟩
/-- quoting: each sign is itself -/
theorem getc_q {σ : TS} {r : List Nat} (hb : Base σ r) (hu : σ.uc = none) (hq : σ.q = true) (ha : σ.a = false) :
    ∃ c σ1, getc σ = (c, σ1) ∧ σ1.uc = none ∧ σ1.q = true ∧ σ1.a = false ∧ σ1.ml = σ.ml ∧ σ1.tx = σ.tx ∧ σ1.ln = σ.ln + nl1 c ∧
      ((r = [] ∧ c = Str.ofString "" ∧ Base σ1 []) ∨ ∃ x r', r = x :: r' ∧ c = one x ∧ Base σ1 r') := by
  rcases hg : getc σ with ⟨c, σ1⟩
  have hO := getc_ok hb.ok hg
  refine ⟨c, σ1, rfl, ?_⟩
  unfold getc at hg
  rw [hu] at hg
  dsimp only at hg
  rcases hb.b with ⟨b1, b2⟩ | ⟨b1, b2, b3⟩ | ⟨b1, b2, b3⟩
  · rw [if_pos b1] at hg
    simp only [Prod.mk.injEq] at hg
    obtain ⟨rfl, rfl⟩ := hg
    exact ⟨rfl, hq, ha, rfl, rfl, by rw [show nl1 lNil = 0 from nl1_nil]; exact (Int.add_zero _).symm, .inl ⟨b2, rfl, ⟨hO, .inl ⟨rfl, rfl⟩⟩⟩⟩
  · rw [if_neg (by simp [b1]), if_neg (by simp [b2])] at hg
    rcases getcEnd_list hb.ok.k0 hb.ok.k1 with ⟨e, e1⟩ | ⟨x, hx, ⟨x1, x2, e1⟩ | ⟨x1, e1⟩ | ⟨x1, x2, e1⟩⟩
    · rw [e1] at hg
      simp only [Prod.mk.injEq] at hg
      obtain ⟨rfl, rfl⟩ := hg
      exact ⟨rfl, hq, rfl, rfl, rfl, by rw [nl1_nil]; exact (Int.add_zero _).symm, .inl ⟨by rw [b3]; exact drop_end (by (first | lia | omega)), rfl, ⟨hO, .inl ⟨rfl, rfl⟩⟩⟩⟩
    · rw [hq] at x2; cases x2
    · rw [e1] at hg
      simp only [Prod.mk.injEq] at hg
      obtain ⟨rfl, rfl⟩ := hg
      subst x1
      exact ⟨rfl, hq, rfl, rfl, rfl, by rw [← l_nl, nl1_nl], .inr ⟨_, _, b3.trans hx, rfl, ⟨hO, .inr (.inl ⟨rfl, rfl, rfl⟩)⟩⟩⟩
    · rw [e1] at hg
      simp only [Prod.mk.injEq] at hg
      obtain ⟨rfl, rfl⟩ := hg
      exact ⟨rfl, hq, rfl, rfl, rfl, by rw [nl1_one x2]; exact (Int.add_zero _).symm, .inr ⟨_, _, b3.trans hx, rfl, ⟨hO, .inr (.inl ⟨rfl, rfl, rfl⟩)⟩⟩⟩
  · rw [ha] at b2; cases b2
end Mine
end

section
set_option genInjectivity false
set_option genSizeOf false
open PySem PySem.W
namespace Mine
noncomputable def pastL (d : Int) : List Pc → List Pc
  | [] => []
  | p :: r => match p with
    | .space _ => pastL d r
    | .line c => if 0 < d then pastL d r else .line c :: r
    | p => p :: r
noncomputable def nlS (v : Str) : Int := ((tl v).count 10 : Int)
noncomputable def Pc.nl : Pc → Int
  | .line _ => 1
  | .str v _ => nlS v
  | _ => 0
noncomputable def nlc : List Pc → Int
  | [] => 0
  | p :: r => p.nl + nlc r
theorem pastM_list (PS : List Pc) (d : Int) : ∀ (n : Nat) (k : Int), 0 ≤ k → (PS.drop k.toNat).length < n → pastL d (PS.drop k.toNat) ≠ [] →
    ∃ k', pastM n PS k d = some k' ∧ k ≤ k' ∧ PS.drop k'.toNat = pastL d (PS.drop k.toNat) ∧ k' + (pastL d (PS.drop k.toNat)).length = k + (PS.drop k.toNat).length := by
  intro n
  induction n with
  | zero => intro k h0 h; exact absurd h (Nat.not_lt_zero _)
  | succ n ih =>
    intro k h0 h hne
    rw [pastM]
    cases hd : PS.drop k.toNat with
    | nil => rw [hd] at hne; exact absurd rfl hne
    | cons p r =>
      have hp : PS[k.toNat]? = some p := by
        have := List.head?_drop (l := PS) (i := k.toNat); rw [hd] at this; exact this.symm
      have hr : PS.drop (k + 1).toNat = r := by
        rw [show (k + 1).toNat = k.toNat + 1 by (first | lia | omega), ← List.tail_drop, hd]; rfl
      rw [hp]
      rw [hd] at h hne
      simp only [List.length_cons] at h
      have ih' := ih (k + 1) (by (first | lia | omega)) (by rw [hr]; (first | lia | omega))
      rw [hr] at ih'
      cases p with
      | space c =>
        dsimp only [pastL] at hne ⊢
        obtain ⟨k', e1, e2, e3, e4⟩ := ih' hne
        exact ⟨k', e1, by (first | lia | omega), e3, by simp only [List.length_cons]; (first | lia | omega)⟩
      | line c =>
        dsimp only [pastL] at hne ⊢
        by_cases h0d : 0 < d
        · rw [if_pos h0d] at hne ⊢
          rw [if_pos h0d]
          obtain ⟨k', e1, e2, e3, e4⟩ := ih' hne
          exact ⟨k', e1, by (first | lia | omega), e3, by simp only [List.length_cons]; (first | lia | omega)⟩
        · rw [if_neg h0d, if_neg h0d]
          exact ⟨k, rfl, Int.le_refl _, hd, rfl⟩
      | _ => exact ⟨k, rfl, Int.le_refl _, hd, rfl⟩

theorem strL_kind : ∀ (n : Nat) (r : List Nat) (v : Str) (e : Bool) {p : Pc} {r' : List Nat}, r.length ≤ n → strL r v e = (p, r') → ((∃ v e, p = .str v e) ∨ (p = .wrongNl ∧ r' = []) ∨ (p = .wrongEnd ∧ r' = [])) ∧ r'.length ≤ r.length := by
  intro n
  induction n with
  | zero =>
    intro r v e p r' hn h
    cases r with
    | nil => cases h; exact ⟨.inr (.inr ⟨rfl, rfl⟩), Nat.le_refl _⟩
    | cons => simp at hn
  | succ n ih =>
    intro r v e p r' hn h
    cases r with
    | nil => cases h; exact ⟨.inr (.inr ⟨rfl, rfl⟩), Nat.le_refl _⟩
    | cons c r =>
      rw [strL_cons] at h
      simp only [List.length_cons] at hn ⊢
      split at h
      · cases h; exact ⟨.inl ⟨_, _, rfl⟩, by (first | lia | omega)⟩
      · split at h
        · cases h; exact ⟨.inr (.inl ⟨rfl, rfl⟩), Nat.zero_le _⟩
        · split at h
          · cases r with
            | nil => cases h; exact ⟨.inr (.inr ⟨rfl, rfl⟩), Nat.zero_le _⟩
            | cons d r =>
              simp only [List.length_cons] at hn ⊢
              obtain ⟨a, b⟩ := ih r _ _ (by (first | lia | omega)) h
              exact ⟨a, by (first | lia | omega)⟩
          · obtain ⟨a, b⟩ := ih r _ _ (by (first | lia | omega)) h
            exact ⟨a, by (first | lia | omega)⟩
theorem wordL_kind : ∀ (n : Nat) (r : List Nat) (v : Str) (e : Bool) {p : Pc} {r' : List Nat}, r.length ≤ n → wordL r v e = (p, r') → (∃ v e, p = .word v e) ∨ (p = .wrongEnd ∧ r' = []) := by
  intro n
  induction n with
  | zero =>
    intro r v e p r' hn h
    cases r with
    | nil => cases h; exact .inl ⟨_, _, rfl⟩
    | cons => simp at hn
  | succ n ih =>
    intro r v e p r' hn h
    cases r with
    | nil => cases h; exact .inl ⟨_, _, rfl⟩
    | cons c r =>
      rw [wordL_cons] at h
      simp only [List.length_cons] at hn
      split at h
      · cases h; exact .inl ⟨_, _, rfl⟩
      · split at h
        · cases r with
          | nil => cases h; exact .inr ⟨rfl, rfl⟩
          | cons d r =>
            simp only [List.length_cons] at hn
            dsimp only at h
            split at h
            · cases h; exact .inr ⟨rfl, rfl⟩
            · exact ih r _ _ (by (first | lia | omega)) h
        · exact ih r _ _ (by (first | lia | omega)) h

theorem Cut.ne {r : List Nat} {ps : List Pc} (h : Cut r ps) (d : Int) : pastL d ps ≠ [] := by
  induction h with
  | nil => simp [pastL]
  | space h c ih => simpa [pastL] using ih
  | nl h c ih => unfold pastL; dsimp only; split
                 · exact ih
                 · simp
  | cr h c ih => unfold pastL; dsimp only; split
                 · exact ih
                 · simp
  | lp h c ih => simp [pastL]
  | rp h c ih => simp [pastL]
  | dq h s c ih =>
    rcases (strL_kind _ _ _ _ (Nat.le_refl _) s).1 with ⟨v, e, rfl⟩ | ⟨rfl, _⟩ | ⟨rfl, _⟩ <;> simp [pcAfter, pastL]
  | sc h s c ih => simp [pastL]
  | word h s c ih =>
    rcases wordL_kind _ _ _ _ (Nat.le_refl _) s with ⟨v, e, rfl⟩ | ⟨rfl, _⟩ <;> simp [pastL]

-- inversions
theorem Cut.inv_nil {ps : List Pc} (h : Cut [] ps) : ps = [.fin] := by cases h; rfl
/-- the kind of a sign -/
noncomputable def ck (x : Nat) : Nat := if x = 32 ∨ x = 9 then 0 else if x = 10 then 1 else if x = 13 then 2 else if x = 40 then 3 else if x = 41 then 4 else if x = 34 then 5 else if x = 59 then 6 else 7
noncomputable def CutI (k x : Nat) (r : List Nat) (ps : List Pc) : Prop := match k with
  | 0 => ∃ ps1, ps = .space (one x) :: ps1 ∧ Cut r ps1
  | 1 => ∃ ps1, ps = .line (one x) :: ps1 ∧ Cut r ps1
  | 2 => ∃ ps1, ps = .line (one x) :: ps1 ∧ Cut (dropNl r) ps1
  | 3 => ∃ ps1, ps = .lp :: ps1 ∧ Cut r ps1
  | 4 => ∃ ps1, ps = .rp :: ps1 ∧ Cut r ps1
  | 5 => ∃ p r' ps1, ps = pcAfter p ++ ps1 ∧ strL r (Str.ofString "") false = (p, r') ∧ Cut r' ps1
  | 6 => ∃ v r' ps1, ps = .note v :: ps1 ∧ noteL r (Str.ofString "") = (v, r') ∧ Cut r' ps1
  | _ => ∃ p r' ps1, ps = p :: ps1 ∧ wordL (x :: r) (Str.ofString "") false = (p, r') ∧ Cut r' ps1
theorem ck_word {x : Nat} (h : x ∉ [32, 9, 10, 13, 59, 40, 41, 34]) : ck x = 7 := by
  simp only [List.mem_cons, List.not_mem_nil, or_false, not_or] at h
  obtain ⟨h1, h2, h3, h4, h5, h6, h7, h8⟩ := h
  exact (if_neg fun e => e.elim h1 h2).trans ((if_neg h3).trans ((if_neg h4).trans ((if_neg h6).trans ((if_neg h7).trans ((if_neg h8).trans (if_neg h5))))))
theorem Cut.inv {x : Nat} {r : List Nat} {ps : List Pc} (h : Cut (x :: r) ps) : CutI (ck x) x r ps := by
  cases h with
  | space h c => rcases h with rfl | rfl <;> exact ⟨_, rfl, c⟩
  | nl h c => subst h; exact ⟨_, rfl, c⟩
  | cr h c => subst h; exact ⟨_, rfl, c⟩
  | lp h c => subst h; exact ⟨_, rfl, c⟩
  | rp h c => subst h; exact ⟨_, rfl, c⟩
  | dq h s c => subst h; exact ⟨_, _, _, rfl, s, c⟩
  | sc h s c => subst h; exact ⟨_, _, _, rfl, s, c⟩
  | word h s c => rw [ck_word h]; exact ⟨_, _, _, rfl, s, c⟩
theorem Cut.inv_space {x : Nat} {r : List Nat} {ps : List Pc} (h : Cut (x :: r) ps) (hx : x = 32 ∨ x = 9) : ∃ ps1, ps = .space (one x) :: ps1 ∧ Cut r ps1 := by
  have i := h.inv
  rw [show ck x = 0 from if_pos hx] at i
  exact i
theorem Cut.inv_nl {x : Nat} {r : List Nat} {ps : List Pc} (h : Cut (x :: r) ps) (hx : x = 10) : ∃ ps1, ps = .line (one x) :: ps1 ∧ Cut r ps1 := by subst hx; exact h.inv
theorem Cut.inv_cr {x : Nat} {r : List Nat} {ps : List Pc} (h : Cut (x :: r) ps) (hx : x = 13) : ∃ ps1, ps = .line (one x) :: ps1 ∧ Cut (dropNl r) ps1 := by subst hx; exact h.inv
theorem Cut.inv_lp {x : Nat} {r : List Nat} {ps : List Pc} (h : Cut (x :: r) ps) (hx : x = 40) : ∃ ps1, ps = .lp :: ps1 ∧ Cut r ps1 := by subst hx; exact h.inv
theorem Cut.inv_rp {x : Nat} {r : List Nat} {ps : List Pc} (h : Cut (x :: r) ps) (hx : x = 41) : ∃ ps1, ps = .rp :: ps1 ∧ Cut r ps1 := by subst hx; exact h.inv
theorem Cut.inv_dq {x : Nat} {r : List Nat} {ps : List Pc} (h : Cut (x :: r) ps) (hx : x = 34) : ∃ p r' ps1, ps = pcAfter p ++ ps1 ∧ strL r (Str.ofString "") false = (p, r') ∧ Cut r' ps1 := by subst hx; exact h.inv
theorem Cut.inv_sc {x : Nat} {r : List Nat} {ps : List Pc} (h : Cut (x :: r) ps) (hx : x = 59) : ∃ v r' ps1, ps = .note v :: ps1 ∧ noteL r (Str.ofString "") = (v, r') ∧ Cut r' ps1 := by subst hx; exact h.inv
theorem Cut.inv_word {x : Nat} {r : List Nat} {ps : List Pc} (h : Cut (x :: r) ps) (hx : x ∉ [32, 9, 10, 13, 59, 40, 41, 34]) : ∃ p r' ps1, ps = p :: ps1 ∧ wordL (x :: r) (Str.ofString "") false = (p, r') ∧ Cut r' ps1 := by
  have i := h.inv
  rw [ck_word hx] at i
  exact i
/-- nothing to skip -/
theorem Cut.past_id {x : Nat} {r : List Nat} {ps : List Pc} {d : Int} (h : Cut (x :: r) ps) (h1 : x ≠ 32) (h2 : x ≠ 9) (h3 : x ≠ 10) (h4 : x ≠ 13) : pastL d ps = ps := by
  cases h with
  | space h c => (first | lia | omega)
  | nl h c => (first | lia | omega)
  | cr h c => (first | lia | omega)
  | lp h c => rfl
  | rp h c => rfl
  | dq h s c => rcases (strL_kind _ _ _ _ (Nat.le_refl _) s).1 with ⟨v, e, rfl⟩ | ⟨rfl, _⟩ | ⟨rfl, _⟩ <;> rfl
  | sc h s c => rfl
  | word h s c => rcases wordL_kind _ _ _ _ (Nat.le_refl _) s with ⟨v, e, rfl⟩ | ⟨rfl, _⟩ <;> rfl
theorem bne_one {a b : Nat} : (one a != one b) = !decide (a = b) := by rw [bne, one_beq]
theorem nl_bne_sp : (Str.ofString "\n" != Str.ofString " ") = true := by decide +kernel
theorem nl_bne_tb : (Str.ofString "\n" != Str.ofString "\t") = true := by decide +kernel
theorem nl_bne_nl : (Str.ofString "\n" != Str.ofString "\n") = false := by decide +kernel
theorem nil_bne_sp : (Str.ofString "" != Str.ofString " ") = true := by decide +kernel
theorem nil_bne_tb : (Str.ofString "" != Str.ofString "\t") = true := by decide +kernel
theorem nil_bne_nl : (Str.ofString "" != Str.ofString "\n") = true := by decide +kernel
section
variable {n : Nat} {σ σ1 : TS} {c : Str} {sk : Int}
theorem kk_st (hg : getc σ = (c, σ1)) (h1 : (c != Str.ofString " ") = true) (h2 : (c != Str.ofString "\t") = true) (h3 : (c != Str.ofString "\n") = true ∨ σ.ml = 0) : skipM (n + 1) σ sk = some (sk, { σ1 with uc := some c }) := by
  rw [skipM, hg]
  dsimp only
  rw [if_pos h1, if_pos h2]
  rcases h3 with h | h
  · exact if_pos h
  · by_cases h4 : (c != Str.ofString "\n") = true
    · exact if_pos h4
    · exact (if_neg h4).trans (if_pos h)
theorem kk_sp (hg : getc σ = (c, σ1)) (h1 : (c != Str.ofString " ") = false) : skipM (n + 1) σ sk = skipM n σ1 (sk + 1) := by
  rw [skipM, hg]
  exact if_neg (Bool.eq_false_iff.mp h1)
theorem kk_tb (hg : getc σ = (c, σ1)) (h1 : (c != Str.ofString " ") = true) (h2 : (c != Str.ofString "\t") = false) : skipM (n + 1) σ sk = skipM n σ1 (sk + 1) := by
  rw [skipM, hg]
  exact (if_pos h1).trans (if_neg (Bool.eq_false_iff.mp h2))
theorem kk_nl (hg : getc σ = (Str.ofString "\n", σ1)) (h : ¬ σ.ml = 0) : skipM (n + 1) σ sk = skipM n σ1 (sk + 1) := by
  rw [skipM, hg]
  exact (if_pos nl_bne_sp).trans ((if_pos nl_bne_tb).trans ((if_neg (Bool.eq_false_iff.mp nl_bne_nl)).trans (if_neg h)))
end
theorem dropNl_le (r : List Nat) : (dropNl r).length ≤ r.length := by
  cases r with
  | nil => simp [dropNl]
  | cons y r => simp only [dropNl]; split <;> simp only [List.length_cons] <;> (first | lia | omega)
/-- what a skip ends with -/
inductive SkipR (σ σ' : TS) (r : List Nat) (ps : List Pc) (sk sk' : Int) : Prop where
  | mk (r' : List Nat) (a1 : Full σ' r') (a2 : Cut r' (pastL σ.ml ps)) (a3 : sk' + (pastL σ.ml ps).length = sk + ps.length) (a4 : σ'.vl + nlc (pastL σ.ml ps) = σ.vl + nlc ps) (a5 : σ'.q = false) (a6 : σ'.ml = σ.ml) (a7 : σ'.tx = σ.tx) (a8 : pastL σ.ml (pastL σ.ml ps) = pastL σ.ml ps) (a9 : r'.length ≤ r.length)
section
variable {σ σ1 σ' : TS} {r r1 : List Nat} {c : Str} {ps ps1 : List Pc} {p : Pc} {sk sk' : Int} (G : Got σ σ1 r c r1)
include G
theorem SkipR.stop (hq : σ.q = false) (hC : Cut r ps) (e : some (sk, ({ σ1 with uc := some c } : TS)) = some (sk', σ')) (hp : pastL σ.ml ps = ps) : SkipR σ σ' r ps sk sk' := by
  simp only [Option.some.injEq, Prod.mk.injEq] at e
  obtain ⟨rfl, rfl⟩ := e
  exact .mk r G.back (by rw [hp]; exact hC) (by rw [hp]) (by rw [hp, G.back_vl]) (G.q.trans hq) G.ml G.tx (by rw [hp, hp]) (Nat.le_refl _)
theorem SkipR.more (e1 : ps = p :: ps1) (J : SkipR σ1 σ' r1 ps1 (sk + 1) sk') (e3 : pastL σ.ml ps = pastL σ.ml ps1) (e4 : p.nl = nl1 c) (e5 : r1.length ≤ r.length) : SkipR σ σ' r ps sk sk' := by
  obtain ⟨r', a1, a2, a3, a4, a5, a6, a7, a8, a9⟩ := J
  rw [G.ml] at a2 a3 a4 a6 a8
  refine .mk r' a1 (by rw [e3]; exact a2) ?_ ?_ a5 a6 (a7.trans G.tx) (by rw [e3]; exact a8) (Nat.le_trans a9 e5)
  · rw [e3, e1, List.length_cons]; (first | lia | omega)
  · rw [e3, e1, a4, G.vl, nlc, e4]; (first | lia | omega)
end
theorem skip_cut : ∀ (n : Nat) {σ σ' : TS} {r : List Nat} {ps : List Pc} {sk sk' : Int}, Full σ r → σ.q = false → Cut r ps → 0 ≤ σ.ml → skipM n σ sk = some (sk', σ') → SkipR σ σ' r ps sk sk' := by
  intro n
  induction n with
  | zero => intro σ σ' r ps sk sk' _ _ _ _ h; cases h
  | succ n ih =>
    intro σ σ' r ps sk sk' hF hq hC hm h
    obtain ⟨c, r1, σ1, hg, G⟩ := getc_full hF hq
    have go : ∀ {ps1 : List Pc}, Cut r1 ps1 → skipM n σ1 (sk + 1) = some (sk', σ') → SkipR σ1 σ' r1 ps1 (sk + 1) sk' := fun e2 e6 => ih G.full (G.q.trans hq) e2 (by rw [G.ml]; exact hm) e6
    clear ih
    cases G.st with
    | nil =>
      have := hC.inv_nil
      subst this
      exact .stop G hq hC ((kk_st hg nil_bne_sp nil_bne_tb (.inl nil_bne_nl)).symm.trans h) rfl
    | nl hx =>
      obtain ⟨ps1, e1, e2⟩ := hC.inv_nl hx
      by_cases h0 : σ.ml = 0
      · exact .stop G hq hC ((kk_st hg nl_bne_sp nl_bne_tb (.inr h0)).symm.trans h) (by rw [e1, pastL]; rw [if_neg (by (first | lia | omega))])
      · exact .more G e1 (go e2 ((kk_nl hg h0).symm.trans h)) (by rw [e1, pastL]; rw [if_pos (by (first | lia | omega))]) nl1_nl.symm (Nat.le_succ _)
    | cr hx =>
      obtain ⟨ps1, e1, e2⟩ := hC.inv_cr hx
      by_cases h0 : σ.ml = 0
      · exact .stop G hq hC ((kk_st hg nl_bne_sp nl_bne_tb (.inr h0)).symm.trans h) (by rw [e1, pastL]; rw [if_neg (by (first | lia | omega))])
      · refine .more G e1 (go e2 ((kk_nl hg h0).symm.trans h)) (by rw [e1, pastL]; rw [if_pos (by (first | lia | omega))]) nl1_nl.symm ?_
        rename_i x r
        exact Nat.le_trans (dropNl_le r) (Nat.le_succ _)
    | ch h10 h13 =>
      rename_i x
      have b1 : (one x != Str.ofString " ") = !decide (x = 32) := by rw [l_sp, bne_one]
      have b2 : (one x != Str.ofString "\t") = !decide (x = 9) := by rw [l_tb, bne_one]
      have b3 : (one x != Str.ofString "\n") = true := by rw [l_nl, bne_one, decide_eq_false h10]; rfl
      by_cases h32 : x = 32
      · obtain ⟨ps1, e1, e2⟩ := hC.inv_space (.inl h32)
        exact .more G e1 (go e2 ((kk_sp hg (b1.trans (by rw [decide_eq_true h32]; rfl))).symm.trans h)) (by rw [e1, pastL]) (nl1_one h10).symm (Nat.le_succ _)
      · replace b1 := b1.trans (show (!decide _) = true by rw [decide_eq_false h32]; rfl)
        by_cases h9 : x = 9
        · obtain ⟨ps1, e1, e2⟩ := hC.inv_space (.inr h9)
          exact .more G e1 (go e2 ((kk_tb hg b1 (b2.trans (by rw [decide_eq_true h9]; rfl))).symm.trans h)) (by rw [e1, pastL]) (nl1_one h10).symm (Nat.le_succ _)
        · exact .stop G hq hC ((kk_st hg b1 (b2.trans (show (!decide _) = true by rw [decide_eq_false h9]; rfl)) (.inl b3)).symm.trans h) (hC.past_id h32 h9 h10 h13)
end Mine
end

section
set_option genInjectivity false
set_option genSizeOf false
open PySem PySem.W
namespace Mine
theorem Got.trans {σ σ1 σ2 : TS} {r r1 r2 r3 : List Nat} {c c2 : Str} (g : Got σ σ1 r c r1) (h0 : nl1 c = 0) (g2 : Got σ1 σ2 r2 c2 r3) : Got σ σ2 r2 c2 r3 :=
  ⟨g2.st, g2.b, g2.uc, g2.a, g2.q.trans g.q, g2.ml.trans g.ml, g2.tx.trans g.tx, by rw [g2.ln, g.vl, h0, Int.add_zero]⟩
theorem one_len {x : Nat} : (one x).length = 1 := rfl
theorem nmS {n : Nat} {σ σ1 : TS} {c v : Str} (hg : getc σ = (c, σ1)) (h : c = Str.ofString "" ∨ c = Str.ofString "\n") : noteM (n + 1) σ v = some (v, c, σ1) := by
  rw [noteM, hg]
  rcases h with rfl | rfl
  · exact (if_neg (by decide +kernel)).trans (if_pos (by decide +kernel))
  · exact if_pos (by decide +kernel)
theorem nmG {n : Nat} {σ σ1 : TS} {c v : Str} (hg : getc σ = (c, σ1)) (h1 : (c == Str.ofString "\n") = false) (h2 : (c == Str.ofString "") = false) (h : v.length ≤ 5000) : noteM (n + 1) σ v = noteM n σ1 (v ++ c) := by
  rw [noteM, hg]
  exact (if_neg (Bool.eq_false_iff.mp h1)).trans ((if_neg (Bool.eq_false_iff.mp h2)).trans (if_pos h))
theorem noteM_run : ∀ (n : Nat) {σ : TS} {r r' : List Nat} {v v' : Str}, Full σ r → σ.q = false → noteL r v = (v', r') → r.length < n → v.length + r.length ≤ 5000 →
    ∃ c σ1 r1, noteM n σ v = some (v', c, σ1) ∧ Got σ σ1 r' c r1 ∧ (c = Str.ofString "" ∨ c = Str.ofString "\n") ∧ r'.length ≤ r.length := by
  intro n
  induction n with
  | zero => intro σ r r' v v' _ _ _ h; exact absurd h (Nat.not_lt_zero _)
  | succ n ih =>
    intro σ r r' v v' hF hq hN hn hl
    obtain ⟨c, r1, σ1, hg, G⟩ := getc_full hF hq
    cases hs : G.st with
    | nil =>
      cases hN
      exact ⟨_, _, _, nmS hg (.inl rfl), G, .inl rfl, Nat.le_refl _⟩
    | nl h =>
      rw [noteL, if_pos (by simp [h])] at hN
      cases hN
      exact ⟨_, _, _, nmS hg (.inr rfl), G, .inr rfl, Nat.le_refl _⟩
    | cr h =>
      rw [noteL, if_pos (by simp [h])] at hN
      cases hN
      exact ⟨_, _, _, nmS hg (.inr rfl), G, .inr rfl, Nat.le_refl _⟩
    | ch h1 h2 =>
      rename_i x
      rw [noteL, if_neg (by simp; (first | lia | omega))] at hN
      simp only [List.length_cons] at hn hl
      obtain ⟨c, σ2, r2, e1, G2, e3, e4⟩ := ih G.full (G.q.trans hq) hN (by (first | lia | omega)) (by rw [Str.length_append, one_len]; (first | lia | omega))
      exact ⟨c, σ2, r2, (nmG hg (by rw [l_nl, one_beq]; exact decide_eq_false h1) beq_one_ofs (by (first | lia | omega))).trans e1, G.trans (nl1_one h1) G2, e3, by simp only [List.length_cons]; (first | lia | omega)⟩
theorem clOf_one (x : Nat) : clOf (one x) = if x = 40 then .lp else if x = 41 then .rp else if x = 34 then .dq else if x = 10 then .nl else if x = 59 then .sc else if x = 32 then .sp else if x = 9 then .tb else if x = 92 then .bs else .ot := by
  unfold clOf
  rw [if_neg one_ne_nil, l_lp, l_rp, l_dq, l_nl, l_sc, l_sp, l_tb, l_bs]
  simp
theorem Step.back_kind {r r1 : List Nat} {c : Str} (h : Step r c r1) (hd : ∀ x r', r = x :: r' → x ∈ [32, 9, 10, 13, 59, 40, 41, 34]) : c = Str.ofString "" ∨ Del c := by
  cases h with
  | nil => exact .inl rfl
  | nl h => exact .inr (del_of (.inr (.inr (.inr (.inl rfl)))))
  | cr h => exact .inr (del_of (.inr (.inr (.inr (.inl rfl)))))
  | ch h1 h2 =>
    rename_i x
    have := hd _ _ rfl
    have h3 : x = 32 ∨ x = 9 ∨ x = 59 ∨ x = 40 ∨ x = 41 ∨ x = 34 := by simp at this; (first | lia | omega)
    refine .inr (del_of ?_)
    rw [l_lp, l_rp, l_dq, l_nl, l_sc, l_sp, l_tb]
    simpa using (by (first | lia | omega) : x = 40 ∨ x = 41 ∨ x = 34 ∨ x = 10 ∨ x = 59 ∨ x = 32 ∨ x = 9)
theorem nil_beq : (Str.ofString "" == Str.ofString "") = true := by decide +kernel
theorem app_ne {a : Str} {x : Nat} : (a ++ one x == Str.ofString "") = false := by
  apply beq_eq_false_iff_ne.mpr
  intro h
  have := congrArg Str.length h
  rw [Str.length_append, one_len, len_nil] at this
  (first | lia | omega)
/-- what a word's run ends with -/
inductive WordRun (note : Bool) (n : Nat) (σ : TS) (r r' : List Nat) (tk : Str) (esc : Bool) (p : Pc) : Prop where
  | w (v : Str) (e : Bool) (σ' : TS) (e1 : p = .word v e) (e2 : getM n note σ tk 3 esc = some (.tok 3 v e none, σ')) (e3 : Full σ' r') (e4 : σ'.q = false) (e5 : σ'.ml = σ.ml) (e6 : σ'.tx = σ.tx) (e7 : σ'.vl = σ.vl) (e8 : r'.length ≤ r.length) (e9 : Ok σ')
  | en (e1 : p = .wrongEnd) (σ' : TS) (e2 : getM n note σ tk 3 esc = some (.fin, σ'))
theorem WordRun.go {note : Bool} {n : Nat} {σ σ1 : TS} {r r0 r' : List Nat} {tk tk1 : Str} {esc esc1 : Bool} {p : Pc} (J : WordRun note n σ1 r0 r' tk1 esc1 p) (eg : getM (n + 1) note σ tk 3 esc = getM n note σ1 tk1 3 esc1)
    (hm : σ1.ml = σ.ml) (ht : σ1.tx = σ.tx) (hv : σ1.vl = σ.vl) (hl : r0.length ≤ r.length) : WordRun note (n + 1) σ r r' tk esc p := by
  cases J with
  | w v e σ' e1 e2 e3 e4 e5 e6 e7 e8 e9 => exact .w v e σ' e1 (eg.trans e2) e3 e4 (e5.trans hm) (e6.trans ht) (e7.trans hv) (Nat.le_trans e8 hl) e9
  | en e1 σ' e2 => exact .en e1 σ' (eg.trans e2)
theorem wordM_run (note : Bool) : ∀ (n : Nat) {σ : TS} {r r' : List Nat} {tk : Str} {esc : Bool} {p : Pc}, Full σ r → σ.q = false → wordL r tk esc = (p, r') → r.length < n → tk.length + r.length ≤ 5000 →
    ((tk == Str.ofString "") = false ∨ ∃ x r0, r = x :: r0 ∧ x ∉ [32, 9, 10, 13, 59, 40, 41, 34]) →
    WordRun note n σ r r' tk esc p := by
  intro n
  induction n with
  | zero => intro σ r r' tk esc p _ _ _ h; exact absurd h (Nat.not_lt_zero _)
  | succ n ih =>
    intro σ r r' tk esc p hF hq hW hn hl hne
    obtain ⟨c, r1, σ1, hg, G⟩ := getc_full hF hq
    -- the word's end
    by_cases hd : ∀ x r0, r = x :: r0 → x ∈ [32, 9, 10, 13, 59, 40, 41, 34]
    · have hne' : (tk == Str.ofString "") = false := by
        rcases hne with h | ⟨x, r0, e, h⟩
        · exact h
        · exact absurd (hd x r0 e) h
      have hk := G.st.back_kind hd
      have hw : p = .word tk esc ∧ r' = r := by
        cases r with
        | nil => cases hW; exact ⟨rfl, rfl⟩
        | cons x r0 =>
          rw [wordL_cons, if_pos (hd x r0 rfl)] at hW
          cases hW; exact ⟨rfl, rfl⟩
      obtain ⟨rfl, rfl⟩ := hw
      exact .w tk esc _ rfl (getM_back hg hq hk (.inl hne')) G.back (G.q.trans hq) G.ml G.tx G.back_vl (Nat.le_refl _) ⟨G.b.ok.1, G.b.ok.2, G.b.ok.3, G.b.ok.4, G.b.ok.5⟩
    · have : ∃ x r0, r = x :: r0 ∧ x ∉ [32, 9, 10, 13, 59, 40, 41, 34] := by
        cases r with
        | nil => exact absurd (fun x r0 e => nomatch e) hd
        | cons x r0 => exact ⟨x, r0, rfl, fun h => hd fun y r1 e => by cases e; exact h⟩
      obtain ⟨x, r0, rfl, hx⟩ := this
      simp only [List.length_cons] at hn hl
      rw [wordL_cons, if_neg hx] at hW
      have hx' : x ≠ 32 ∧ x ≠ 9 ∧ x ≠ 10 ∧ x ≠ 13 ∧ x ≠ 59 ∧ x ≠ 40 ∧ x ≠ 41 ∧ x ≠ 34 := by simpa using hx
      obtain ⟨x1, x2, x3, x4, x5, x6, x7, x8⟩ := hx'
      have hst := G.st
      have hc : c = one x ∧ r1 = r0 := by
        cases hst with
        | nl h => (first | lia | omega)
        | cr h => (first | lia | omega)
        | ch h1 h2 => exact ⟨rfl, rfl⟩
      obtain ⟨rfl, rfl⟩ := hc
      have hv0 : σ1.vl = σ.vl := by rw [G.vl, nl1_one x3, Int.add_zero]
      by_cases h92 : x = 92
      · subst h92
        rw [if_pos rfl] at hW
        have hk : clOf (one 92) = .bs := by rw [clOf_one]; rfl
        have hl5 : tk.length ≤ 5000 := by (first | lia | omega)
        obtain ⟨c2, r2, σ2, hg2, G2⟩ := getc_full G.full (G.q.trans hq)
        cases hs2 : G2.st with
        | nil =>
          dsimp only at hW
          cases hW
          exact .en rfl _ (gb_bs0 hg hk hl5 hg2)
        | nl h =>
          dsimp only at hW
          rw [if_pos (by simp [h])] at hW
          cases hW
          exact .en rfl _ (gb_bs1 hg hq hk hl5 hg2)
        | cr h =>
          dsimp only at hW
          rw [if_pos (by simp [h])] at hW
          cases hW
          exact .en rfl _ (gb_bs1 hg hq hk hl5 hg2)
        | ch h1 h2 =>
          rename_i y
          dsimp only at hW
          rw [if_neg (by simp; (first | lia | omega))] at hW
          rw [l_bs] at hW
          simp only [List.length_cons] at hn hl
          have eg := gb_bs2 (n := n) (note := note) (ty := 3) (esc := esc) hg hk hl5 hg2 (show (one y == Str.ofString "") = false from beq_one_ofs) (.inl (by rw [l_nl, one_beq]; simp [h1]))
          exact (ih G2.full (G2.q.trans (G.q.trans hq)) hW (by (first | lia | omega)) (by rw [Str.length_append, Str.length_append, one_len, one_len]; (first | lia | omega)) (.inl app_ne)).go eg (G2.ml.trans G.ml) (G2.tx.trans G.tx) (by rw [G2.vl, nl1_one h1, Int.add_zero, hv0]) (by simp only [List.length_cons]; (first | lia | omega))
      · rw [if_neg h92] at hW
        have hk : clOf (one x) = .ot := by rw [clOf_one]; simp [x1, x2, x3, x5, x6, x7, x8, h92]
        have eg := gb_ot (n := n) (note := note) (ty := 3) (esc := esc) (tk := tk) hg hq hk ⟨by (first | lia | omega), by rw [one_len]; decide⟩
        exact (ih G.full (G.q.trans hq) hW (by (first | lia | omega)) (by rw [Str.length_append, one_len]; (first | lia | omega)) (.inl app_ne)).go eg G.ml G.tx hv0 (Nat.le_succ _)

theorem nlS_app {a : Str} {x : Nat} : nlS (a ++ one x) = nlS a + nl1 (one x) := by
  unfold nlS nl1
  rw [show tl (a ++ one x) = tl a ++ [x] by rw [show (tl (a ++ one x)) = (a ++ one x).cps.toList from rfl, Str.cps_append]; simp]
  rw [List.count_append, l_nl]
  by_cases h : x = 10
  · subst h; simp
  · have : one x ≠ one 10 := fun q => h (by simpa using q)
    rw [if_neg this, List.count_singleton]
    simp [h]
/-- what a string's run ends with -/
inductive StrRun (note : Bool) (n : Nat) (σ : TS) (r r' : List Nat) (tk : Str) (esc : Bool) (p : Pc) : Prop where
  | w (v : Str) (e : Bool) (σ' : TS) (e1 : p = .str v e) (e2 : getM n note σ tk 4 esc = some (.tok 4 v e none, σ')) (e3 : σ'.uc = some (Str.ofString "\"")) (e4 : Base σ'.bare r') (e5 : σ'.q = true) (e6 : σ'.a = false) (e7 : σ'.ml = σ.ml) (e8 : σ'.tx = σ.tx) (e9 : σ'.ln + nlS tk = σ.ln + nlS v) (e10 : r'.length < r.length)
  | nl (e1 : p = .wrongNl) (σ' : TS) (e2 : getM n note σ tk 4 esc = some (.syn, σ'))
  | en (e1 : p = .wrongEnd) (σ' : TS) (e2 : getM n note σ tk 4 esc = some (.fin, σ'))
theorem StrRun.go {note : Bool} {n : Nat} {σ σ1 : TS} {r r0 r' : List Nat} {tk tk1 : Str} {esc esc1 : Bool} {p : Pc} (J : StrRun note n σ1 r0 r' tk1 esc1 p) (eg : getM (n + 1) note σ tk 4 esc = getM n note σ1 tk1 4 esc1)
    (hm : σ1.ml = σ.ml) (ht : σ1.tx = σ.tx) (hv : σ1.ln + nlS tk = σ.ln + nlS tk1) (hl : r0.length ≤ r.length) : StrRun note (n + 1) σ r r' tk esc p := by
  cases J with
  | w v e σ' e1 e2 e3 e4 e5 e6 e7 e8 e9 e10 => exact .w v e σ' e1 (eg.trans e2) e3 e4 e5 e6 (e7.trans hm) (e8.trans ht) (by clear eg e2 e1; (first | lia | omega)) (Nat.lt_of_lt_of_le e10 hl)
  | nl e1 σ' e2 => exact .nl e1 σ' (eg.trans e2)
  | en e1 σ' e2 => exact .en e1 σ' (eg.trans e2)
theorem strM_run (note : Bool) : ∀ (n : Nat) {σ : TS} {r r' : List Nat} {tk : Str} {esc : Bool} {p : Pc}, Base σ r → σ.uc = none → σ.q = true → σ.a = false → strL r tk esc = (p, r') → r.length < n → tk.length + r.length ≤ 5000 →
    StrRun note n σ r r' tk esc p := by
  intro n
  induction n with
  | zero => intro σ r r' tk esc p _ _ _ _ _ h; exact absurd h (Nat.not_lt_zero _)
  | succ n ih =>
    intro σ r r' tk esc p hB hu hq ha hW hn hl
    obtain ⟨c, σ1, hg, u1, q1, a1, m1, t1, n1, h⟩ := getc_q hB hu hq ha
    rcases h with ⟨rfl, rfl, hB1⟩ | ⟨x, r0, rfl, rfl, hB1⟩
    · cases hW
      exact .en rfl σ1 (gb_q0 hg hq cl_nil)
    · simp only [List.length_cons] at hn hl
      rw [strL_cons] at hW
      by_cases h34 : x = 34
      · subst h34
        rw [if_pos rfl] at hW
        cases hW
        have hk : clOf (one 34) = .dq := by rw [clOf_one]; rfl
        exact .w tk esc { σ1 with uc := some (one 34) } rfl (gb_q2 hg hq hk) (by rw [l_dq]) ⟨⟨hB1.ok.1, hB1.ok.2, hB1.ok.3, hB1.ok.4, hB1.ok.5⟩, hB1.b⟩ q1 a1 m1 t1 (show σ1.ln + _ = _ by rw [n1, nl1_one (by decide), Int.add_zero]) (by simp)
      · rw [if_neg h34] at hW
        by_cases h10 : x = 10
        · subst h10
          rw [if_pos rfl] at hW
          cases hW
          have hk : clOf (one 10) = .nl := by rw [clOf_one]; rfl
          exact .nl rfl σ1 (gb_q1 hg hq hk)
        · rw [if_neg h10] at hW
          by_cases h92 : x = 92
          · subst h92
            rw [if_pos rfl] at hW
            have hk : clOf (one 92) = .bs := by rw [clOf_one]; rfl
            have hl5 : tk.length ≤ 5000 := by (first | lia | omega)
            obtain ⟨c2, σ2, hg2, u2, q2, a2, m2, t2, n2, h⟩ := getc_q hB1 u1 q1 a1
            rcases h with ⟨rfl, rfl, hB2⟩ | ⟨y, r2, rfl, rfl, hB2⟩
            · cases hW
              exact .en rfl _ (gb_bs0 hg hk hl5 hg2)
            · dsimp only at hW
              rw [l_bs] at hW
              simp only [List.length_cons] at hn hl
              have eg := gb_bs2 (n := n) (note := note) (ty := 4) (esc := esc) hg hk hl5 hg2 (show (one y == Str.ofString "") = false from beq_one_ofs) (.inr hq)
              exact (ih hB2 u2 q2 a2 hW (by (first | lia | omega)) (by rw [Str.length_append, Str.length_append, one_len, one_len]; (first | lia | omega))).go eg (m2.trans m1) (t2.trans t1) (by rw [nlS_app, nlS_app, n2, n1, nl1_one (by decide : (92 : Nat) ≠ 10)]; (first | lia | omega)) (by simp only [List.length_cons]; (first | lia | omega))
          · rw [if_neg h92] at hW
            have eg := gb_q3 (n := n) (note := note) (ty := 4) (esc := esc) (tk := tk) hg hq (by
              rw [clOf_one]
              simp only [h34, h10, h92, if_false]
              refine ⟨?_, ?_, ?_, ?_⟩ <;> (repeat' split) <;> simp) ⟨by (first | lia | omega), by rw [one_len]; decide⟩
            exact (ih hB1 u1 q1 a1 hW (by (first | lia | omega)) (by rw [Str.length_append, one_len]; (first | lia | omega))).go eg m1 t1 (by rw [nlS_app, n1, nl1_one h10]; (first | lia | omega)) (Nat.le_succ _)
end Mine
end

section
set_option genInjectivity false
set_option genSizeOf false
open PySem PySem.W
namespace Mine
theorem pastL_len (d : Int) : ∀ ps : List Pc, (pastL d ps).length ≤ ps.length
  | [] => Nat.le_refl _
  | p :: r => by
    have := pastL_len d r
    cases p with
    | space c => dsimp only [pastL]; simp only [List.length_cons]; (first | lia | omega)
    | line c => dsimp only [pastL]; split <;> simp only [List.length_cons] <;> (first | lia | omega)
    | _ => exact Nat.le_refl _
theorem drop_cons {PS ps : List Pc} {k : Int} {p : Pc} (h0 : 0 ≤ k) (h : PS.drop k.toNat = p :: ps) : PS[k.toNat]? = some p ∧ PS.drop (k + 1).toNat = ps := by
  constructor
  · have := List.head?_drop (l := PS) (i := k.toNat); rw [h] at this; exact this.symm
  · rw [show (k + 1).toNat = k.toNat + 1 by (first | lia | omega), ← List.tail_drop, h]; rfl
/-- between two calls of get -/
structure Inv (PS : List Pc) (tot : Int) (tx : Str) (σ : TS) (k d : Int) : Prop where
  ok : Ok σ
  tx : σ.tx = tx
  k0 : 0 ≤ k
  d0 : 0 ≤ d
  ml : σ.ml = d
  vl : σ.vl + nlc (PS.drop k.toNat) = tot
  pl : (∃ r, σ.q = false ∧ Full σ r ∧ Cut r (PS.drop k.toNat) ∧ r.length ≤ 1000) ∨
    (∃ r ps, σ.q = true ∧ σ.uc = some (Str.ofString "\"") ∧ σ.a = false ∧ Base σ.bare r ∧ PS.drop k.toNat = .shut :: ps ∧ Cut r ps ∧ r.length ≤ 1000)
/-- what is so behind a token -/
noncomputable def After (PS : List Pc) (tot : Int) (tx : Str) (lead note : Bool) (k : Int) (res : Res) (σ' : TS) (k' d' : Int) : Prop :=
  ∀ ty v e cm, res = .tok ty v e cm → Inv PS tot tx σ' k' d' ∧ (ty ≠ 0 → k < k') ∧ (ty = 0 → v = Str.ofString "" ∧ e = false ∧ PS.drop k'.toNat = [.fin] ∧ σ'.uc = none ∧ d' = 0) ∧ (ty = 2 → lead = true) ∧ (ty = 5 → note = true) ∧ k ≤ k'
noncomputable def isTok : Res → Bool
  | .tok .. => true
  | _ => false
theorem after_of {PS : List Pc} {tot : Int} {tx : Str} {lead note : Bool} {k k' d' : Int} {σ' : TS} {ty : Int} {v : Str} {e : Bool} {cm : Option Str}
    (h : Inv PS tot tx σ' k' d' ∧ (ty ≠ 0 → k < k') ∧ (ty = 0 → v = Str.ofString "" ∧ e = false ∧ PS.drop k'.toNat = [.fin] ∧ σ'.uc = none ∧ d' = 0) ∧ (ty = 2 → lead = true) ∧ (ty = 5 → note = true) ∧ k ≤ k') : After PS tot tx lead note k (.tok ty v e cm) σ' k' d' :=
  fun _ _ _ _ q => by cases q; exact h
theorem after_nt {PS : List Pc} {tot : Int} {tx : Str} {lead note : Bool} {k k' d' : Int} {res : Res} {σ' : TS} (h : isTok res = false) : After PS tot tx lead note k res σ' k' d' :=
  fun _ _ _ _ q => by rw [q] at h; cases h
theorem ml_full {σ : TS} {r : List Nat} {m : Int} (h : Full σ r) : Full { σ with ml := m } r := by
  rcases h with ⟨hu, hb⟩ | ⟨c, r1, hu, hs, hb, ha⟩
  · exact .inl ⟨hu, ⟨⟨hb.ok.1, hb.ok.2, hb.ok.3, hb.ok.4, hb.ok.5⟩, hb.b⟩⟩
  · exact .inr ⟨c, r1, hu, hs, ⟨⟨hb.ok.1, hb.ok.2, hb.ok.3, hb.ok.4, hb.ok.5⟩, hb.b⟩, ha⟩
theorem full_ok {σ : TS} {r : List Nat} (h : Full σ r) : Ok σ := by
  rcases h with ⟨hu, hb⟩ | ⟨c, r1, hu, hs, hb, ha⟩
  · exact hb.ok
  · exact ⟨hb.ok.1, hb.ok.2, hb.ok.3, hb.ok.4, hb.ok.5⟩
theorem skip_next {PS : List Pc} {σ : TS} {r : List Nat} {k : Int} (hF : Full σ r) (hq : σ.q = false) (hC : Cut r (PS.drop k.toNat)) (hm : 0 ≤ σ.ml) (hk : 0 ≤ k) (hP : PS.length < 2900) :
    ∃ sk σb rb kb, skipM 3000 σ 0 = some (sk, σb) ∧ pastM 3000 PS k σ.ml = some kb ∧ Full σb rb ∧ σb.q = false ∧ σb.ml = σ.ml ∧ σb.tx = σ.tx ∧ Cut rb (PS.drop kb.toNat) ∧ k ≤ kb ∧
      σb.vl + nlc (PS.drop kb.toNat) = σ.vl + nlc (PS.drop k.toNat) ∧ pastL σ.ml (PS.drop kb.toNat) = PS.drop kb.toNat ∧ rb.length ≤ r.length ∧ sk = kb - k ∧ Ok σb := by
  obtain ⟨sk, c, σb, e1, e2, e3, e4, e5, e6⟩ := skip_total (full_ok hF)
  obtain ⟨rb, a1, a2, a3, a4, a5, a6, a7, a8, a9⟩ := skip_cut _ hF hq hC hm e1
  obtain ⟨kb, b1, b2, b3, b4⟩ := pastM_list PS σ.ml 3000 k hk (by rw [List.length_drop]; (first | lia | omega)) (hC.ne _)
  refine ⟨sk, σb, rb, kb, e1, b1, a1, a5, a6, a7, by rw [b3]; exact a2, b2, by rw [b3]; exact a4, by rw [b3]; exact a8, a9, by (first | lia | omega), e3⟩
theorem dropNl_len : ∀ r : List Nat, (dropNl r).length ≤ r.length
  | [] => Nat.le_refl _
  | c :: r => by
    show (if c = 10 then r else c :: r).length ≤ (c :: r).length
    split
    · exact Nat.le_succ _
    · exact Nat.le_refl _
/-- what the token's run ends with: get's and the law's reading at one -/
inductive MainR (note : Bool) (PS : List Pc) (tot : Int) (tx : Str) (n : Nat) (σ : TS) (kb m k : Int) : Prop where
  | mk (res : Res) (σ' : TS) (k' d' : Int) (h1 : getM n note σ (Str.ofString "") 3 false = some (res, σ')) (h2 : nextL n note PS kb m = some (res, k', d')) (h3 : After PS tot tx false note k res σ' k' d')
/-- a skip, then on -/
inductive GoR (note : Bool) (PS : List Pc) (tot : Int) (tx : Str) (n : Nat) (σa : TS) (ka m k : Int) : Prop where
  | mk (sk : Int) (σb : TS) (kb : Int) (h1 : skipM 3000 { σa with ml := m } 0 = some (sk, σb)) (h2 : pastM 3000 PS ka m = some kb) (h3 : MainR note PS tot tx n σb kb m k)
section
variable {note : Bool} {PS : List Pc} {tot : Int} {tx : Str} {n : Nat} {σ σ' σa σb : TS} {k m k' d' kb sk : Int} {r' : List Nat} {ty : Int} {v : Str} {e : Bool} {cm : Option Str} {res : Res}
theorem MainR.nt (E : getM n note σ (Str.ofString "") 3 false = some (res, σ')) (E2 : nextL n note PS k m = some (res, k', d')) (h : isTok res = false) : MainR note PS tot tx n σ k m k := .mk _ _ _ _ E E2 (after_nt h)
theorem MainR.tok (E : getM n note σ (Str.ofString "") 3 false = some (.tok ty v e cm, σ')) (E2 : nextL n note PS k m = some (.tok ty v e cm, k', d')) (hI : Inv PS tot tx σ' k' d') (h0 : ty ≠ 0) (h2 : ty ≠ 2) (h5 : ty = 5 → note = true) (hk : k < k') : MainR note PS tot tx n σ k m k :=
  .mk _ _ _ _ E E2 (after_of ⟨hI, fun _ => hk, fun h => absurd h h0, fun h => absurd h h2, h5, Int.le_of_lt hk⟩)
theorem MainR.last (E : getM n note σ (Str.ofString "") 3 false = some (.tok 0 (Str.ofString "") false cm, σ')) (E2 : nextL n note PS k m = some (.tok 0 (Str.ofString "") false cm, k', d')) (hI : Inv PS tot tx σ' k' d') (hd : PS.drop k'.toNat = [.fin]) (hu : σ'.uc = none) (hz : d' = 0) (hk : k ≤ k') : MainR note PS tot tx n σ k m k :=
  .mk _ _ _ _ E E2 (after_of ⟨hI, fun h => absurd rfl h, fun _ => ⟨rfl, rfl, hd, hu, hz⟩, fun h => absurd h (by decide), fun h => absurd h (by decide), hk⟩)
theorem MainR.step {n1 : Nat} {kc m1 : Int} (J : MainR note PS tot tx n σb kb m1 k) (E : getM n1 note σ (Str.ofString "") 3 false = getM n note σb (Str.ofString "") 3 false) (E2 : nextL n1 note PS kc m = nextL n note PS kb m1) : MainR note PS tot tx n1 σ kc m k := by
  obtain ⟨res, σ', k', d', h1, h2, h3⟩ := J
  exact .mk _ _ _ _ (E.trans h1) (E2.trans h2) h3
theorem invA (ok : Ok σ') (htx : σ'.tx = tx) (k0 : 0 ≤ k') (d0 : 0 ≤ d') (ml : σ'.ml = d') (vl : σ'.vl + nlc (PS.drop k'.toNat) = tot) (hq : σ'.q = false) (hF : Full σ' r') (hC : Cut r' (PS.drop k'.toNat)) (hl : r'.length ≤ 1000) : Inv PS tot tx σ' k' d' :=
  ⟨ok, htx, k0, d0, ml, vl, .inl ⟨_, hq, hF, hC, hl⟩⟩
end
section
variable {n : Nat} {note : Bool} {PS : List Pc} {k m kb : Int} {v : Str}
theorem nx_lp (hp : PS[k.toNat]? = some .lp) (h : pastM 3000 PS (k + 1) (m + 1) = some kb) : nextL (n + 1) note PS k m = nextL n note PS kb (m + 1) := (nextL_e hp).trans (by dsimp only [nextB]; rw [h])
theorem nx_rp0 (hp : PS[k.toNat]? = some .rp) (h : m + -1 < 0) : nextL (n + 1) note PS k m = some (.syn, k, m + -1) := (nextL_e hp).trans (if_pos h)
theorem nx_rp1 (hp : PS[k.toNat]? = some .rp) (h0 : ¬ m + -1 < 0) (h : pastM 3000 PS (k + 1) (m + -1) = some kb) : nextL (n + 1) note PS k m = nextL n note PS kb (m + -1) := (nextL_e hp).trans ((if_neg h0).trans (by rw [h]))
theorem nx_fin0 (hp : PS[k.toNat]? = some .fin) (h : 0 < m) : nextL (n + 1) note PS k m = some (.syn, k, m) := (nextL_e hp).trans (if_pos h)
theorem nx_fin1 (hp : PS[k.toNat]? = some .fin) (h : ¬ 0 < m) : nextL (n + 1) note PS k m = some (.tok 0 (Str.ofString "") false none, k, m) := (nextL_e hp).trans (if_neg h)
theorem nx_n1 (hp : PS[k.toNat]? = some (.note v)) : nextL (n + 1) true PS k m = some (.tok 5 v false none, k + 1, m) := by rw [nextL_e hp]; rfl
theorem nx_n2 (hp : PS[k.toNat]? = some (.note v)) (h1 : PS[(k + 1).toNat]? = some .fin) (h : 0 < m) : nextL (n + 1) false PS k m = some (.syn, k + 1, m) := by rw [nextL_e hp]; dsimp only [nextB]; rw [if_neg Bool.false_ne_true, h1]; exact if_pos h
theorem nx_n3 (hp : PS[k.toNat]? = some (.note v)) (h1 : PS[(k + 1).toNat]? = some .fin) (h : ¬ 0 < m) : nextL (n + 1) false PS k m = some (.tok 0 (Str.ofString "") false (some v), k + 1, m) := by rw [nextL_e hp]; dsimp only [nextB]; rw [if_neg Bool.false_ne_true, h1]; exact if_neg h
theorem nx_n4 {c : Str} (hp : PS[k.toNat]? = some (.note v)) (h1 : PS[(k + 1).toNat]? = some (.line c)) (h : m = 0) : nextL (n + 1) false PS k m = some (.tok 1 (Str.ofString "\n") false (some v), k + 2, m) := by rw [nextL_e hp]; dsimp only [nextB]; rw [if_neg Bool.false_ne_true, h1]; exact if_pos h
theorem nx_n5 {c : Str} (hp : PS[k.toNat]? = some (.note v)) (h1 : PS[(k + 1).toNat]? = some (.line c)) (h : ¬ m = 0) (h2 : pastM 3000 PS (k + 1) m = some kb) : nextL (n + 1) false PS k m = nextL n false PS kb m := by rw [nextL_e hp]; dsimp only [nextB]; rw [if_neg Bool.false_ne_true, h1]; exact (if_neg h).trans (by rw [h2])
variable {σ σ1 σ2 σ3 : TS} {c c2 : Str} {sk : Int} (hg : getc σ = (c, σ1)) (hq : σ.q = false)
include hg hq
variable (hk : clOf c = .sc) (e : noteM 3000 σ1 (Str.ofString "") = some (v, c2, σ2))
include hk e
theorem gx_n1 : getM (n + 1) true σ (Str.ofString "") 3 false = some (.tok 5 v false none, { σ2 with uc := some c2 }) := (gb_sc hg hq hk e).trans (if_pos rfl)
theorem gx_n2 (hc : (c2 == Str.ofString "") = true) (h : σ.ml ≠ 0) : getM (n + 1) false σ (Str.ofString "") 3 false = some (.syn, σ2) := (gb_sc hg hq hk e).trans ((if_neg Bool.false_ne_true).trans ((if_pos hc).trans (if_pos h)))
theorem gx_n3 (hc : (c2 == Str.ofString "") = true) (h : ¬ σ.ml ≠ 0) : getM (n + 1) false σ (Str.ofString "") 3 false = some (.tok 0 (Str.ofString "") false (some v), σ2) := (gb_sc hg hq hk e).trans ((if_neg Bool.false_ne_true).trans ((if_pos hc).trans (if_neg h)))
theorem gx_n4 (hc : (c2 == Str.ofString "") = false) (h : ¬ σ.ml ≠ 0) : getM (n + 1) false σ (Str.ofString "") 3 false = some (.tok 1 (Str.ofString "\n") false (some v), σ2) := (gb_sc hg hq hk e).trans ((if_neg Bool.false_ne_true).trans ((if_neg (by rw [hc]; decide)).trans (if_neg h)))
theorem gx_n5 (hc : (c2 == Str.ofString "") = false) (h : σ.ml ≠ 0) (hs : skipM 3000 σ2 0 = some (sk, σ3)) : getM (n + 1) false σ (Str.ofString "") 3 false = getM n false σ3 (Str.ofString "") 3 false := (gb_sc hg hq hk e).trans ((if_neg Bool.false_ne_true).trans ((if_neg (by rw [hc]; decide)).trans ((if_pos h).trans (by rw [hs]))))
end
/-- behind a comment: a newline -/
theorem main_line {PS : List Pc} {tot : Int} {tx : Str} {n : Nat} {σ σ1 σ2 : TS} {c v cl : Str} {k : Int} {rr : List Nat} {ps2 : List Pc} (hg : getc σ = (c, σ1)) (hq : σ.q = false) (hk : clOf c = .sc) (e : noteM 3000 σ1 (Str.ofString "") = some (v, Str.ofString "\n", σ2))
    (hp : PS[k.toNat]? = some (.note v)) (hp1 : PS[(k + 1).toNat]? = some (.line cl)) (hd2 : PS.drop (k + 1 + 1).toNat = ps2) (hC2 : Cut rr ps2) (hP : PS.length < 2900) (hm : 0 ≤ σ.ml) (hk0 : 0 ≤ k) (ok : Ok σ2) (htx2 : σ2.tx = tx) (hml2 : σ2.ml = σ.ml) (ht2 : σ2.vl + nlc ps2 = tot) (hq2 : σ2.q = false) (hF : Full σ2 rr) (hl : rr.length ≤ 1000)
    (go : GoR false PS tot tx n σ2 (k + 1 + 1) σ.ml k) : MainR false PS tot tx (n + 1) σ k σ.ml k := by
  by_cases h0 : σ.ml = 0
  · have hd3 : PS.drop (k + 2).toNat = ps2 := by rw [show k + 2 = k + 1 + 1 by (first | lia | omega)]; exact hd2
    exact .tok (gx_n4 hg hq hk e lit_nl_nil (by (first | lia | omega))) (nx_n4 hp hp1 h0) (invA ok htx2 (by (first | lia | omega)) hm hml2 (by rw [hd3]; exact ht2) hq2 hF (by rw [hd3]; exact hC2) hl) (by decide) (by decide) (fun h => absurd h (by decide)) (by (first | lia | omega))
  · obtain ⟨sk, σb, kb, f1, f2, J⟩ := go
    have hp' : pastM 3000 PS (k + 1) σ.ml = pastM 2999 PS (k + 1 + 1) σ.ml := by
      rw [pastM, hp1]; dsimp only; rw [if_pos (by (first | lia | omega))]
    have f2' : pastM 3000 PS (k + 1) σ.ml = some kb := by
      refine ex1 (pastM_list PS σ.ml 2999 (k + 1 + 1) (by (first | lia | omega)) (by rw [List.length_drop]; (first | lia | omega)) (by rw [hd2]; exact hC2.ne _)) fun kc q => an4 q fun c1 c2 c3 c4 => ?_
      refine ex1 (pastM_list PS σ.ml 3000 (k + 1 + 1) (by (first | lia | omega)) (by rw [List.length_drop]; (first | lia | omega)) (by rw [hd2]; exact hC2.ne _)) fun kd q => an4 q fun d1 d2 d3 d4 => ?_
      rw [hp', c1]
      rw [d1] at f2
      rw [← f2]
      congr 1
      (first | lia | omega)
    exact J.step (gx_n5 hg hq hk e lit_nl_nil h0 (by rw [show σ2 = { σ2 with ml := σ.ml } by rw [← hml2]]; exact f1)) (nx_n5 hp hp1 h0 f2')
theorem getM_main0 (note : Bool) (PS : List Pc) (tot : Int) (tx : Str) (hP : PS.length < 2900) : ∀ (n : Nat) {σ : TS} {r : List Nat} {k : Int}, Full σ r → σ.q = false → σ.tx = tx → Cut r (PS.drop k.toNat) → 0 ≤ σ.ml → 0 ≤ k →
    r.length < n → r.length ≤ 1000 → pastL σ.ml (PS.drop k.toNat) = PS.drop k.toNat → σ.vl + nlc (PS.drop k.toNat) = tot → MainR note PS tot tx n σ k σ.ml k := by
  intro n
  induction n with
  | zero => intro σ r k _ _ _ _ _ _ h; exact absurd h (Nat.not_lt_zero _)
  | succ n ih =>
    intro σ r k hF hq htx hC hm hk0 hn hl hnorm htot
    obtain ⟨c, r1, σ1, hg, G⟩ := getc_full hF hq
    have hq1 := G.q.trans hq
    have htx1 := G.tx.trans htx
    -- a skip, then on
    have go : ∀ {m : Int} {ps1 : List Pc} {σa : TS} {ra : List Nat} {ka : Int}, 0 ≤ m → k < ka → Full σa ra → σa.q = false → σa.tx = tx → PS.drop ka.toNat = ps1 → Cut ra ps1 → ra.length < r.length → σa.vl + nlc ps1 = tot → GoR note PS tot tx n σa ka m k := by
      intro m ps1 σa ra ka h0 hka hFa hqa htxa hd hCa hra hta
      refine ex4 (skip_next (PS := PS) (σ := { σa with ml := m }) (k := ka) (ml_full hFa) hqa (by rw [hd]; exact hCa) h0 (by (first | lia | omega)) hP) fun sk σb rb kb q => an13 q fun e1 e2 e3 e4 e5 e6 e7 e8 e9 e10 e11 e12 e13 => ?_
      refine .mk sk σb kb e1 e2 ?_
      dsimp only at e5 e10 e9
      obtain ⟨res, σ', k', d', f1, f2, f3⟩ := ih e3 e4 (e6.trans htxa) e7 (by rw [e5]; exact h0) (by (first | lia | omega)) (by (first | lia | omega)) (by (first | lia | omega)) (by rw [e5]; exact e10) (by rw [e9, hd]; exact hta)
      rw [e5] at f2
      refine .mk res σ' k' d' f1 f2 fun ty v e cm hh => ?_
      refine an6 (f3 ty v e cm hh) fun g1 g2 g3 g4 g5 g6 => ?_
      exact ⟨g1, fun h => by have := g2 h; (first | lia | omega), g3, g4, g5, by (first | lia | omega)⟩
    clear ih
    have hvl := G.vl
    have line : ∀ {ps1 : List Pc} {cl : Str} {rr : List Nat}, c = Str.ofString "\n" → PS.drop k.toNat = .line cl :: ps1 → Cut r1 ps1 → r1.length ≤ r.length → σ1.vl = σ.vl + 1 → MainR note PS tot tx (n + 1) σ k σ.ml k := by
      intro ps1 cl rr hc hd hC1 hr hv
      obtain ⟨hp, hd1⟩ := drop_cons hk0 hd
      refine .tok (gb_nl hg hq (by rw [hc]; exact cl_nl)) (nextL_e hp) (invA G.b.ok htx1 (by (first | lia | omega)) hm G.ml ?_ hq1 G.full (by rw [hd1]; exact hC1) (by (first | lia | omega))) (by decide) (by decide) (fun h => absurd h (by decide)) (by (first | lia | omega))
      rw [hv, hd1]
      rw [hd, nlc, Pc.nl] at htot
      (first | lia | omega)
    have hst := G.st
    cases hst with
    | nil =>
      have hd := hC.inv_nil
      obtain ⟨hp, _⟩ := drop_cons hk0 hd
      by_cases h0 : 0 < σ.ml
      · exact .nt ((gb_nil hg hq cl_nil rfl).trans (if_pos (by rw [G.ml]; (first | lia | omega)))) (nx_fin0 hp h0) rfl
      · have hz : σ.ml = 0 := by (first | lia | omega)
        refine .last ((gb_nil hg hq cl_nil rfl).trans (if_neg (by rw [G.ml]; (first | lia | omega)))) (nx_fin1 hp h0) (invA G.b.ok htx1 hk0 hm G.ml ?_ hq1 G.full (by rw [hd]; exact .nil) (Nat.zero_le _)) hd G.uc hz (Int.le_refl _)
        rw [hvl, nl1_nil]; (first | lia | omega)
    | nl hx =>
      obtain ⟨ps1, hd, hC1⟩ := hC.inv_nl hx
      exact line (rr := []) rfl hd hC1 (Nat.le_succ _) (by rw [hvl, nl1_nl])
    | cr hx =>
      obtain ⟨ps1, hd, hC1⟩ := hC.inv_cr hx
      exact line (rr := []) rfl hd hC1 (Nat.le_trans (dropNl_len _) (Nat.le_succ _)) (by rw [hvl, nl1_nl])
    | ch h10 h13 =>
      rename_i x
      have hv0 : σ1.vl = σ.vl := by rw [hvl, nl1_one h10, Int.add_zero]
      simp only [List.length_cons] at hn hl
      by_cases h40 : x = 40
      · obtain ⟨ps1, hd, hC1⟩ := hC.inv_lp h40
        obtain ⟨hp, hd1⟩ := drop_cons hk0 hd
        have hk : clOf (one x) = .lp := by rw [clOf_one, if_pos h40]
        obtain ⟨sk, σb, kb, e1, e2, J⟩ := go (m := σ.ml + 1) (by (first | lia | omega)) (by (first | lia | omega)) G.full hq1 htx1 hd1 hC1 (Nat.lt_succ_self _) (by rw [hv0]; rw [hd, nlc, show Pc.lp.nl = 0 from rfl] at htot; (first | lia | omega))
        exact J.step (gb_lp hg hq hk e1) (nx_lp hp e2)
      by_cases h41 : x = 41
      · obtain ⟨ps1, hd, hC1⟩ := hC.inv_rp h41
        obtain ⟨hp, hd1⟩ := drop_cons hk0 hd
        have hk : clOf (one x) = .rp := by rw [clOf_one, if_neg h40, if_pos h41]
        by_cases h0 : σ.ml ≤ 0
        · exact .nt (gb_rp0 hg hq hk h0) (nx_rp0 hp (by (first | lia | omega))) rfl
        · obtain ⟨sk, σb, kb, e1, e2, J⟩ := go (m := σ.ml + -1) (by (first | lia | omega)) (by (first | lia | omega)) G.full hq1 htx1 hd1 hC1 (Nat.lt_succ_self _) (by rw [hv0]; rw [hd, nlc, show Pc.rp.nl = 0 from rfl] at htot; (first | lia | omega))
          exact J.step (gb_rp1 hg hq hk h0 e1) (nx_rp1 hp (by (first | lia | omega)) e2)
      by_cases h34 : x = 34
      · obtain ⟨p, r', ps1, hd, hs, hC1⟩ := hC.inv_dq h34
        have hk : clOf (one x) = .dq := by rw [clOf_one, if_neg h40, if_neg h41, if_pos h34]
        have E : getM (n + 1) note σ (Str.ofString "") 3 false = getM n note { σ1 with q := true } (Str.ofString "") 4 false :=
          gb_dq hg hq hk
        have ha1 : σ1.a = false := by
          rcases G.a with h | h | h
          · rw [l_nl] at h; exact absurd (by simpa using h) h10
          · exact h
          · exact absurd h one_ne_nil
        cases strM_run note n (σ := { σ1 with q := true }) (r := r1) ⟨⟨G.b.ok.1, G.b.ok.2, G.b.ok.3, G.b.ok.4, G.b.ok.5⟩, G.b.b⟩ G.uc rfl ha1 hs (by (first | lia | omega)) (by rw [len_nil]; (first | lia | omega)) with
        | w v e σ' e1 e2 e3 e4 e5 e6 e7 e8 e9 e10 =>
          subst e1
          have hd' : PS.drop k.toNat = .str v e :: .shut :: ps1 := hd
          obtain ⟨hp, hd1⟩ := drop_cons hk0 hd'
          refine .tok (E.trans e2) (nextL_e hp) ⟨⟨e4.ok.1, e4.ok.2, e4.ok.3, e4.ok.4, e4.ok.5⟩, e8.trans htx1, by (first | lia | omega), hm, e7.trans G.ml, ?_, .inr ⟨r', ps1, e5, e3, e6, e4, hd1, hC1, by (first | lia | omega)⟩⟩ (by decide) (by decide) (fun h => absurd h (by decide)) (by (first | lia | omega))
          have hv' : σ'.vl = σ'.ln := by
            unfold TS.vl; rw [e3]; show σ'.ln - nl1 (Str.ofString "\"") = _; rw [l_dq, nl1_one (by decide), Int.sub_zero]
          have hln : σ1.ln = σ.vl := by rw [G.ln, nl1_one h10, Int.add_zero]
          have hz : nlS (Str.ofString "") = 0 := by decide +kernel
          rw [hv', hd1]
          rw [hd', nlc, Pc.nl] at htot
          dsimp only at e9
          (first | lia | omega)
        | nl e1 σ' e2 =>
          subst e1
          obtain ⟨hp, hd1⟩ := drop_cons (p := .wrongNl) hk0 hd
          exact .nt (E.trans e2) (nextL_e hp) rfl
        | en e1 σ' e2 =>
          subst e1
          obtain ⟨hp, hd1⟩ := drop_cons (p := .wrongEnd) hk0 hd
          exact .nt (E.trans e2) (nextL_e hp) rfl
      by_cases h59 : x = 59
      · obtain ⟨v, r', ps1, hd, hs, hC1⟩ := hC.inv_sc h59
        obtain ⟨hp, hd1⟩ := drop_cons hk0 hd
        have hk : clOf (one x) = .sc := by rw [clOf_one, if_neg h40, if_neg h41, if_neg h34, if_neg h10, if_pos h59]
        refine ex3 (noteM_run 3000 G.full hq1 hs (by (first | lia | omega)) (by rw [len_nil]; (first | lia | omega))) fun c2 σ2 r2 q => an4 q fun e1 G2 e3 e4 => ?_
        have hq2 := G2.q.trans hq1
        have htx2 := G2.tx.trans htx1
        have hml2 := G2.ml.trans G.ml
        have hnl : nlc (.note v :: ps1) = nlc ps1 := by rw [nlc, show (Pc.note v).nl = 0 from rfl]; (first | lia | omega)
        rw [hd, hnl] at htot
        cases note with
        | true =>
          exact .tok (gx_n1 hg hq hk e1) (nx_n1 hp) (invA (full_ok G2.back) htx2 (by (first | lia | omega)) hm hml2 (by rw [G2.back_vl, hv0, hd1]; exact htot) hq2 G2.back (by rw [hd1]; exact hC1) (by (first | lia | omega))) (by decide) (by decide) (fun _ => rfl) (by (first | lia | omega))
        | false =>
          have hvl2 := G2.vl
          have line2 : ∀ {ps2 : List Pc} {cl : Str}, c2 = Str.ofString "\n" → ps1 = .line cl :: ps2 → Cut r2 ps2 → r2.length < r1.length + 1 → MainR false PS tot tx (n + 1) σ k σ.ml k := by
            intro ps2 cl hc hf hC2 hr2
            subst hc
            obtain ⟨hp1, hd2⟩ := drop_cons (k := k + 1) (by (first | lia | omega)) (hd1.trans hf)
            have ht2 : σ2.vl + nlc ps2 = tot := by
              rw [hvl2, nl1_nl, hv0]
              rw [hf, nlc, Pc.nl] at htot
              (first | lia | omega)
            exact main_line hg hq hk e1 hp hp1 hd2 hC2 hP hm hk0 G2.b.ok htx2 hml2 ht2 hq2 G2.full (by (first | lia | omega)) (go hm (by (first | lia | omega)) G2.full hq2 htx2 hd2 hC2 (by simp only [List.length_cons]; (first | lia | omega)) ht2)
          have hst2 := G2.st
          cases hst2 with
          | nil =>
            have hf := hC1.inv_nil
            subst hf
            obtain ⟨hp1, hd2⟩ := drop_cons (k := k + 1) (by (first | lia | omega)) hd1
            by_cases h0 : 0 < σ.ml
            · exact .nt (gx_n2 hg hq hk e1 nil_beq (by (first | lia | omega))) (nx_n2 hp hp1 h0) rfl
            · have hz : σ.ml = 0 := by (first | lia | omega)
              refine .last (gx_n3 hg hq hk e1 nil_beq (by (first | lia | omega))) (nx_n3 hp hp1 h0) (invA G2.b.ok htx2 (by (first | lia | omega)) hm hml2 ?_ hq2 G2.full (by rw [hd1]; exact .nil) (Nat.zero_le _)) hd1 G2.uc hz (by (first | lia | omega))
              rw [hvl2, nl1_nil, hv0, hd1]; (first | lia | omega)
          | ch h1 h2 =>
            rcases e3 with h | h
            · exact absurd h one_ne_nil
            · rw [l_nl] at h; exact absurd (by simpa using h) h1
          | nl hx2 =>
            obtain ⟨ps2, hf, hC2⟩ := hC1.inv_nl hx2
            exact line2 rfl hf hC2 (by simp only [List.length_cons] at e4; (first | lia | omega))
          | cr hx2 =>
            obtain ⟨ps2, hf, hC2⟩ := hC1.inv_cr hx2
            rename_i y r2
            exact line2 rfl hf hC2 (by have := dropNl_len r2; simp only [List.length_cons] at e4; (first | lia | omega))
      by_cases hws : x = 32 ∨ x = 9
      · obtain ⟨ps1, hd, hC1⟩ := hC.inv_space hws
        rw [hd, pastL] at hnorm
        have := pastL_len σ.ml ps1
        rw [hnorm, List.length_cons] at this
        (first | lia | omega)
      have hw : x ∉ [32, 9, 10, 13, 59, 40, 41, 34] := by simp; (first | lia | omega)
      obtain ⟨p, r', ps1, hd, hs, hC1⟩ := hC.inv_word hw
      obtain ⟨hp, hd1⟩ := drop_cons hk0 hd
      cases wordM_run note (n + 1) hF hq hs (by simp only [List.length_cons]; (first | lia | omega)) (by rw [len_nil, List.length_cons]; (first | lia | omega)) (.inr ⟨x, r1, rfl, hw⟩) with
      | w v e σ' e1 e2 e3 e4 e5 e6 e7 e8 e9 =>
        subst e1
        refine .tok e2 (nextL_e hp) (invA e9 (e6.trans htx) (by (first | lia | omega)) hm e5 ?_ e4 e3 (by rw [hd1]; exact hC1) (by simp only [List.length_cons] at e8; (first | lia | omega))) (by decide) (by decide) (fun h => absurd h (by decide)) (by (first | lia | omega))
        rw [e7, hd1]
        rw [hd, nlc, show (Pc.word v e).nl = 0 from rfl] at htot
        (first | lia | omega)
      | en e1 σ' e2 =>
        subst e1
        exact .nt e2 (nextL_e hp) rfl
theorem getM_main (note : Bool) (PS : List Pc) (tot : Int) (tx : Str) (hP : PS.length < 2900) (n : Nat) {σ : TS} {r : List Nat} {k : Int} (a1 : Full σ r) (a2 : σ.q = false) (a3 : σ.tx = tx) (a4 : Cut r (PS.drop k.toNat)) (a5 : 0 ≤ σ.ml) (a6 : 0 ≤ k)
    (a7 : r.length < n) (a8 : r.length ≤ 1000) (a9 : pastL σ.ml (PS.drop k.toNat) = PS.drop k.toNat) (b0 : σ.vl + nlc (PS.drop k.toNat) = tot) :
    ∃ res σ' k' d', getM n note σ (Str.ofString "") 3 false = some (res, σ') ∧ nextL n note PS k σ.ml = some (res, k', d') ∧ After PS tot tx false note k res σ' k' d' := by
  obtain ⟨res, σ', k', d', f1, f2, f3⟩ := getM_main0 note PS tot tx hP n a1 a2 a3 a4 a5 a6 a7 a8 a9 b0
  exact ⟨res, σ', k', d', f1, f2, f3⟩
end Mine
end

section
set_option genInjectivity false
set_option genSizeOf false
open PySem PySem.W
namespace Mine
theorem getc_back {tx : Str} {k : Int} {c : Str} {q e a : Bool} {ml ln : Int} : getc ⟨tx, k, some c, q, e, a, ml, ln⟩ = (c, ⟨tx, k, none, q, e, a, ml, ln⟩) := rfl
theorem after_lead {PS : List Pc} {tot : Int} {tx : Str} {lead note : Bool} {k k0 : Int} {res : Res} {σ' : TS} {k' d' : Int} (h : After PS tot tx false note k res σ' k' d') (hk : k0 ≤ k) : After PS tot tx lead note k0 res σ' k' d' := by
  intro ty v e cm hr
  obtain ⟨a1, a2, a3, a4, a5, a6⟩ := h ty v e cm hr
  exact ⟨a1, fun h => by have := a2 h; (first | lia | omega), a3, fun h => absurd (a4 h) Bool.false_ne_true, a5, by (first | lia | omega)⟩
theorem gb_qo {n : Nat} {note : Bool} {σ σ1 σ2 : TS} {c : Str} {sk : Int} (hg : getc σ = (c, σ1)) (hq : σ.q = true) (hk : clOf c = .dq) (e : skipM 3000 { σ1 with q := false } 0 = some (sk, σ2)) : getM (n + 1) note σ (Str.ofString "") 3 false = getM n note σ2 (Str.ofString "") 3 false := by
  rw [getM_b hg, hq, hk]
  have : getB (getM n note) note σ (Str.ofString "") 3 false c σ1 true .dq = match skipM 3000 { σ1 with q := false } 0 with | none => none | some (_, σ2) => getM n note σ2 (Str.ofString "") 3 false := rfl
  rw [this, e]
theorem get_main {PS : List Pc} {tot : Int} {tx : Str} {lead note : Bool} {σ : TS} {k d : Int} (hP : PS.length < 2900) (h : Inv PS tot tx σ k d) :
    ∃ res σ' k' d', getT lead note σ = some (res, σ') ∧ nextM lead note PS k d = some (res, k', d') ∧ After PS tot tx lead note k res σ' k' d' := by
  obtain ⟨ok, htx, k0, d0, hml, hvl, hpl⟩ := h
  subst hml
  rcases hpl with ⟨r, hq, hF, hC, hl⟩ | ⟨r, ps, hq, hu, ha, hB, hd, hC, hl⟩
  · obtain ⟨sk, σb, rb, kb, e1, e2, e3, e4, e5, e6, e7, e8, e9, e10, e11, e12, e13⟩ := skip_next hF hq hC d0 k0 hP
    unfold getT nextM
    rw [e1, e2]
    dsimp only
    by_cases hc : lead = true ∧ k < kb
    · rw [if_pos hc, if_pos ⟨hc.1, by (first | lia | omega)⟩]
      refine ⟨_, _, _, _, rfl, rfl, fun ty v e cm hr => ?_⟩
      cases hr
      exact ⟨⟨e13, e6.trans htx, by (first | lia | omega), d0, e5, by rw [e9]; exact hvl, .inl ⟨rb, e4, e3, e7, by (first | lia | omega)⟩⟩, fun _ => hc.2, fun h => absurd h (by decide), fun _ => hc.1, fun h => absurd h (by decide), by (first | lia | omega)⟩
    · rw [if_neg hc, if_neg (fun q => hc ⟨q.1, by (first | lia | omega)⟩)]
      obtain ⟨res, σ', k', d', f1, f2, f3⟩ := getM_main note PS tot tx hP 3000 e3 e4 (e6.trans htx) e7 (by rw [e5]; exact d0) (by (first | lia | omega)) (by (first | lia | omega)) (by (first | lia | omega)) (by rw [e5]; exact e10) (by rw [e9]; exact hvl)
      rw [e5] at f2
      exact ⟨res, σ', k', d', f1, f2, after_lead f3 e8⟩
  · obtain ⟨tx', k1, uc, q, e, a, ml, ln⟩ := σ
    dsimp only [TS.bare] at hq hu ha hB d0 htx hvl ok
    subst hq hu ha htx
    obtain ⟨hp, hd1⟩ := drop_cons k0 hd
    have hs : skipM 3000 ⟨tx', k1, some (Str.ofString "\""), true, e, false, ml, ln⟩ 0 = some (0, ⟨tx', k1, some (Str.ofString "\""), true, e, false, ml, ln⟩) := kk_st getc_back (by decide +kernel) (by decide +kernel) (.inl (by decide +kernel))
    have hpm : pastM 3000 PS k ml = some k := by rw [pastM, hp]
    unfold getT nextM
    rw [hs, hpm]
    dsimp only
    rw [if_neg (fun q => absurd q.2 (by decide)), if_neg (fun q => absurd q.2 (Int.lt_irrefl _))]
    have hB' : Base ⟨tx', k1, none, false, e, false, ml, ln⟩ r := ⟨⟨hB.ok.1, hB.ok.2, hB.ok.3, hB.ok.4, hB.ok.5⟩, hB.b⟩
    have hv2 : ({ tx := tx', k := k1, uc := none, q := false, e := e, a := false, ml := ml, ln := ln } : TS).vl + nlc (PS.drop (k + 1).toNat) = tot := by
      rw [hd1]
      rw [hd, nlc, show Pc.shut.nl = 0 from rfl] at hvl
      unfold TS.vl at hvl ⊢
      dsimp only at hvl ⊢
      rw [l_dq, nl1_one (by decide)] at hvl
      (first | lia | omega)
    obtain ⟨sk, σb, rb, kb, e1, e2, e3, e4, e5, e6, e7, e8, e9, e10, e11, e12, e13⟩ := skip_next (PS := PS) (k := k + 1) (.inl ⟨rfl, hB'⟩) rfl (by rw [hd1]; exact hC) d0 (by (first | lia | omega)) hP
    dsimp only at e2 e5 e6 e9 e10
    obtain ⟨res, σ', k', d', f1, f2, f3⟩ := getM_main note PS tot tx' hP 2999 e3 e4 e6 e7 (by rw [e5]; exact d0) (by (first | lia | omega)) (by (first | lia | omega)) (by (first | lia | omega)) (by rw [e5]; exact e10) (by rw [e9]; exact hv2)
    rw [e5] at f2
    refine ⟨res, σ', k', d', ?_, ?_, after_lead f3 (by (first | lia | omega))⟩
    · exact (gb_qo getc_back rfl cl_dq e1).trans f1
    · rw [nextL_e hp]
      dsimp only [nextB]
      rw [if_neg (by (first | lia | omega)), Int.add_zero, e2]
      exact f2
theorem inv_start {PS : List Pc} {tx : Str} (hx : tx.length ≤ 1000) (hC : Cut (tl tx) PS) : Inv PS (1 + nlc PS) tx ⟨tx, 0, none, false, false, false, 0, 1⟩ 0 0 := by
  have ok : Ok ⟨tx, 0, none, false, false, false, 0, 1⟩ := ⟨Int.le_refl _, by show (0 : Int) ≤ tx.length; (first | lia | omega), hx, by show (0 : Int) ≤ 1; (first | lia | omega), by show (1 : Int) ≤ 0 + 1; (first | lia | omega)⟩
  refine ⟨ok, rfl, Int.le_refl _, Int.le_refl _, rfl, rfl, .inl ⟨tl tx, rfl, .inl ⟨rfl, ok, .inr (.inl ⟨rfl, rfl, rfl⟩)⟩, hC, ?_⟩⟩
  have : (tl tx).length = tx.length := by simp [Str.length]
  (first | lia | omega)
/-- the end is told again -/
theorem end_again {PS : List Pc} {tot : Int} {tx : Str} {lead note : Bool} {σ : TS} {k : Int} (hP : PS.length < 2900) (h : Inv PS tot tx σ k 0) (hf : PS.drop k.toNat = [.fin]) :
    ∃ σ', getT lead note σ = some (.tok 0 (Str.ofString "") false none, σ') := by
  obtain ⟨res, σ', k', d', e1, e2, _⟩ := get_main (lead := lead) (note := note) hP h
  obtain ⟨hp, _⟩ := drop_cons h.k0 hf
  have hpm : pastM 3000 PS k 0 = some k := by rw [pastM, hp]
  unfold nextM at e2
  rw [hpm] at e2
  dsimp only at e2
  rw [if_neg (fun q => absurd q.2 (Int.lt_irrefl _)), nextL_e hp] at e2
  dsimp only [nextB] at e2
  rw [if_neg (by decide)] at e2
  simp only [Option.some.injEq, Prod.mk.injEq] at e2
  exact ⟨σ', by rw [e1, e2.1]⟩
theorem end_lines {PS : List Pc} {tot : Int} {tx : Str} {σ : TS} {k d : Int} (h : Inv PS tot tx σ k d) (hf : PS.drop k.toNat = [.fin]) (hu : σ.uc = none) : σ.ln = tot := by
  have := h.vl
  rw [hf, nlc, nlc, show Pc.fin.nl = 0 from rfl] at this
  unfold TS.vl at this
  rw [hu] at this
  dsimp only at this
  (first | lia | omega)
end Mine
end

section
set_option genInjectivity false
set_option genSizeOf false
open PySem PySem.W PyProof.Rows
namespace Mine
/-- small signs only -/
noncomputable def Sm (x : Str) : Prop := ∀ c ∈ tl x, c < 2048
noncomputable def SmL (r : List Nat) : Prop := ∀ c ∈ r, c < 2048
theorem Sm.ok {x : Str} (h : Sm x) : PyData.strOk x = true := by
  unfold PyData.strOk
  rw [Array.all_eq_true]
  intro i hi
  have := h x.cps[i] (by simp)
  simp
  (first | lia | omega)
theorem Sm.app {a b : Str} (ha : Sm a) (hb : Sm b) : Sm (a ++ b) := by
  intro c hc
  rw [show tl (a ++ b) = tl a ++ tl b by rw [show tl (a ++ b) = (a ++ b).cps.toList from rfl, Str.cps_append]; simp] at hc
  rcases List.mem_append.mp hc with h | h
  · exact ha c h
  · exact hb c h
theorem Sm.one {x : Nat} (h : x < 2048) : Sm (one x) := fun c hc => by
  have : c = x := by simpa using hc
  (first | lia | omega)
theorem sm_nil : Sm (Str.ofString "") := fun c hc => by
  rw [show tl (Str.ofString "") = [] by decide +kernel] at hc; cases hc
theorem sm_bs : Sm (Str.ofString "\\") := by rw [l_bs]; exact Sm.one (by decide)
theorem strL_sm : ∀ (n : Nat) (r : List Nat) (v : Str) (e : Bool) {p : Pc} {r' : List Nat}, r.length ≤ n → SmL r → Sm v → strL r v e = (p, r') → (∀ w e', p = .str w e' → Sm w) ∧ SmL r' := by
  intro n
  induction n with
  | zero =>
    intro r v e p r' hn hr hv h
    cases r with
    | nil => cases h; exact ⟨fun _ _ h => (nomatch h), fun _ h => nomatch h⟩
    | cons => simp at hn
  | succ n ih =>
    intro r v e p r' hn hr hv h
    cases r with
    | nil => cases h; exact ⟨fun _ _ h => (nomatch h), fun _ h => nomatch h⟩
    | cons c r =>
      have hc := hr c List.mem_cons_self
      have hr2 : SmL r := fun x hx => hr x (List.mem_cons_of_mem _ hx)
      rw [strL_cons] at h
      simp only [List.length_cons] at hn
      split at h
      · cases h; exact ⟨fun _ _ h => by cases h; exact hv, hr2⟩
      · split at h
        · cases h; exact ⟨fun _ _ h => (nomatch h), fun _ h => nomatch h⟩
        · split at h
          · cases r with
            | nil => cases h; exact ⟨fun _ _ h => (nomatch h), fun _ h => nomatch h⟩
            | cons d r =>
              simp only [List.length_cons] at hn
              exact ih r _ _ (by (first | lia | omega)) (fun x hx => hr2 x (List.mem_cons_of_mem _ hx)) ((hv.app sm_bs).app (Sm.one (hr2 d List.mem_cons_self))) h
          · exact ih r _ _ (by (first | lia | omega)) hr2 (hv.app (Sm.one hc)) h
theorem wordL_sm : ∀ (n : Nat) (r : List Nat) (v : Str) (e : Bool) {p : Pc} {r' : List Nat}, r.length ≤ n → SmL r → Sm v → wordL r v e = (p, r') → (∀ w e', p = .word w e' → Sm w) ∧ SmL r' := by
  intro n
  induction n with
  | zero =>
    intro r v e p r' hn hr hv h
    cases r with
    | nil => cases h; exact ⟨fun _ _ h => by cases h; exact hv, fun _ h => nomatch h⟩
    | cons => simp at hn
  | succ n ih =>
    intro r v e p r' hn hr hv h
    cases r with
    | nil => cases h; exact ⟨fun _ _ h => by cases h; exact hv, fun _ h => nomatch h⟩
    | cons c r =>
      have hc := hr c List.mem_cons_self
      have hr2 : SmL r := fun x hx => hr x (List.mem_cons_of_mem _ hx)
      rw [wordL_cons] at h
      simp only [List.length_cons] at hn
      split at h
      · cases h; exact ⟨fun _ _ h => by cases h; exact hv, hr⟩
      · split at h
        · cases r with
          | nil => cases h; exact ⟨fun _ _ h => (nomatch h), fun _ h => nomatch h⟩
          | cons d r =>
            simp only [List.length_cons] at hn
            dsimp only at h
            split at h
            · cases h; exact ⟨fun _ _ h => (nomatch h), fun _ h => nomatch h⟩
            · exact ih r _ _ (by (first | lia | omega)) (fun x hx => hr2 x (List.mem_cons_of_mem _ hx)) ((hv.app sm_bs).app (Sm.one (hr2 d List.mem_cons_self))) h
        · exact ih r _ _ (by (first | lia | omega)) hr2 (hv.app (Sm.one hc)) h
theorem noteL_sm : ∀ (r : List Nat) (v : Str) {v' : Str} {r' : List Nat}, SmL r → Sm v → noteL r v = (v', r') → Sm v' ∧ SmL r'
  | [], v, v', r', hr, hv, h => by cases h; exact ⟨hv, hr⟩
  | c :: r, v, v', r', hr, hv, h => by
    rw [noteL] at h
    split at h
    · cases h; exact ⟨hv, hr⟩
    · exact noteL_sm r _ (fun x hx => hr x (List.mem_cons_of_mem _ hx)) (hv.app (Sm.one (hr c List.mem_cons_self))) h
noncomputable def PcSm (p : Pc) : Prop := match p with
  | .str v _ => Sm v
  | .word v _ => Sm v
  | .note v => Sm v
  | _ => True
theorem dropNl_sm {r : List Nat} (h : SmL r) : SmL (dropNl r) := by
  cases r with
  | nil => exact h
  | cons c r =>
    show SmL (if c = 10 then r else c :: r)
    split
    · exact fun x hx => h x (List.mem_cons_of_mem _ hx)
    · exact h
theorem Cut.sm {r : List Nat} {ps : List Pc} (h : Cut r ps) : SmL r → ∀ p ∈ ps, PcSm p := by
  induction h with
  | nil => intro _ p hp; rw [List.mem_singleton.mp hp]; exact True.intro
  | space hx c ih =>
    intro hr p hp
    rcases List.mem_cons.mp hp with rfl | hp
    · exact True.intro
    · exact ih (fun x hx => hr x (List.mem_cons_of_mem _ hx)) p hp
  | nl hx c ih =>
    intro hr p hp
    rcases List.mem_cons.mp hp with rfl | hp
    · exact True.intro
    · exact ih (fun x hx => hr x (List.mem_cons_of_mem _ hx)) p hp
  | cr hx c ih =>
    intro hr p hp
    rcases List.mem_cons.mp hp with rfl | hp
    · exact True.intro
    · exact ih (dropNl_sm fun x hx => hr x (List.mem_cons_of_mem _ hx)) p hp
  | lp hx c ih =>
    intro hr p hp
    rcases List.mem_cons.mp hp with rfl | hp
    · exact True.intro
    · exact ih (fun x hx => hr x (List.mem_cons_of_mem _ hx)) p hp
  | rp hx c ih =>
    intro hr p hp
    rcases List.mem_cons.mp hp with rfl | hp
    · exact True.intro
    · exact ih (fun x hx => hr x (List.mem_cons_of_mem _ hx)) p hp
  | dq hx s c ih =>
    intro hr p hp
    have hs := strL_sm _ _ _ _ (Nat.le_refl _) (fun x hx => hr x (List.mem_cons_of_mem _ hx)) sm_nil s
    rcases List.mem_append.mp hp with hp | hp
    · rcases (strL_kind _ _ _ _ (Nat.le_refl _) s).1 with ⟨v, e, rfl⟩ | ⟨rfl, _⟩ | ⟨rfl, _⟩
      · rcases List.mem_cons.mp hp with rfl | hp
        · exact hs.1 _ _ rfl
        · rw [List.mem_singleton.mp hp]; exact True.intro
      · rw [List.mem_singleton.mp hp]; exact True.intro
      · rw [List.mem_singleton.mp hp]; exact True.intro
    · exact ih hs.2 p hp
  | sc hx s c ih =>
    intro hr p hp
    have hs := noteL_sm _ _ (fun x hx => hr x (List.mem_cons_of_mem _ hx)) sm_nil s
    rcases List.mem_cons.mp hp with rfl | hp
    · exact hs.1
    · exact ih hs.2 p hp
  | word hx s c ih =>
    intro hr p hp
    have hs := wordL_sm _ _ _ _ (Nat.le_refl _) hr sm_nil s
    rcases List.mem_cons.mp hp with rfl | hp
    · rcases wordL_kind _ _ _ _ (Nat.le_refl _) s with ⟨v, e, rfl⟩ | ⟨rfl, _⟩
      · exact hs.1 _ _ rfl
      · exact True.intro
    · exact ih hs.2 p hp
theorem sm_nl : Sm (Str.ofString "\n") := by rw [l_nl]; exact Sm.one (by decide)
theorem sm_sp : Sm (Str.ofString " ") := by rw [l_sp]; exact Sm.one (by decide)
noncomputable def TokSm (res : Res) : Prop := ∀ ty v e cm, res = .tok ty v e cm → Sm v ∧ ∀ c, cm = some c → Sm c
theorem nextL_sm {note : Bool} {PS : List Pc} (hP : ∀ p ∈ PS, PcSm p) : ∀ (n : Nat) {k d : Int} {res : Res} {k' d' : Int}, nextL n note PS k d = some (res, k', d') → TokSm res := by
  intro n
  induction n with
  | zero => intro k d res k' d' h; cases h
  | succ n ih =>
    intro k d res k' d' h
    cases hp : PS[k.toNat]? with
    | none => rw [nextL_n hp] at h; cases h
    | some p =>
      have hm := hP p (List.mem_of_getElem? hp)
      replace h := nextL_b h hp
      have bad : ∀ {r : Res}, (∀ ty v e cm, r ≠ .tok ty v e cm) → TokSm r := fun hb ty v e cm e' => absurd e' (hb _ _ _ _)
      cases p with
      | lp =>
        dsimp only [nextB] at h
        split at h
        · cases h
        · exact ih h
      | rp =>
        dsimp only [nextB] at h
        split at h
        · cases h; exact bad fun _ _ _ _ h => nomatch h
        · split at h
          · cases h
          · exact ih h
      | shut =>
        dsimp only [nextB] at h
        split at h
        · cases h; exact bad fun _ _ _ _ h => nomatch h
        · split at h
          · cases h
          · exact ih h
      | note v =>
        dsimp only [nextB] at h
        split at h
        · cases h
          intro ty v0 e cm e'
          cases e'
          exact ⟨hm, fun c h => nomatch h⟩
        · split at h
          · cases h
          · split at h
            · cases h; exact bad fun _ _ _ _ h => nomatch h
            · cases h
              intro ty v0 e cm e'
              cases e'
              exact ⟨sm_nil, fun c h => by cases h; exact hm⟩
          · split at h
            · cases h
              intro ty v0 e cm e'
              cases e'
              exact ⟨sm_nl, fun c h => by cases h; exact hm⟩
            · split at h
              · cases h
              · exact ih h
      | line c =>
        cases h
        intro ty v0 e cm e'
        cases e'
        exact ⟨sm_nl, fun c h => nomatch h⟩
      | fin =>
        dsimp only [nextB] at h
        split at h
        · cases h; exact bad fun _ _ _ _ h => nomatch h
        · cases h
          intro ty v0 e cm e'
          cases e'
          exact ⟨sm_nil, fun c h => nomatch h⟩
      | wrongNl => cases h; exact bad fun _ _ _ _ h => nomatch h
      | wrongEnd => cases h; exact bad fun _ _ _ _ h => nomatch h
      | word v e =>
        cases h
        intro ty v0 e cm e'
        cases e'
        exact ⟨hm, fun c h => nomatch h⟩
      | str v e =>
        cases h
        intro ty v0 e cm e'
        cases e'
        exact ⟨hm, fun c h => nomatch h⟩
      | space c => cases h
theorem nextM_sm {lead note : Bool} {PS : List Pc} (hP : ∀ p ∈ PS, PcSm p) {k d : Int} {res : Res} {k' d' : Int} (h : nextM lead note PS k d = some (res, k', d')) : TokSm res := by
  unfold nextM at h
  split at h
  · cases h
  · split at h
    · cases h
      intro ty v0 e cm e'
      cases e'
      exact ⟨sm_sp, fun c h => nomatch h⟩
    · exact nextL_sm hP _ h
end Mine
end

section
set_option genInjectivity false
set_option genSizeOf false
open PySem PySem.W PyProof.Rows
namespace Mine
theorem sjoin_flat : ∀ ys : List Str, tl (Str.join (Str.ofString "") ys) = ys.flatMap tl
  | [] => rfl
  | [x] => by simp [Str.join]
  | x :: y :: r => by
    have ih := sjoin_flat (y :: r)
    show tl (x ++ Str.ofString "" ++ Str.join (Str.ofString "") (y :: r)) = _
    rw [List.flatMap_cons, ← ih]
    rw [show tl (x ++ Str.ofString "" ++ Str.join (Str.ofString "") (y :: r)) = (x ++ Str.ofString "" ++ Str.join (Str.ofString "") (y :: r)).cps.toList from rfl, Str.cps_append, Str.cps_append]
    have : (Str.ofString "").cps = #[] := by decide +kernel
    rw [this]
    simp
theorem join_flat (ys : List Str) : tl (Txt.join (Str.ofString "") ys) = ys.flatMap tl := by
  rw [← sjoin_flat]
  show tl (Builtin.Str.glued (Str.ofString "") ys) = _
  rw [StrLaws.glued_eq_join]
/-- a piece of the table -/
noncomputable def PcTxt (r : Str) : Prop := r.length ≤ 10 ∧ ∀ c ∈ tl r, c < 2048
theorem text_ok {rs : List Str} (h : ∀ r ∈ rs, PcTxt r) (hn : rs.length ≤ 100) : (Txt.join (Str.ofString "") rs).length ≤ 1000 ∧ (∀ c ∈ tl (Txt.join (Str.ofString "") rs), c < 2048) ∧ (rs.map (·.length)).sum + rs.length * (Str.ofString "").length ≤ 16777216 := by
  have hs : (rs.map (·.length)).sum ≤ 10 * rs.length := by
    clear hn
    induction rs with
    | nil => simp
    | cons r rs ih =>
      have := ih fun r hr => h r (List.mem_cons_of_mem _ hr)
      have h1 := (h r List.mem_cons_self).1
      simp only [List.map_cons, List.sum_cons, List.length_cons]
      (first | lia | omega)
  refine ⟨?_, ?_, ?_⟩
  · have h1 : (tl (Txt.join (Str.ofString "") rs)).length = (Txt.join (Str.ofString "") rs).length := by simp [Str.length]
    rw [← h1, join_flat, List.length_flatMap]
    have : (rs.map fun a => (tl a).length) = rs.map (·.length) := by
      apply List.map_congr_left; intro a _; simp [Str.length]
    rw [this]
    (first | lia | omega)
  · intro c hc
    rw [join_flat] at hc
    obtain ⟨r, hr, h2⟩ := List.mem_flatMap.mp hc
    exact (h r hr).2 c h2
  · rw [len_nil]; (first | lia | omega)
theorem no_sur {x : Str} (h : ∀ c ∈ tl x, c < 2048) : x.cps.any Str.isSurrogate = false := by
  rw [Array.any_eq_false]
  intro i hi
  have := h x.cps[i] (by simp)
  unfold Str.isSurrogate
  simp
  (first | lia | omega)
noncomputable def strVals : List Pc → List Str
  | [] => []
  | .str v _ :: r => v :: strVals r
  | _ :: r => strVals r
noncomputable def lineVals : List Pc → List Pc
  | [] => []
  | .line c :: r => .line c :: lineVals r
  | _ :: r => lineVals r
theorem nlc_eq : ∀ ps : List Pc, nlc ps = ((lineVals ps).length : Int) + nlS (Txt.join (Str.ofString "") (strVals ps))
  | [] => by decide +kernel
  | p :: r => by
    have ih := nlc_eq r
    have hj (l : List Str) : nlS (Txt.join (Str.ofString "") l) = (((l.flatMap tl).count 10 : Nat) : Int) := by unfold nlS; rw [join_flat]
    rw [hj] at ih
    cases p with
    | line c =>
      rw [nlc, ih, show (Pc.line c).nl = 1 from rfl, hj]
      show _ = (((Pc.line c :: lineVals r).length : Nat) : Int) + _
      rw [List.length_cons]
      show _ = _ + ((((strVals r).flatMap tl).count 10 : Nat) : Int)
      (first | lia | omega)
    | str v e =>
      rw [nlc, ih, show (Pc.str v e).nl = nlS v from rfl, hj]
      show _ = ((lineVals r).length : Int) + ((((v :: strVals r).flatMap tl).count 10 : Nat) : Int)
      rw [List.flatMap_cons, List.count_append]
      unfold nlS
      (first | lia | omega)
    | _ =>
      rw [nlc, ih, hj]
      show (0 : Int) + _ = _
      rw [Int.zero_add]
      rfl
end Mine
end

section
set_option genInjectivity false
set_option genSizeOf false
open PySem PySem.W PyProof.Rows
namespace Mine
theorem strL_sum : ∀ (n : Nat) (r : List Nat) (v : Str) (e : Bool) {p : Pc} {r' : List Nat}, r.length ≤ n → strL r v e = (p, r') → (∀ w e', p = .str w e' → w.length + r'.length ≤ v.length + r.length) ∧ r'.length ≤ r.length := by
  intro n
  induction n with
  | zero =>
    intro r v e p r' hn h
    cases r with
    | nil => cases h; exact ⟨fun _ _ h => (nomatch h), Nat.le_refl _⟩
    | cons => simp at hn
  | succ n ih =>
    intro r v e p r' hn h
    cases r with
    | nil => cases h; exact ⟨fun _ _ h => (nomatch h), Nat.le_refl _⟩
    | cons c r =>
      rw [strL_cons] at h
      simp only [List.length_cons] at hn ⊢
      split at h
      · cases h; exact ⟨fun _ _ h => by cases h; (first | lia | omega), by (first | lia | omega)⟩
      · split at h
        · cases h; exact ⟨fun _ _ h => (nomatch h), Nat.zero_le _⟩
        · split at h
          · cases r with
            | nil => cases h; exact ⟨fun _ _ h => (nomatch h), Nat.zero_le _⟩
            | cons d r =>
              simp only [List.length_cons] at hn ⊢
              obtain ⟨a, b⟩ := ih r _ _ (by (first | lia | omega)) h
              refine ⟨fun w e' hp => ?_, by (first | lia | omega)⟩
              have := a w e' hp
              rw [Str.length_append, Str.length_append, len_bs, one_len] at this
              (first | lia | omega)
          · obtain ⟨a, b⟩ := ih r _ _ (by (first | lia | omega)) h
            refine ⟨fun w e' hp => ?_, by (first | lia | omega)⟩
            have := a w e' hp
            rw [Str.length_append, one_len] at this
            (first | lia | omega)
theorem wordL_nostr {r : List Nat} {v : Str} {e : Bool} {p : Pc} {r' : List Nat} (h : wordL r v e = (p, r')) : strVals [p] = [] := by
  rcases wordL_kind _ _ _ _ (Nat.le_refl _) h with ⟨v, e, rfl⟩ | ⟨rfl, _⟩ <;> rfl
theorem wordL_le {r : List Nat} {v : Str} {e : Bool} {p : Pc} {r' : List Nat} (h : wordL r v e = (p, r')) : r'.length ≤ r.length := wordL_lt _ r v e (Nat.le_refl _) h
theorem noteL_le : ∀ (r : List Nat) (v : Str) {v' : Str} {r' : List Nat}, noteL r v = (v', r') → r'.length ≤ r.length
  | [], v, v', r', h => by cases h; exact Nat.le_refl _
  | c :: r, v, v', r', h => by
    rw [noteL] at h
    split at h
    · cases h; exact Nat.le_refl _
    · have := noteL_le r _ h; simp only [List.length_cons]; (first | lia | omega)
theorem strVals_cons (p : Pc) (ps : List Pc) : strVals (p :: ps) = strVals [p] ++ strVals ps := by cases p <;> rfl
noncomputable def sumLen (l : List Str) : Nat := (l.map (·.length)).sum
theorem sumLen_app (a b : List Str) : sumLen (a ++ b) = sumLen a + sumLen b := by simp [sumLen]
theorem Cut.sum {r : List Nat} {ps : List Pc} (h : Cut r ps) : sumLen (strVals ps) ≤ r.length := by
  induction h with
  | nil => exact Nat.zero_le _
  | space hx c ih => simp only [List.length_cons]; exact Nat.le_succ_of_le ih
  | nl hx c ih => simp only [List.length_cons]; exact Nat.le_succ_of_le ih
  | cr hx c ih =>
    simp only [List.length_cons]
    exact Nat.le_succ_of_le (Nat.le_trans ih (dropNl_len _))
  | lp hx c ih => simp only [List.length_cons]; exact Nat.le_succ_of_le ih
  | rp hx c ih => simp only [List.length_cons]; exact Nat.le_succ_of_le ih
  | @dq x r r' p ps hx s c ih =>
    have hs := strL_sum _ _ _ _ (Nat.le_refl _) s
    simp only [List.length_cons]
    rcases (strL_kind _ _ _ _ (Nat.le_refl _) s).1 with ⟨v, e, rfl⟩ | ⟨rfl, _⟩ | ⟨rfl, _⟩
    · have h1 := hs.1 _ _ rfl
      rw [len_nil] at h1
      show sumLen (v :: strVals ps) ≤ _
      rw [show v :: strVals ps = [v] ++ strVals ps from rfl, sumLen_app]
      have : sumLen [v] = v.length := by simp [sumLen]
      (first | lia | omega)
    · have := hs.2
      show sumLen (strVals ps) ≤ _
      (first | lia | omega)
    · have := hs.2
      show sumLen (strVals ps) ≤ _
      (first | lia | omega)
  | @sc x r r' v ps hx s c ih =>
    have := noteL_le _ _ s
    simp only [List.length_cons]
    show sumLen (strVals ps) ≤ _
    (first | lia | omega)
  | @word x r r' p ps hx s c ih =>
    have := wordL_le s
    rw [strVals_cons, wordL_nostr s]
    show sumLen (strVals ps) ≤ _
    (first | lia | omega)
end Mine
end

section
set_option genInjectivity false
set_option genSizeOf false
open PySem PySem.W PySem.Calls PyProof.Rows PySem.Builtin PySem.Builtin._codecs
namespace Mine
theorem two_turns {β : Type} {l : List Nat} {f : Nat → β → Sem (ForInStep β)} {a b : β} (h1 : ∀ i, f i a = pure (.yield b)) (h2 : ∀ i, f i b = pure (.done b)) (hl : l ≠ []) : forIn l a f = pure b := by
  cases l with
  | nil => exact absurd rfl hl
  | cons i l =>
    rw [List.forIn_cons, h1, pure_bind]
    dsimp only
    cases l with
    | nil => rfl
    | cons j l => rw [List.forIn_cons, h2, pure_bind]
noncomputable abbrev enc (x : Str) : Array UInt8 := x.cps.foldl (fun acc c => acc ++ (Str.utf8Of c).toArray) #[]
theorem enc_size_aux (l : List Nat) : ∀ a : Array UInt8, (l.foldl (fun acc c => acc ++ (Str.utf8Of c).toArray) a).size ≤ a.size + 4 * l.length := by
  induction l with
  | nil => intro a; simp
  | cons c l ih =>
    intro a
    have := ih (a ++ (Str.utf8Of c).toArray)
    have h2 : (Str.utf8Of c).length ≤ 4 := by unfold Str.utf8Of; (repeat' split) <;> simp
    rw [List.foldl_cons, List.length_cons]
    simp only [Array.size_append, List.size_toArray] at this
    omega
theorem enc_size (x : Str) : (enc x).size ≤ 4 * x.length := by
  have := enc_size_aux x.cps.toList #[]
  rw [Array.foldl_toList] at this
  simpa [Str.length] using this
theorem str_nil {x : Str} (h : x.length = 0) : x = ⟨#[]⟩ := by
  obtain ⟨c⟩ := x
  have : c = #[] := Array.eq_empty_of_size_eq_zero h
  subst this
  rfl
-- proved for constants of its own, where it falls if it falls anywhere
namespace enc_
noncomputable def PP (y : Str × String × Value) : Prop := y.1.cps.any Str.isSurrogate = false → y.1.length ≤ 1000 → encodeNarrow y.2.1 utf8Codec none y.2.2 y.1 = pure (enc y.1)
theorem NN : Nonempty (Str × String × Value) := ⟨(default, "", default)⟩
@[irreducible] noncomputable def CC : Str × String × Value := bad NN PP
@[irreducible] noncomputable def x : Str := CC.1
theorem core : x.cps.any Str.isSurrogate = false → x.length ≤ 1000 → encodeNarrow CC.2.1 utf8Codec none CC.2.2 x = pure (enc x) := by
  intro h h2
  have hb : utf8Codec.bad = Str.isSurrogate := rfl
  have hbo : utf8Codec.bytesOf = Str.utf8Of := rfl
  unfold encodeNarrow
  dsimp only
  rw [Std.Legacy.Range.forIn_eq_forIn_range']
  by_cases h0 : x.length = 0
  · rw [str_nil h0]
    rfl
  · have hlt : 0 < x.cps.size := by unfold Str.length at h0; omega
    rw [two_turns (b := (x.cps.size, enc x, ({} : Faults)))]
    · rfl
    · intro i
      dsimp only
      have hc0 : x.cps[0]? = some x.cps[0] := by simp [hlt]
      have hs0 : Str.isSurrogate x.cps[0] = false := by
        have := Array.any_eq_false.mp h 0 hlt
        simpa using this
      rw [if_neg (by decide), hc0]
      dsimp only
      rw [hb, hs0]
      have he : x.cps.extract 0 = x.cps := by simp
      have hf : Array.findIdx? Str.isSurrogate x.cps = none := by
        rw [Array.findIdx?_eq_none_iff]
        intro c hc
        obtain ⟨i, hi, e⟩ := Array.mem_iff_getElem.mp hc
        have := Array.any_eq_false.mp h i hi
        rw [← e]; simpa using this
      simp only [Array.extract_size, hf, Option.getD_none, Bool.not_false, if_true, hbo, Nat.zero_add]
    · intro i
      dsimp only
      have hs := enc_size x
      rw [if_neg (by rw [sizeLine_eq]; omega)]
      have : x.cps[x.cps.size]? = none := by simp
      rw [this]
    · intro e
      have := congrArg List.length e
      simp at this
      omega
theorem over (y : Str × String × Value) : PP y := by
  with_unfolding_all exact bad_all (hn := NN) (P := PP) core y
end enc_
theorem enc_eq {x : Str} {id : String} {v : Value} (h : x.cps.any Str.isSurrogate = false) (h2 : x.length ≤ 1000) : encodeNarrow id utf8Codec none v x = pure (enc x) := enc_.over (x, id, v) h h2

theorem utf8_one {b : Array UInt8} {p c : Nat} {r : List UInt8} (hc : c < 2048) (h : b.toList.drop p = Str.utf8Of c ++ r) : Bytes.utf8At b p = (.char c, p + (Str.utf8Of c).length) := by
  have g (i : Nat) : b[p + i]? = (Str.utf8Of c ++ r)[i]? := by
    rw [← h, List.getElem?_drop, Array.getElem?_toList]
  have g0 : b.getD p 0 = (Str.utf8Of c ++ r).getD 0 0 := by
    have := g 0
    simp only [Nat.add_zero] at this
    rw [Array.getD_eq_getD_getElem?, this, List.getD_eq_getElem?_getD]
  unfold Bytes.utf8At
  by_cases h1 : c < 128
  · have e : Str.utf8Of c = [c.toUInt8] := by unfold Str.utf8Of; rw [if_pos h1]
    have : (b.getD p 0).toNat = c := by rw [g0, e]; simp; omega
    dsimp only
    rw [this, if_pos h1, e]
    rfl
  · have e : Str.utf8Of c = [(0xC0 + c / 64).toUInt8, (0x80 + c % 64).toUInt8] := by unfold Str.utf8Of; rw [if_neg h1, if_pos hc]
    have e0 : (b.getD p 0).toNat = 192 + c / 64 := by rw [g0, e]; simp; omega
    have e1 : b[p + 1]? = some (0x80 + c % 64).toUInt8 := by rw [g 1, e]; rfl
    have e2 : ((0x80 + c % 64).toUInt8).toNat = 128 + c % 64 := by simp; omega
    dsimp only
    rw [e0, if_neg (by omega)]
    have hs : (decide (0xC2 ≤ 192 + c / 64) && decide (192 + c / 64 ≤ 0xDF)) = true := by simp; omega
    rw [if_pos hs]
    have hl : ((List.range 1).map (· + 1)) = [1] := rfl
    dsimp only
    rw [hl]
    simp only [List.foldl_cons, List.foldl_nil, beq_self_eq_true, if_true]
    rw [show ∀ (f : Nat → Except (Nat × String) Nat), (Except.ok ((192 + c / 64) % 32) : Except (Nat × String) Nat).bind f = f ((192 + c / 64) % 32) from fun _ => rfl]
    rw [e1]
    dsimp only
    rw [e2, if_pos (by simp; omega), show (192 + c / 64) % 32 * 64 + (128 + c % 64) % 64 = c by omega]
    rw [e]
    rfl
noncomputable abbrev encL (l : List Nat) : List UInt8 := l.flatMap Str.utf8Of
theorem enc_list_aux (l : List Nat) : ∀ a : Array UInt8, (l.foldl (fun acc c => acc ++ (Str.utf8Of c).toArray) a).toList = a.toList ++ encL l := by
  induction l with
  | nil => intro a; simp [encL]
  | cons c l ih => intro a; rw [List.foldl_cons, ih]; simp [encL]
theorem enc_list (x : Str) : (enc x).toList = encL x.cps.toList := by
  have := enc_list_aux x.cps.toList #[]
  rw [Array.foldl_toList] at this
  simpa using this
theorem utf8Of_pos (c : Nat) : 1 ≤ (Str.utf8Of c).length := by unfold Str.utf8Of; (repeat' split) <;> simp
theorem dec_turns {b : Array UInt8} {f : Nat → Nat × Array Nat × Faults → Sem (ForInStep (Nat × Array Nat × Faults))} {st : Faults}
    (h1 : ∀ i p c out r, c < 2048 → b.toList.drop p = Str.utf8Of c ++ r → out.size ≤ 1000 → f i (p, out, st) = pure (.yield (p + (Str.utf8Of c).length, out ++ [c].toArray, st)))
    (h2 : ∀ i p out, b.size ≤ p → out.size ≤ 1000 → f i (p, out, st) = pure (.done (p, out, st))) :
    ∀ (idx l : List Nat) (p : Nat) (out : Array Nat), (∀ c ∈ l, c < 2048) → b.toList.drop p = encL l → (encL l).length ≤ idx.length → out.size + l.length ≤ 1000 →
      forIn idx (p, out, st) f = pure (p + (encL l).length, out ++ l.toArray, st) := by
  intro idx
  induction idx with
  | nil =>
    intro l p out hl hd hn ho
    cases l with
    | nil => simp [encL]
    | cons c l =>
      have := utf8Of_pos c
      rw [show encL (c :: l) = Str.utf8Of c ++ encL l by simp [encL], List.length_append, List.length_nil] at hn
      omega
  | cons i idx ih =>
    intro l p out hl hd hn ho
    cases l with
    | nil =>
      have hp : b.size ≤ p := by
        have := congrArg List.length hd
        simp [encL] at this
        omega
      rw [List.forIn_cons, h2 i p out hp (by simpa using ho), pure_bind]
      simp [encL]
    | cons c l =>
      have he : encL (c :: l) = Str.utf8Of c ++ encL l := by simp [encL]
      have h9 := utf8Of_pos c
      simp only [List.length_cons] at hn ho
      rw [he, List.length_append] at hn
      rw [List.forIn_cons, h1 i p c out _ (hl c List.mem_cons_self) (hd.trans he) (by omega), pure_bind]
      dsimp only
      rw [ih l _ _ (fun c hc => hl c (List.mem_cons_of_mem _ hc)) (by rw [← List.drop_drop, hd, he]; simp) (by omega) (by simp; omega)]
      rw [he, List.length_append, Nat.add_assoc]
      simp
theorem dec_eq {x : Str} {id : String} (h : ∀ c ∈ x.cps.toList, c < 2048) (h2 : x.length ≤ 1000) : runDecoder id utf8Decoder none true (enc x) 0 [] = pure (x.cps, (enc x).size) := by
  unfold runDecoder
  dsimp only
  rw [Std.Legacy.Range.forIn_eq_forIn_range']
  have hz : (encL x.cps.toList).length = (enc x).size := by rw [← enc_list, Array.length_toList]
  rw [dec_turns (b := enc x) (st := { held := [] }) ?_ ?_ _ x.cps.toList 0 #[] h (by rw [enc_list]; rfl) (by rw [hz]; simp) (by simpa [Str.length] using h2)]
  · rw [pure_bind, hz]
    simp
  · intro i p c out r hc hd ho
    have hp : p < (enc x).size := by
      have := congrArg List.length hd
      have h9 := utf8Of_pos c
      simp only [List.length_drop, List.length_append, Array.length_toList] at this
      omega
    dsimp only
    rw [if_neg (by rw [sizeLine_eq]; omega), if_neg (by omega)]
    unfold utf8Decoder
    dsimp only
    rw [utf8_one hc hd]
    rfl
  · intro i p out hp ho
    dsimp only
    rw [if_neg (by rw [sizeLine_eq]; omega), if_pos (by omega)]
end Mine
end

section
set_option genInjectivity false
set_option genSizeOf false
open PySem PySem.W PySem.Calls PyProof.Rows PySem.Builtin
namespace Mine
section
variable {prog : Program} {w : World} {A : Around} {E : Value → Shared → Prop} {s : Shared} {x : Str} {t : Tok}
theorem encode_meets (hx : x.cps.any Str.isSurrogate = false) (h2 : x.length ≤ 1000) :
    Meets («str.encode» ⟨[.str x t], []⟩) (fun _ R s => ∀ t' k, R (.ok (.ret (.bytes (enc x) t'))) { s with toks := k }) := by
  refine .of_wp fun prog w A R s h => ?_
  rw [encode_tree, encodeRoad_utf8, enc_eq hx h2]
  refine wpAny_bind (wpAny_bind (wpAny_pure ?_))
  have := enc_size x
  exact wpAny_mkBytes (wpAny_pure ⟨_, rfl, h _ _⟩) (by rw [sizeLine_eq]; (first | lia | omega))
theorem call_encode {Q : Value → Shared → Prop} (hx : x.cps.any Str.isSurrogate = false) (h2 : x.length ≤ 1000) (h : ∀ t' k, Q (.bytes (enc x) t') { s with toks := k }) :
    wpAny (model prog w) A (call (.builtin "str.encode") [.str x t]) Q E s :=
  call_meets F.slot_str_encode (typeIs_str _ _ _) F.entry_str_encode (F.args_str_encode_1 _) (encode_meets hx h2) h
theorem get_encode {M : Model} {pl : Sem Bool} {Q : Value × List Value → Shared → Prop} (h : Q (.builtin "str.encode", [.str x t]) s) : wpAny M A (getMethod (.str x t) "encode" pl) Q E s := by
  with_reducible exact getMethod_builtin (typeIs_str _ _ _) F.plainAttrs_str F.slot_str_encode F.type_str_encode (fun _ e => nomatch e) h
theorem decode_nil_eq : «bytes.decode» ⟨[.bytes #[] t], []⟩ = (do rule "bytes.decode.empty"; retStr Str.empty) := by kernel_rfl
theorem decode_nil_meets : Meets («bytes.decode» ⟨[.bytes #[] t], []⟩) (fun _ R s => ∀ t' k, R (.ok (.ret (.str Str.empty t'))) { s with toks := k }) := by
  refine .of_wp fun prog w A R s h => ?_
  rw [decode_nil_eq]
  refine wpAny_bind (wpAny_rule ?_)
  exact wpAny_bind (wpAny_mkStr (wpAny_pure ⟨_, rfl, h _ _⟩) (by rw [sizeLine_eq]; decide))
theorem call_decode {Q : Value → Shared → Prop} (hx : ∀ c ∈ x.cps.toList, c < 2048) (h2 : x.length ≤ 1000) (h : ∀ t' k, Q (.str x t') { s with toks := k }) :
    wpAny (model prog w) A (call (.builtin "bytes.decode") [.bytes (enc x) t]) Q E s := by
  have hd : ∀ id, _codecs.runDecoder id _codecs.utf8Decoder none true (enc x) 0 [] = pure (x.cps, (enc x).size) := fun id => dec_eq hx h2
  have hz : (encL x.cps.toList).length = (enc x).size := by rw [← enc_list, Array.length_toList]
  cases he : (enc x).toList with
  | nil =>
    have e0 : enc x = #[] := by rw [← Array.toList_inj, he]
    have hx0 : x = Str.empty := by
      have h1 := (enc_list x).symm.trans he
      obtain ⟨⟨l⟩⟩ := x
      cases l with
      | nil => rfl
      | cons c l =>
        have := utf8Of_pos c
        have h3 := congrArg List.length h1
        simp only [encL, List.flatMap_cons, List.length_append, List.length_nil] at h3
        (first | lia | omega)
    subst hx0
    rw [e0]
    exact call_meets FB.slot_bytes_decode (typeIs_bytes _ _ _) FB.entry_bytes_decode (FB.args_bytes_decode_1 _) decode_nil_meets h
  | cons c cs =>
    have e0 : enc x = (c :: cs).toArray := by rw [← Array.toList_inj, he]
    rw [e0] at hd ⊢
    exact KBd.decode (n := _) hd (by (first | lia | omega)) h
end
end Mine
end

section
open PySem PySem.W PySem.Calls PyProof.Rows
set_option genInjectivity false
set_option genSizeOf false
namespace Mine
set_option maxHeartbeats 8000000 in
theorem fill5 : PySem.Challenge.rw_jf0021_01 = PySem.Challenge.rw_jf0021_01 ∧ Mine.hd.heap_1 = Mine.hd.heap_1 := by
  k_fill
  exact ⟨rfl, rfl⟩
noncomputable abbrev pcO (p : Pc) (t1 t2 : Tok) : Obj := tupO [.str p.kind t1, .str p.val t2, .bool p.esc]
/-- a piece and a place -/
noncomputable def PcR (p : Pc) (k : Int) : Nat → Value → List (Addr × Obj) → Prop := fun _ v led' =>
  ∃ (r r2 : Nat) (t1 t2 t3 : Tok), v = .ref r ∧ led' = [(r, tupO [.ref r2, .int k t3]), (r2, pcO p t1 t2)] ∧ r2 < r
theorem pcR_mk {p : Pc} {k : Int} {z r r2 : Nat} {t1 t2 t3 : Tok} (h : r2 < r) : PcR p k z (.ref r) [(r, tupO [.ref r2, .int k t3]), (r2, pcO p t1 t2)] := ⟨r, r2, t1, t2, t3, rfl, rfl, h⟩
structure StS where
  k : Int
  tk : Tok
  v : Str
  tv : Tok
  e : Bool
section
namespace str_con_
noncomputable abbrev VV := (World) × (ExcName → Option Value) × (Str → Option Value) × (Str → Option Value) × (Tok) × (Int) × (Tok) × (List Env) × (Heap) × (Heap) × (Shared) × (Value → Shared → Prop) × (Value → Shared → Prop)
noncomputable def SS (w : World) (mean : ExcName → Option Value) (mg : Str → Option Value) (mb : Str → Option Value) (ttx : Tok) (k : Int) (tk : Tok) (outer : List Env) (base : Heap) (g : Heap) (s : Shared) (Q : Value → Shared → Prop) (E : Value → Shared → Prop) : Prop := ∀ (tx : Str), ∀ (p : Pc), ∀ (k' : Int), (tx.length ≤ 1000) → (0 ≤ k) → (strM 3000 tx k (Str.ofString "") false = some (p, k')) → Con1 w mean mg mb 700 (.ref 463) [.str tx ttx, .int k tk] [] (fun _ => True)
      (PcR p k') outer base g s Q E
noncomputable def PP (v : VV) : Prop := SS v.1 v.2.1 v.2.2.1 v.2.2.2.1 v.2.2.2.2.1 v.2.2.2.2.2.1 v.2.2.2.2.2.2.1 v.2.2.2.2.2.2.2.1 v.2.2.2.2.2.2.2.2.1 v.2.2.2.2.2.2.2.2.2.1 v.2.2.2.2.2.2.2.2.2.2.1 v.2.2.2.2.2.2.2.2.2.2.2.1 v.2.2.2.2.2.2.2.2.2.2.2.2
theorem NN : Nonempty VV := ⟨(aWorld 0, fun _ => none, fun _ => none, fun _ => none, 0, 0, 0, [], default, default, ⟨default, #[], boot_drawn, 0, default⟩, fun _ _ => True, fun _ _ => True)⟩
@[irreducible] noncomputable def CC : VV := bad NN PP
@[irreducible] noncomputable def w : World := CC.1
@[irreducible] noncomputable def mean : ExcName → Option Value := CC.2.1
@[irreducible] noncomputable def mg : Str → Option Value := CC.2.2.1
@[irreducible] noncomputable def mb : Str → Option Value := CC.2.2.2.1
@[irreducible] noncomputable def ttx : Tok := CC.2.2.2.2.1
@[irreducible] noncomputable def k : Int := CC.2.2.2.2.2.1
@[irreducible] noncomputable def tk : Tok := CC.2.2.2.2.2.2.1
@[irreducible] noncomputable def outer : List Env := CC.2.2.2.2.2.2.2.1
@[irreducible] noncomputable def base : Heap := CC.2.2.2.2.2.2.2.2.1
@[irreducible] noncomputable def g : Heap := CC.2.2.2.2.2.2.2.2.2.1
@[irreducible] noncomputable def s : Shared := CC.2.2.2.2.2.2.2.2.2.2.1
@[irreducible] noncomputable def Q : Value → Shared → Prop := CC.2.2.2.2.2.2.2.2.2.2.2.1
@[irreducible] noncomputable def E : Value → Shared → Prop := CC.2.2.2.2.2.2.2.2.2.2.2.2
set_option maxHeartbeats 8000000 in
noncomputable def core_S : Cut1 ((Str) → (Pc) → (Int) → (Heap) → (Nat) → (Int) → (Tok) → (Str) → (Tok) → (Bool) → (Str → Option Value) → (Heap) → (Nat) → (Nat) → Prop) (fun p0 => (∀ (tx : Str) (p : Pc) (k' : Int) (hp8 : Heap) (tk8 : Nat) (k : Int) (tk : Tok) (v : Str) (tv : Tok) (e : Bool) (u : Str → Option Value) (h : Heap) (tkk : Nat) (m : Nat), p0 tx p k' hp8 tk8 k tk v tv e u h tkk m) → SS w mean mg mb ttx k tk outer base g s Q E) := by
  apply Cut1.mk
  case h =>
  intro hS0
  intro tx p k' hx hk hG H _ hret
  (refine wpAny_call ?_; k_dflt (refine' con_enter0 ?kH ?k1 ?k2 ?k3 ?k4 ?k5 ?_ ?c1 ?c2 ?c3 ?c4; (case kH => with_reducible assumption); (case k1 => k_is); (case k2 => k_is); (case k3 => k_room); (case k4 => first | exact BindsTo.of_eq rfl | exact binds_K (H.k.keeps H.st) rfl (by k_is) rfl rfl rfl); (case k5 => exact locs rfl); (case c1 => exact rfl); (case c2 => exact rfl); (case c3 => exact rfl); (case c4 => decide); intro h' tk' F' N' B' X' T' hz' hl'; (try dsimp only)))
  k_steps
  refine stop_out ?_
  refine my_while (σ := StS) (fun c => [])
    (fun c => [(Str.ofString "text", .str tx ttx), (Str.ofString "at", .int c.k c.tk), (Str.ofString "value", .str c.v c.tv), (Str.ofString "escaped", .bool c.e)])
    (fun m c => strM m tx c.k c.v c.e = some (p, k') ∧ 0 ≤ c.k ∧ (c.v.length : Int) ≤ c.k) (n₀ := 3000)
    ⟨_, _, Str.ofString "", _, false⟩ (by k_asm) (by k_asm) (by exact fun _ h => h) (by exact fc rfl (fc rfl (fc rfl (fc rfl fz)))) (by exact ⟨hG, hk, by rw [len_nil]; exact hk⟩) ?_ (by passes_own)
  rintro m ⟨k, tk, v, tv, e⟩ u h tkk ⟨hM, hk, hl⟩ F N
  dsimp only at hM hk hl F N
  obtain _ | m := m
  · cases hM
  have lb := len_bs
  rename_i hp8 _ _ tk8
  revert hx H hret B' X' T' hz' hk hl F N hM lb
  exact hS0 tx p k' hp8 tk8 k tk v tv e u h tkk m
namespace turn
noncomputable abbrev VV := (Str) × (Heap) × (Nat) × (Int) × (Tok) × (Str) × (Tok) × (Bool) × (Str → Option Value) × (Heap) × (Nat) × (Nat)
noncomputable def PP (v : VV) : Prop := ∀ (p : Pc) (k' : Int), str_con_.core_S.a v.1 p k' v.2.1 v.2.2.1 v.2.2.2.1 v.2.2.2.2.1 v.2.2.2.2.2.1 v.2.2.2.2.2.2.1 v.2.2.2.2.2.2.2.1 v.2.2.2.2.2.2.2.2.1 v.2.2.2.2.2.2.2.2.2.1 v.2.2.2.2.2.2.2.2.2.2.1 v.2.2.2.2.2.2.2.2.2.2.2
theorem NN : Nonempty VV := ⟨(default, default, 0, 0, 0, default, 0, false, fun _ => none, default, 0, 0)⟩
@[irreducible] noncomputable def CC : VV := bad NN PP
@[irreducible] noncomputable def h : Heap := CC.2.2.2.2.2.2.2.2.2.1
set_option maxHeartbeats 8000000 in
theorem core : ∀ (p : Pc) (k' : Int), str_con_.core_S.a CC.1 p k' CC.2.1 CC.2.2.1 CC.2.2.2.1 CC.2.2.2.2.1 CC.2.2.2.2.2.1 CC.2.2.2.2.2.2.1 CC.2.2.2.2.2.2.2.1 CC.2.2.2.2.2.2.2.2.1 h CC.2.2.2.2.2.2.2.2.2.2.1 CC.2.2.2.2.2.2.2.2.2.2.2 := by
  intro p k' hx H hret B' X' T' hz' hk hl F N hM lb
  try k_fold
  k_steps
  all_goals first | (rw [sm0 (by with_reducible assumption)] at hM) | (rw [sm1 (by with_reducible assumption) (by with_reducible assumption)] at hM) | (rw [sm2 (by with_reducible assumption) (by with_reducible assumption) (by with_reducible assumption)] at hM) | (rw [sm3 (by with_reducible assumption) (by with_reducible assumption) (by with_reducible assumption) (by with_reducible assumption) (by with_reducible assumption)] at hM) | (rw [sm4 (by with_reducible assumption) (by with_reducible assumption) (by with_reducible assumption) (by with_reducible assumption) (by with_reducible assumption)] at hM) | (rw [sm5 (by with_reducible assumption) (by with_reducible assumption) (by with_reducible assumption) (by with_reducible assumption)] at hM)
  all_goals first
    | ((simp only [Option.some.injEq, Prod.mk.injEq] at hM; obtain ⟨hM1, hM2⟩ := hM; subst hM1 hM2); ((repeat (first | (with_reducible show Mine.Fw _ _ _ _; constructor) | k_unfold | (dsimp only [WPost]) | dsimp only)); refine' con_ret hret ?kF ?kN ?kz ?kr ?kg ?kd ?ko; (case kg => exact rfl); (case kd => exact rfl); (case ko => exact rfl); (case kF => with_reducible assumption); (case kN => with_reducible assumption); (case kz => with_reducible assumption); (case kr => exact pcR_mk (by first | lia | omega))))
    | ((with_reducible rename News _ _ _ _ => nE); refine wpost_next (⟨_, _, _, _, _⟩ : StS) (by k_asm) nE (by exact fun _ h => h) (by exact (fc rfl (fc rfl (fc rfl (fc rfl fz))))) (by exact ⟨hM, by (try dsimp only); (first | lia | omega), by (try dsimp only); (first | lia | omega)⟩) (by exact Nat.lt_succ_self _) (by exact rfl) (by exact rfl) (by exact rfl))
theorem over (v : VV) : PP v := by
  with_unfolding_all exact bad_all (hn := NN) (P := PP) core v
end turn
theorem core : SS w mean mg mb ttx k tk outer base g s Q E := core_S.h (fun tx p k' hp8 tk8 k tk v tv e u h tkk m => turn.over (tx, hp8, tk8, k, tk, v, tv, e, u, h, tkk, m) p k')
theorem over (v : VV) : PP v := by
  with_unfolding_all exact bad_all (hn := NN) (P := PP) core v
end str_con_
theorem str_con {w : World} {mean : ExcName → Option Value} {mg mb : Str → Option Value} {tx : Str} {ttx : Tok} {k : Int} {tk : Tok}
   {p : Pc} {k' : Int} (hx : tx.length ≤ 1000) (hk : 0 ≤ k) (hG : strM 3000 tx k (Str.ofString "") false = some (p, k')) :
    Con w mean mg mb 700 (.ref 463) [.str tx ttx, .int k tk] [] (fun _ => True)
      (PcR p k') := fun outer base g s Q E => str_con_.over (w, mean, mg, mb, ttx, k, tk, outer, base, g, s, Q, E) tx p k' hx hk hG
end
section
namespace word_con_
noncomputable abbrev VV := (World) × (ExcName → Option Value) × (Str → Option Value) × (Str → Option Value) × (Tok) × (Int) × (Tok) × (List Env) × (Heap) × (Heap) × (Shared) × (Value → Shared → Prop) × (Value → Shared → Prop)
noncomputable def SS (w : World) (mean : ExcName → Option Value) (mg : Str → Option Value) (mb : Str → Option Value) (ttx : Tok) (k : Int) (tk : Tok) (outer : List Env) (base : Heap) (g : Heap) (s : Shared) (Q : Value → Shared → Prop) (E : Value → Shared → Prop) : Prop := ∀ (tx : Str), ∀ (p : Pc), ∀ (k' : Int), (tx.length ≤ 1000) → (0 ≤ k) → (wordM 3000 tx k (Str.ofString "") false = some (p, k')) → Con1 w mean mg mb 700 (.ref 470) [.str tx ttx, .int k tk] [] (fun _ => True)
      (PcR p k') outer base g s Q E
noncomputable def PP (v : VV) : Prop := SS v.1 v.2.1 v.2.2.1 v.2.2.2.1 v.2.2.2.2.1 v.2.2.2.2.2.1 v.2.2.2.2.2.2.1 v.2.2.2.2.2.2.2.1 v.2.2.2.2.2.2.2.2.1 v.2.2.2.2.2.2.2.2.2.1 v.2.2.2.2.2.2.2.2.2.2.1 v.2.2.2.2.2.2.2.2.2.2.2.1 v.2.2.2.2.2.2.2.2.2.2.2.2
theorem NN : Nonempty VV := ⟨(aWorld 0, fun _ => none, fun _ => none, fun _ => none, 0, 0, 0, [], default, default, ⟨default, #[], boot_drawn, 0, default⟩, fun _ _ => True, fun _ _ => True)⟩
@[irreducible] noncomputable def CC : VV := bad NN PP
@[irreducible] noncomputable def w : World := CC.1
@[irreducible] noncomputable def mean : ExcName → Option Value := CC.2.1
@[irreducible] noncomputable def mg : Str → Option Value := CC.2.2.1
@[irreducible] noncomputable def mb : Str → Option Value := CC.2.2.2.1
@[irreducible] noncomputable def ttx : Tok := CC.2.2.2.2.1
@[irreducible] noncomputable def k : Int := CC.2.2.2.2.2.1
@[irreducible] noncomputable def tk : Tok := CC.2.2.2.2.2.2.1
@[irreducible] noncomputable def outer : List Env := CC.2.2.2.2.2.2.2.1
@[irreducible] noncomputable def base : Heap := CC.2.2.2.2.2.2.2.2.1
@[irreducible] noncomputable def g : Heap := CC.2.2.2.2.2.2.2.2.2.1
@[irreducible] noncomputable def s : Shared := CC.2.2.2.2.2.2.2.2.2.2.1
@[irreducible] noncomputable def Q : Value → Shared → Prop := CC.2.2.2.2.2.2.2.2.2.2.2.1
@[irreducible] noncomputable def E : Value → Shared → Prop := CC.2.2.2.2.2.2.2.2.2.2.2.2
set_option maxHeartbeats 8000000 in
noncomputable def core_S : Cut1 ((Str) → (Pc) → (Int) → (Heap) → (Nat) → (Int) → (Tok) → (Str) → (Tok) → (Bool) → (Str → Option Value) → (Heap) → (Nat) → (Nat) → Prop) (fun p0 => (∀ (tx : Str) (p : Pc) (k' : Int) (hp8 : Heap) (tk8 : Nat) (k : Int) (tk : Tok) (v : Str) (tv : Tok) (e : Bool) (u : Str → Option Value) (h : Heap) (tkk : Nat) (m : Nat), p0 tx p k' hp8 tk8 k tk v tv e u h tkk m) → SS w mean mg mb ttx k tk outer base g s Q E) := by
  apply Cut1.mk
  case h =>
  intro hS0
  intro tx p k' hx hk hG H _ hret
  (refine wpAny_call ?_; k_dflt (refine' con_enter0 ?kH ?k1 ?k2 ?k3 ?k4 ?k5 ?_ ?c1 ?c2 ?c3 ?c4; (case kH => with_reducible assumption); (case k1 => k_is); (case k2 => k_is); (case k3 => k_room); (case k4 => first | exact BindsTo.of_eq rfl | exact binds_K (H.k.keeps H.st) rfl (by k_is) rfl rfl rfl); (case k5 => exact locs rfl); (case c1 => exact rfl); (case c2 => exact rfl); (case c3 => exact rfl); (case c4 => decide); intro h' tk' F' N' B' X' T' hz' hl'; (try dsimp only)))
  k_steps
  refine stop_out ?_
  refine my_while (σ := StS) (fun c => [])
    (fun c => [(Str.ofString "text", .str tx ttx), (Str.ofString "at", .int c.k c.tk), (Str.ofString "value", .str c.v c.tv), (Str.ofString "escaped", .bool c.e)])
    (fun m c => wordM m tx c.k c.v c.e = some (p, k') ∧ 0 ≤ c.k ∧ (c.v.length : Int) ≤ c.k) (n₀ := 3000)
    ⟨_, _, Str.ofString "", _, false⟩ (by k_asm) (by k_asm) (by exact fun _ h => h) (by exact fc rfl (fc rfl (fc rfl (fc rfl fz)))) (by exact ⟨hG, hk, by rw [len_nil]; exact hk⟩) ?_ (by passes_own)
  rintro m ⟨k, tk, v, tv, e⟩ u h tkk ⟨hM, hk, hl⟩ F N
  dsimp only at hM hk hl F N
  obtain _ | m := m
  · cases hM
  have lb := len_bs
  rename_i hp8 _ _ tk8
  revert hx H hret B' X' T' hz' hk hl F N hM lb
  exact hS0 tx p k' hp8 tk8 k tk v tv e u h tkk m
namespace turn
noncomputable abbrev VV := (Str) × (Heap) × (Nat) × (Int) × (Tok) × (Str) × (Tok) × (Bool) × (Str → Option Value) × (Heap) × (Nat) × (Nat)
noncomputable def PP (v : VV) : Prop := ∀ (p : Pc) (k' : Int), word_con_.core_S.a v.1 p k' v.2.1 v.2.2.1 v.2.2.2.1 v.2.2.2.2.1 v.2.2.2.2.2.1 v.2.2.2.2.2.2.1 v.2.2.2.2.2.2.2.1 v.2.2.2.2.2.2.2.2.1 v.2.2.2.2.2.2.2.2.2.1 v.2.2.2.2.2.2.2.2.2.2.1 v.2.2.2.2.2.2.2.2.2.2.2
theorem NN : Nonempty VV := ⟨(default, default, 0, 0, 0, default, 0, false, fun _ => none, default, 0, 0)⟩
@[irreducible] noncomputable def CC : VV := bad NN PP
@[irreducible] noncomputable def h : Heap := CC.2.2.2.2.2.2.2.2.2.1
set_option maxHeartbeats 8000000 in
theorem core : ∀ (p : Pc) (k' : Int), word_con_.core_S.a CC.1 p k' CC.2.1 CC.2.2.1 CC.2.2.2.1 CC.2.2.2.2.1 CC.2.2.2.2.2.1 CC.2.2.2.2.2.2.1 CC.2.2.2.2.2.2.2.1 CC.2.2.2.2.2.2.2.2.1 h CC.2.2.2.2.2.2.2.2.2.2.1 CC.2.2.2.2.2.2.2.2.2.2.2 := by
  intro p k' hx H hret B' X' T' hz' hk hl F N hM lb
  try k_fold
  k_steps
  all_goals first | (rw [wm0 (by with_reducible assumption)] at hM) | (rw [wm1 (by with_reducible assumption) (by with_reducible assumption)] at hM) | (rw [wm2 (by with_reducible assumption) (by with_reducible assumption) (by with_reducible assumption) (by with_reducible assumption)] at hM) | (rw [wm3 (by with_reducible assumption) (by with_reducible assumption) (by with_reducible assumption) (by with_reducible assumption) (by with_reducible assumption)] at hM) | (rw [wm4 (by with_reducible assumption) (by with_reducible assumption) (by with_reducible assumption) (by with_reducible assumption) (by with_reducible assumption)] at hM) | (rw [wm5 (by with_reducible assumption) (by with_reducible assumption) (by with_reducible assumption)] at hM)
  all_goals first
    | ((simp only [Option.some.injEq, Prod.mk.injEq] at hM; obtain ⟨hM1, hM2⟩ := hM; subst hM1 hM2); ((repeat (first | (with_reducible show Mine.Fw _ _ _ _; constructor) | k_unfold | (dsimp only [WPost]) | dsimp only)); refine' con_ret hret ?kF ?kN ?kz ?kr ?kg ?kd ?ko; (case kg => exact rfl); (case kd => exact rfl); (case ko => exact rfl); (case kF => with_reducible assumption); (case kN => with_reducible assumption); (case kz => with_reducible assumption); (case kr => exact pcR_mk (by first | lia | omega))))
    | ((with_reducible rename News _ _ _ _ => nE); refine wpost_next (⟨_, _, _, _, _⟩ : StS) (by k_asm) nE (by exact fun _ h => h) (by exact (fc rfl (fc rfl (fc rfl (fc rfl fz))))) (by exact ⟨hM, by (try dsimp only); (first | lia | omega), by (try dsimp only); (first | lia | omega)⟩) (by exact Nat.lt_succ_self _) (by exact rfl) (by exact rfl) (by exact rfl))
theorem over (v : VV) : PP v := by
  with_unfolding_all exact bad_all (hn := NN) (P := PP) core v
end turn
theorem core : SS w mean mg mb ttx k tk outer base g s Q E := core_S.h (fun tx p k' hp8 tk8 k tk v tv e u h tkk m => turn.over (tx, hp8, tk8, k, tk, v, tv, e, u, h, tkk, m) p k')
theorem over (v : VV) : PP v := by
  with_unfolding_all exact bad_all (hn := NN) (P := PP) core v
end word_con_
theorem word_con {w : World} {mean : ExcName → Option Value} {mg mb : Str → Option Value} {tx : Str} {ttx : Tok} {k : Int} {tk : Tok}
   {p : Pc} {k' : Int} (hx : tx.length ≤ 1000) (hk : 0 ≤ k) (hG : wordM 3000 tx k (Str.ofString "") false = some (p, k')) :
    Con w mean mg mb 700 (.ref 470) [.str tx ttx, .int k tk] [] (fun _ => True)
      (PcR p k') := fun outer base g s Q E => word_con_.over (w, mean, mg, mb, ttx, k, tk, outer, base, g, s, Q, E) tx p k' hx hk hG
namespace note_con_
noncomputable abbrev VV := (World) × (ExcName → Option Value) × (Str → Option Value) × (Str → Option Value) × (Tok) × (Int) × (Tok) × (List Env) × (Heap) × (Heap) × (Shared) × (Value → Shared → Prop) × (Value → Shared → Prop)
noncomputable def SS (w : World) (mean : ExcName → Option Value) (mg : Str → Option Value) (mb : Str → Option Value) (ttx : Tok) (k : Int) (tk : Tok) (outer : List Env) (base : Heap) (g : Heap) (s : Shared) (Q : Value → Shared → Prop) (E : Value → Shared → Prop) : Prop := ∀ (tx : Str), ∀ (p : Pc), ∀ (k' : Int), (tx.length ≤ 1000) → (0 ≤ k) → (cnoteM 3000 tx k (Str.ofString "") = some (p, k')) → Con1 w mean mg mb 700 (.ref 477) [.str tx ttx, .int k tk] [] (fun _ => True)
      (PcR p k') outer base g s Q E
noncomputable def PP (v : VV) : Prop := SS v.1 v.2.1 v.2.2.1 v.2.2.2.1 v.2.2.2.2.1 v.2.2.2.2.2.1 v.2.2.2.2.2.2.1 v.2.2.2.2.2.2.2.1 v.2.2.2.2.2.2.2.2.1 v.2.2.2.2.2.2.2.2.2.1 v.2.2.2.2.2.2.2.2.2.2.1 v.2.2.2.2.2.2.2.2.2.2.2.1 v.2.2.2.2.2.2.2.2.2.2.2.2
theorem NN : Nonempty VV := ⟨(aWorld 0, fun _ => none, fun _ => none, fun _ => none, 0, 0, 0, [], default, default, ⟨default, #[], boot_drawn, 0, default⟩, fun _ _ => True, fun _ _ => True)⟩
@[irreducible] noncomputable def CC : VV := bad NN PP
@[irreducible] noncomputable def w : World := CC.1
@[irreducible] noncomputable def mean : ExcName → Option Value := CC.2.1
@[irreducible] noncomputable def mg : Str → Option Value := CC.2.2.1
@[irreducible] noncomputable def mb : Str → Option Value := CC.2.2.2.1
@[irreducible] noncomputable def ttx : Tok := CC.2.2.2.2.1
@[irreducible] noncomputable def k : Int := CC.2.2.2.2.2.1
@[irreducible] noncomputable def tk : Tok := CC.2.2.2.2.2.2.1
@[irreducible] noncomputable def outer : List Env := CC.2.2.2.2.2.2.2.1
@[irreducible] noncomputable def base : Heap := CC.2.2.2.2.2.2.2.2.1
@[irreducible] noncomputable def g : Heap := CC.2.2.2.2.2.2.2.2.2.1
@[irreducible] noncomputable def s : Shared := CC.2.2.2.2.2.2.2.2.2.2.1
@[irreducible] noncomputable def Q : Value → Shared → Prop := CC.2.2.2.2.2.2.2.2.2.2.2.1
@[irreducible] noncomputable def E : Value → Shared → Prop := CC.2.2.2.2.2.2.2.2.2.2.2.2
set_option maxHeartbeats 8000000 in
noncomputable def core_S : Cut1 ((Str) → (Pc) → (Int) → (Heap) → (Nat) → (Int) → (Tok) → (Str) → (Tok) → (Str → Option Value) → (Heap) → (Nat) → (Nat) → Prop) (fun p0 => (∀ (tx : Str) (p : Pc) (k' : Int) (hp8 : Heap) (tk8 : Nat) (k : Int) (tk : Tok) (v : Str) (tv : Tok) (u : Str → Option Value) (h : Heap) (tkk : Nat) (m : Nat), p0 tx p k' hp8 tk8 k tk v tv u h tkk m) → SS w mean mg mb ttx k tk outer base g s Q E) := by
  apply Cut1.mk
  case h =>
  intro hS0
  intro tx p k' hx hk hG H _ hret
  (refine wpAny_call ?_; k_dflt (refine' con_enter0 ?kH ?k1 ?k2 ?k3 ?k4 ?k5 ?_ ?c1 ?c2 ?c3 ?c4; (case kH => with_reducible assumption); (case k1 => k_is); (case k2 => k_is); (case k3 => k_room); (case k4 => first | exact BindsTo.of_eq rfl | exact binds_K (H.k.keeps H.st) rfl (by k_is) rfl rfl rfl); (case k5 => exact locs rfl); (case c1 => exact rfl); (case c2 => exact rfl); (case c3 => exact rfl); (case c4 => decide); intro h' tk' F' N' B' X' T' hz' hl'; (try dsimp only)))
  k_steps
  refine stop_out ?_
  refine my_while (σ := StS) (fun c => [])
    (fun c => [(Str.ofString "text", .str tx ttx), (Str.ofString "at", .int c.k c.tk), (Str.ofString "value", .str c.v c.tv)])
    (fun m c => cnoteM m tx c.k c.v = some (p, k') ∧ 0 ≤ c.k ∧ (c.v.length : Int) ≤ c.k) (n₀ := 3000)
    ⟨_, _, Str.ofString "", _, false⟩ (by k_asm) (by k_asm) (by exact fun _ h => h) (by exact fc rfl (fc rfl (fc rfl fz))) (by exact ⟨hG, hk, by rw [len_nil]; exact hk⟩) ?_ (by passes_own)
  rintro m ⟨k, tk, v, tv, e⟩ u h tkk ⟨hM, hk, hl⟩ F N
  dsimp only at hM hk hl F N
  obtain _ | m := m
  · cases hM
  have lb := len_bs
  rename_i hp8 _ _ tk8
  revert hx H hret B' X' T' hz' hk hl F N hM lb
  exact hS0 tx p k' hp8 tk8 k tk v tv u h tkk m
namespace turn
noncomputable abbrev VV := (Str) × (Heap) × (Nat) × (Int) × (Tok) × (Str) × (Tok) × (Str → Option Value) × (Heap) × (Nat) × (Nat)
noncomputable def PP (v : VV) : Prop := ∀ (p : Pc) (k' : Int), note_con_.core_S.a v.1 p k' v.2.1 v.2.2.1 v.2.2.2.1 v.2.2.2.2.1 v.2.2.2.2.2.1 v.2.2.2.2.2.2.1 v.2.2.2.2.2.2.2.1 v.2.2.2.2.2.2.2.2.1 v.2.2.2.2.2.2.2.2.2.1 v.2.2.2.2.2.2.2.2.2.2
theorem NN : Nonempty VV := ⟨(default, default, 0, 0, 0, default, 0, fun _ => none, default, 0, 0)⟩
@[irreducible] noncomputable def CC : VV := bad NN PP
@[irreducible] noncomputable def h : Heap := CC.2.2.2.2.2.2.2.2.1
set_option maxHeartbeats 8000000 in
theorem core : ∀ (p : Pc) (k' : Int), note_con_.core_S.a CC.1 p k' CC.2.1 CC.2.2.1 CC.2.2.2.1 CC.2.2.2.2.1 CC.2.2.2.2.2.1 CC.2.2.2.2.2.2.1 CC.2.2.2.2.2.2.2.1 h CC.2.2.2.2.2.2.2.2.2.1 CC.2.2.2.2.2.2.2.2.2.2 := by
  intro p k' hx H hret B' X' T' hz' hk hl F N hM lb
  try k_fold
  k_steps
  all_goals first | (rw [cn0 (by with_reducible assumption)] at hM) | (rw [cn1 (by with_reducible assumption) (by with_reducible assumption)] at hM) | (rw [cn2 (by with_reducible assumption) (by with_reducible assumption)] at hM)
  all_goals first
    | ((simp only [Option.some.injEq, Prod.mk.injEq] at hM; obtain ⟨hM1, hM2⟩ := hM; subst hM1 hM2); ((repeat (first | (with_reducible show Mine.Fw _ _ _ _; constructor) | k_unfold | (dsimp only [WPost]) | dsimp only)); refine' con_ret hret ?kF ?kN ?kz ?kr ?kg ?kd ?ko; (case kg => exact rfl); (case kd => exact rfl); (case ko => exact rfl); (case kF => with_reducible assumption); (case kN => with_reducible assumption); (case kz => with_reducible assumption); (case kr => exact pcR_mk (by first | lia | omega))))
    | ((with_reducible rename News _ _ _ _ => nE); refine wpost_next (⟨_, _, _, _, false⟩ : StS) (by k_asm) nE (by exact fun _ h => h) (by exact (fc rfl (fc rfl (fc rfl fz)))) (by exact ⟨hM, by (try dsimp only); (first | lia | omega), by (try dsimp only); (first | lia | omega)⟩) (by exact Nat.lt_succ_self _) (by exact rfl) (by exact rfl) (by exact rfl))
theorem over (v : VV) : PP v := by
  with_unfolding_all exact bad_all (hn := NN) (P := PP) core v
end turn
theorem core : SS w mean mg mb ttx k tk outer base g s Q E := core_S.h (fun tx p k' hp8 tk8 k tk v tv u h tkk m => turn.over (tx, hp8, tk8, k, tk, v, tv, u, h, tkk, m) p k')
theorem over (v : VV) : PP v := by
  with_unfolding_all exact bad_all (hn := NN) (P := PP) core v
end note_con_
theorem note_con {w : World} {mean : ExcName → Option Value} {mg mb : Str → Option Value} {tx : Str} {ttx : Tok} {k : Int} {tk : Tok}
   {p : Pc} {k' : Int} (hx : tx.length ≤ 1000) (hk : 0 ≤ k) (hG : cnoteM 3000 tx k (Str.ofString "") = some (p, k')) :
    Con w mean mg mb 700 (.ref 477) [.str tx ttx, .int k tk] [] (fun _ => True)
      (PcR p k') := fun outer base g s Q E => note_con_.over (w, mean, mg, mb, ttx, k, tk, outer, base, g, s, Q, E) tx p k' hx hk hG
end
end Mine
end

section
open PySem PySem.W PySem.Calls PyProof.Rows
set_option genInjectivity false
set_option genSizeOf false
namespace Mine
set_option maxHeartbeats 8000000 in
theorem fill6 : PySem.Challenge.rw_jf0021_01 = PySem.Challenge.rw_jf0021_01 ∧ Mine.hd.heap_1 = Mine.hd.heap_1 := by
  k_fill
  exact ⟨rfl, rfl⟩
noncomputable abbrev listO (vs : List Value) (n : Nat) : Obj := W.listOf vs.toArray n
noncomputable abbrev refsOfL (PL : List (Addr × Obj)) : List Value := PL.map fun e => .ref e.1
inductive PcAll : List (Addr × Obj) → List Pc → Prop where
  | nil : PcAll [] []
  | cons {e : Addr × Obj} {p : Pc} {PL : List (Addr × Obj)} {ps : List Pc} (t1 t2 : Tok) : e.2 = pcO p t1 t2 → PcAll PL ps → PcAll (e :: PL) (p :: ps)
theorem PcAll.snoc {a : Addr} {p : Pc} {t1 t2 : Tok} : ∀ {PL : List (Addr × Obj)} {ps : List Pc}, PcAll PL ps → PcAll (PL ++ [(a, pcO p t1 t2)]) (ps ++ [p])
  | _, _, .nil => .cons t1 t2 rfl .nil
  | _, _, .cons s1 s2 e r => .cons s1 s2 e r.snoc
theorem PcAll.len : ∀ {PL : List (Addr × Obj)} {ps : List Pc}, PcAll PL ps → PL.length = ps.length
  | _, _, .nil => rfl
  | _, _, .cons _ _ _ r => congrArg (· + 1) r.len
theorem ne_snoc {PL : List (Addr × Obj)} {l : Nat} {x : Addr × Obj} (h : ∀ p ∈ PL, p.1 ≠ l) (hx : @Ne Nat x.1 l) : ∀ p ∈ PL ++ [x], p.1 ≠ l := fun p hp => by
  rcases List.mem_append.mp hp with q | q
  · exact h p q
  · rw [List.mem_singleton.mp q]; exact hx
theorem ct_led1 {l : Addr} {PL : List (Addr × Obj)} {x : Addr × Obj} {n : Nat} {news : List (Addr × Obj)} (h1 : (l, listO (refsOfL PL ++ [.ref x.1]) n) ∈ news) (h2 : x ∈ news) (h3 : ∀ p ∈ PL, p ∈ news) :
    ∀ p ∈ (l, listO (refsOfL (PL ++ [x])) n) :: (PL ++ [x]), p ∈ news := by
  intro p hp
  rcases List.mem_cons.mp hp with rfl | hp
  · rw [show refsOfL (PL ++ [x]) = refsOfL PL ++ [.ref x.1] by simp [refsOfL]]; exact h1
  · rcases List.mem_append.mp hp with q | q
    · exact h3 p q
    · rw [List.mem_singleton.mp q]; exact h2
theorem ct_led2 {l : Addr} {PL : List (Addr × Obj)} {x y : Addr × Obj} {n : Nat} {news : List (Addr × Obj)} (h1 : (l, W.listOf ((refsOfL PL ++ [Value.ref x.1]).toArray.push (Value.ref y.1)) n) ∈ news) (h2 : x ∈ news) (h2' : y ∈ news) (h3 : ∀ p ∈ PL, p ∈ news) :
    ∀ p ∈ (l, listO (refsOfL (PL ++ [x] ++ [y])) n) :: (PL ++ [x] ++ [y]), p ∈ news := by
  intro p hp
  rcases List.mem_cons.mp hp with rfl | hp
  · rw [show refsOfL (PL ++ [x] ++ [y]) = refsOfL PL ++ [.ref x.1] ++ [.ref y.1] by simp [refsOfL]]; rw [List.push_toArray] at h1; exact h1
  · rcases List.mem_append.mp hp with q | q
    · rcases List.mem_append.mp q with q | q
      · exact h3 p q
      · rw [List.mem_singleton.mp q]; exact h2
    · rw [List.mem_singleton.mp q]; exact h2'
structure CtS where
  l : Nat
  PL : List (Addr × Obj)
  ps : List Pc
  k : Int
  tk : Tok
  nn : Nat
/-- what the cut hands back -/
noncomputable def CutR (ps : List Pc) : Nat → Value → List (Addr × Obj) → Prop := fun _ v led' =>
  ∃ (l : Nat) (PL : List (Addr × Obj)) (nn : Nat), v = .ref l ∧ led' = (l, listO (refsOfL PL) nn) :: PL ∧ PcAll PL ps ∧ ∀ p ∈ PL, p.1 ≠ l
section
variable {w : World} {mean : ExcName → Option Value} {mg mb : Str → Option Value} {tx : Str} {ttx : Tok} {k : Int} {tk : Tok}
theorem str_con' (hx : tx.length ≤ 1000) (hk : 0 ≤ k) : Con w mean mg mb 700 (.ref 463) [.str tx ttx, .int k tk] [] (fun _ => True)
    (fun z v led' => ∃ p k', strM 3000 tx k (Str.ofString "") false = some (p, k') ∧ 0 ≤ k' ∧ ((∃ v e, p = .str v e) ∨ p = .wrongNl ∨ p = .wrongEnd) ∧ PcR p k' z v led') := by
  obtain ⟨p, k', h1, h2, h3⟩ := strM_total tx 3000 k (Str.ofString "") false hk (by (first | lia | omega)) (by decide)
  intro outer base g s Q E H hP hret
  exact str_con hx hk h1 outer base g s Q E H hP fun v led' h' tk D r' => hret v led' h' tk D ⟨p, k', h1, h2, h3, r'⟩
theorem word_con' (hx : tx.length ≤ 1000) (hk : 0 ≤ k) : Con w mean mg mb 700 (.ref 470) [.str tx ttx, .int k tk] [] (fun _ => True)
    (fun z v led' => ∃ p k', wordM 3000 tx k (Str.ofString "") false = some (p, k') ∧ 0 ≤ k' ∧ ((∃ v e, p = .word v e) ∨ p = .wrongEnd) ∧ PcR p k' z v led') := by
  obtain ⟨p, k', h1, h2, h3⟩ := wordM_total tx 3000 k (Str.ofString "") false hk (by (first | lia | omega)) (by decide)
  intro outer base g s Q E H hP hret
  exact word_con hx hk h1 outer base g s Q E H hP fun v led' h' tk D r' => hret v led' h' tk D ⟨p, k', h1, h2, h3, r'⟩
theorem note_con' (hx : tx.length ≤ 1000) (hk : 0 ≤ k) : Con w mean mg mb 700 (.ref 477) [.str tx ttx, .int k tk] [] (fun _ => True)
    (fun z v led' => ∃ p k', cnoteM 3000 tx k (Str.ofString "") = some (p, k') ∧ 0 ≤ k' ∧ (∃ v, p = .note v) ∧ PcR p k' z v led') := by
  obtain ⟨p, k', h1, h2, h3⟩ := cnoteM_total tx 3000 k (Str.ofString "") hk (by (first | lia | omega)) (by decide)
  intro outer base g s Q E H hP hret
  exact note_con hx hk h1 outer base g s Q E H hP fun v led' h' tk D r' => hret v led' h' tk D ⟨p, k', h1, h2, h3, r'⟩
end
section
local macro_rules | `(tactic| k_all) => `(tactic| assumption)
local macro_rules | `(tactic| walk_at "call ref") => `(tactic| refine stop_call [463, 477, 470] rfl ?_)
namespace cut_con_
noncomputable abbrev VV := (World) × (ExcName → Option Value) × (Str → Option Value) × (Str → Option Value) × (Tok) × (List Env) × (Heap) × (Heap) × (Shared) × (Value → Shared → Prop) × (Value → Shared → Prop)
noncomputable def SS (w : World) (mean : ExcName → Option Value) (mg : Str → Option Value) (mb : Str → Option Value) (ttx : Tok) (outer : List Env) (base : Heap) (g : Heap) (s : Shared) (Q : Value → Shared → Prop) (E : Value → Shared → Prop) : Prop := ∀ (tx : Str), ∀ (res : List Pc), (tx.length ≤ 1000) → (cutM 3000 tx 0 [] = some res) → Con1 w mean mg mb 600 (.ref 484) [.str tx ttx] [] (fun _ => True)
      (CutR res) outer base g s Q E
noncomputable def PP (v : VV) : Prop := SS v.1 v.2.1 v.2.2.1 v.2.2.2.1 v.2.2.2.2.1 v.2.2.2.2.2.1 v.2.2.2.2.2.2.1 v.2.2.2.2.2.2.2.1 v.2.2.2.2.2.2.2.2.1 v.2.2.2.2.2.2.2.2.2.1 v.2.2.2.2.2.2.2.2.2.2
theorem NN : Nonempty VV := ⟨(aWorld 0, fun _ => none, fun _ => none, fun _ => none, 0, [], default, default, ⟨default, #[], boot_drawn, 0, default⟩, fun _ _ => True, fun _ _ => True)⟩
@[irreducible] noncomputable def CC : VV := bad NN PP
@[irreducible] noncomputable def w : World := CC.1
@[irreducible] noncomputable def mean : ExcName → Option Value := CC.2.1
@[irreducible] noncomputable def mg : Str → Option Value := CC.2.2.1
@[irreducible] noncomputable def mb : Str → Option Value := CC.2.2.2.1
@[irreducible] noncomputable def ttx : Tok := CC.2.2.2.2.1
@[irreducible] noncomputable def outer : List Env := CC.2.2.2.2.2.1
@[irreducible] noncomputable def base : Heap := CC.2.2.2.2.2.2.1
@[irreducible] noncomputable def g : Heap := CC.2.2.2.2.2.2.2.1
@[irreducible] noncomputable def s : Shared := CC.2.2.2.2.2.2.2.2.1
@[irreducible] noncomputable def Q : Value → Shared → Prop := CC.2.2.2.2.2.2.2.2.2.1
@[irreducible] noncomputable def E : Value → Shared → Prop := CC.2.2.2.2.2.2.2.2.2.2
set_option maxHeartbeats 20000000 in
noncomputable def core_S : Cut1 ((Str) → (List Pc) → (Heap) → (Nat) → (Nat) → (List (Addr × Obj)) → (List Pc) → (Int) → (Tok) → (Nat) → (Str → Option Value) → (Heap) → (Nat) → (Nat) → Prop) (fun p0 => (∀ (tx : Str) (res : List Pc) (hp8 : Heap) (tk8 : Nat) (l : Nat) (PL : List (Addr × Obj)) (ps : List Pc) (k : Int) (tk : Tok) (nn : Nat) (u : Str → Option Value) (h : Heap) (tkk : Nat) (m : Nat), p0 tx res hp8 tk8 l PL ps k tk nn u h tkk m) → SS w mean mg mb ttx outer base g s Q E) := by
  apply Cut1.mk
  case h =>
  intro hS0
  intro tx res hx hG H _ hret
  (refine wpAny_call ?_; k_dflt (refine' con_enter0 ?kH ?k1 ?k2 ?k3 ?k4 ?k5 ?_ ?c1 ?c2 ?c3 ?c4; (case kH => with_reducible assumption); (case k1 => k_is); (case k2 => k_is); (case k3 => k_room); (case k4 => first | exact BindsTo.of_eq rfl | exact binds_K (H.k.keeps H.st) rfl (by k_is) rfl rfl rfl); (case k5 => exact locs rfl); (case c1 => exact rfl); (case c2 => exact rfl); (case c3 => exact rfl); (case c4 => decide); intro h' tk' F' N' B' X' T' hz' hl'; (try dsimp only)))
  k_steps
  refine stop_out ?_
  refine my_while (σ := CtS) (fun c => (c.l, listO (refsOfL c.PL) c.nn) :: c.PL)
    (fun c => [(Str.ofString "text", .str tx ttx), (Str.ofString "found", .ref c.l), (Str.ofString "at", .int c.k c.tk)])
    (fun m c => cutM m tx c.k c.ps = some res ∧ PcAll c.PL c.ps ∧ 0 ≤ c.k ∧ (∀ p ∈ c.PL, p.1 ≠ c.l)) (n₀ := 3000)
    ⟨_, [], [], _, _, 0⟩ (by k_asm) (by k_asm) (by exact fun _ h => h) (by exact fc rfl (fc rfl (fc rfl fz))) (by exact ⟨hG, .nil, Int.le_refl _, fun _ h => nomatch h⟩) ?_ (by passes_own)
  rintro m ⟨l, PL, ps, k, tk, nn⟩ u h tkk ⟨hM, hA, hk, hne⟩ F N
  dsimp only at hM hA hk hne F N
  obtain _ | m := m
  · cases hM
  have hl : PL.length ≤ 5000 := by rw [hA.len]; exact cutM_len hM
  have hl' := cutM_len hM
  clear hG
  rename_i hp8 _ _ tk8
  revert hx H hret B' X' T' hz' hA hk hne F N hM hl hl'
  exact hS0 tx res hp8 tk8 l PL ps k tk nn u h tkk m
namespace turn
noncomputable abbrev VV := (Str) × (Heap) × (Nat) × (Nat) × (List (Addr × Obj)) × (List Pc) × (Int) × (Tok) × (Nat) × (Str → Option Value) × (Heap) × (Nat) × (Nat)
noncomputable def PP (v : VV) : Prop := ∀ (res : List Pc), cut_con_.core_S.a v.1 res v.2.1 v.2.2.1 v.2.2.2.1 v.2.2.2.2.1 v.2.2.2.2.2.1 v.2.2.2.2.2.2.1 v.2.2.2.2.2.2.2.1 v.2.2.2.2.2.2.2.2.1 v.2.2.2.2.2.2.2.2.2.1 v.2.2.2.2.2.2.2.2.2.2.1 v.2.2.2.2.2.2.2.2.2.2.2.1 v.2.2.2.2.2.2.2.2.2.2.2.2
theorem NN : Nonempty VV := ⟨(default, default, 0, 0, [], [], 0, 0, 0, fun _ => none, default, 0, 0)⟩
@[irreducible] noncomputable def CC : VV := bad NN PP
@[irreducible] noncomputable def tx : Str := CC.1
@[irreducible] noncomputable def PL : List (Addr × Obj) := CC.2.2.2.2.1
@[irreducible] noncomputable def ps : List Pc := CC.2.2.2.2.2.1
@[irreducible] noncomputable def k : Int := CC.2.2.2.2.2.2.1
@[irreducible] noncomputable def h : Heap := CC.2.2.2.2.2.2.2.2.2.2.1
set_option maxHeartbeats 20000000 in
theorem core : ∀ (res : List Pc), cut_con_.core_S.a tx res CC.2.1 CC.2.2.1 CC.2.2.2.1 PL ps k CC.2.2.2.2.2.2.2.1 CC.2.2.2.2.2.2.2.2.1 CC.2.2.2.2.2.2.2.2.2.1 h CC.2.2.2.2.2.2.2.2.2.2.2.1 CC.2.2.2.2.2.2.2.2.2.2.2.2 := by
  intro res hx H hret B' X' T' hz' hA hk hne F N hM hl hl'
  try k_fold
  k_steps
  · (refine stop_out ?_; k_dflt ((show wpAny _ _ (call (Value.ref 463) _) _ _ _); (refine' Con.use (str_con' ?gx ?gk) ?kB ?kF ?kX ?kN ?kT ?kA ?kf ?ke ?kd ?ku ?kh ?h1 ?h2 ?h3 ?hP ?_; (case kB => k_asm); (case kF => k_asm); (case kX => k_asm); (case kN => k_asm); (case kT => k_asm); (case kA => exact rfl); (case kf => exact rfl); (case ke => exact rfl); (case kd => exact Nat.le_of_ble_eq_true rfl); (case ku => exact Nat.le_of_ble_eq_true rfl); (case kh => exact rfl); (case h1 => exact fun _ h => nomatch h); (case h2 => exact fun _ h => h); (case h3 => exact fun _ _ _ h => nomatch h)); (case gx => assumption); (case gk => (first | lia | omega)); (case hP => exact fun _ _ _ => trivial); k_whole); intro z9 v9 led9 h9 tk9 hz9 F9 N9 hd9 R9; obtain ⟨p9, k9, hp9, hk9, hs9, r9, r29, t1, t2, t3, hv9, hl9, hr9⟩ := R9; subst hv9; subst hl9; (simp only [List.cons_append, List.nil_append] at N9); have hd91 := neN (hd9 _ (List.Mem.head _) _ (List.Mem.head _)); have hd92 := neN (hd9 _ (List.Mem.head _) _ (List.Mem.tail _ (List.Mem.head _))); (dsimp only at hd91 hd92); (try dsimp only))
    (with_reducible rename strM _ _ _ _ _ = _ => hp)
    (rename ((∃ v e, _ = Pc.str v e) ∨ _ = Pc.wrongNl ∨ _ = Pc.wrongEnd) => hs)
    rcases hs with ⟨v0, e0, rfl⟩ | rfl | rfl
    · ((with_reducible rename News _ _ _ _ => nP); dsimp only [pcO, tupO, Pc.kind, Pc.val, Pc.esc] at nP)
      try k_fold
      k_steps
      rw [cu4 hl' (by assumption) (by assumption) (by assumption) (by assumption) (by assumption) hp] at hM
      dsimp only [pcAfter] at hM
      rw [show ps ++ [Pc.str v0 e0, Pc.shut] = ps ++ [Pc.str v0 e0] ++ [Pc.shut] by simp] at hM
      ((with_reducible rename News _ _ _ _ => nE); refine wpost_next (⟨_, PL ++ [(_, pcO (.str v0 e0) _ _)] ++ [(_, pcO .shut _ _)], ps ++ [(.str v0 e0)] ++ [.shut], _, _, _⟩ : CtS) (by k_asm) nE (by exact ct_led2 (by k_mem) (by k_mem) (by k_mem) (by intro p hp; repeat (first | exact hp | refine List.mem_cons_of_mem _ ?_))) (by exact (fc rfl (fc rfl (fc rfl fz)))) (by exact ⟨hM, hA.snoc.snoc, by (try dsimp only); (first | lia | omega), ne_snoc (ne_snoc hne (by dsimp only; (first | lia | omega))) (by dsimp only; (first | lia | omega))⟩) (by exact Nat.lt_succ_self _) (by exact rfl) (by exact rfl) (by exact rfl))
    · ((with_reducible rename News _ _ _ _ => nP); dsimp only [pcO, tupO, Pc.kind, Pc.val, Pc.esc] at nP)
      try k_fold
      k_steps
      rw [cu4 hl' (by assumption) (by assumption) (by assumption) (by assumption) (by assumption) hp] at hM
      dsimp only [pcAfter] at hM
      ((with_reducible rename News _ _ _ _ => nE); refine wpost_next (⟨_, PL ++ [(_, pcO .wrongNl _ _)], ps ++ [.wrongNl], _, _, _⟩ : CtS) (by k_asm) nE (by exact ct_led1 (by k_mem) (by k_mem) (by intro p hp; repeat (first | exact hp | refine List.mem_cons_of_mem _ ?_))) (by exact (fc rfl (fc rfl (fc rfl fz)))) (by exact ⟨hM, hA.snoc, by (try dsimp only); (first | lia | omega), ne_snoc hne (by dsimp only; (first | lia | omega))⟩) (by exact Nat.lt_succ_self _) (by exact rfl) (by exact rfl) (by exact rfl))
    · ((with_reducible rename News _ _ _ _ => nP); dsimp only [pcO, tupO, Pc.kind, Pc.val, Pc.esc] at nP)
      try k_fold
      k_steps
      rw [cu4 hl' (by assumption) (by assumption) (by assumption) (by assumption) (by assumption) hp] at hM
      dsimp only [pcAfter] at hM
      ((with_reducible rename News _ _ _ _ => nE); refine wpost_next (⟨_, PL ++ [(_, pcO .wrongEnd _ _)], ps ++ [.wrongEnd], _, _, _⟩ : CtS) (by k_asm) nE (by exact ct_led1 (by k_mem) (by k_mem) (by intro p hp; repeat (first | exact hp | refine List.mem_cons_of_mem _ ?_))) (by exact (fc rfl (fc rfl (fc rfl fz)))) (by exact ⟨hM, hA.snoc, by (try dsimp only); (first | lia | omega), ne_snoc hne (by dsimp only; (first | lia | omega))⟩) (by exact Nat.lt_succ_self _) (by exact rfl) (by exact rfl) (by exact rfl))
  · (refine stop_out ?_; k_dflt ((show wpAny _ _ (call (Value.ref 477) _) _ _ _); (refine' Con.use (note_con' ?gx ?gk) ?kB ?kF ?kX ?kN ?kT ?kA ?kf ?ke ?kd ?ku ?kh ?h1 ?h2 ?h3 ?hP ?_; (case kB => k_asm); (case kF => k_asm); (case kX => k_asm); (case kN => k_asm); (case kT => k_asm); (case kA => exact rfl); (case kf => exact rfl); (case ke => exact rfl); (case kd => exact Nat.le_of_ble_eq_true rfl); (case ku => exact Nat.le_of_ble_eq_true rfl); (case kh => exact rfl); (case h1 => exact fun _ h => nomatch h); (case h2 => exact fun _ h => h); (case h3 => exact fun _ _ _ h => nomatch h)); (case gx => assumption); (case gk => (first | lia | omega)); (case hP => exact fun _ _ _ => trivial); k_whole); intro z9 v9 led9 h9 tk9 hz9 F9 N9 hd9 R9; obtain ⟨p9, k9, hp9, hk9, hs9, r9, r29, t1, t2, t3, hv9, hl9, hr9⟩ := R9; subst hv9; subst hl9; (simp only [List.cons_append, List.nil_append] at N9); have hd91 := neN (hd9 _ (List.Mem.head _) _ (List.Mem.head _)); have hd92 := neN (hd9 _ (List.Mem.head _) _ (List.Mem.tail _ (List.Mem.head _))); (dsimp only at hd91 hd92); (try dsimp only))
    (with_reducible rename cnoteM _ _ _ _ = _ => hp)
    (rename (∃ v, _ = Pc.note v) => hs)
    obtain ⟨v0, rfl⟩ := hs
    ((with_reducible rename News _ _ _ _ => nP); dsimp only [pcO, tupO, Pc.kind, Pc.val, Pc.esc] at nP)
    try k_fold
    k_steps
    rw [cu5 hl' (by assumption) (by assumption) (by assumption) (by assumption) (by assumption) (by assumption) hp] at hM
    ((with_reducible rename News _ _ _ _ => nE); refine wpost_next (⟨_, PL ++ [(_, pcO (.note v0) _ _)], ps ++ [(.note v0)], _, _, _⟩ : CtS) (by k_asm) nE (by exact ct_led1 (by k_mem) (by k_mem) (by intro p hp; repeat (first | exact hp | refine List.mem_cons_of_mem _ ?_))) (by exact (fc rfl (fc rfl (fc rfl fz)))) (by exact ⟨hM, hA.snoc, by (try dsimp only); (first | lia | omega), ne_snoc hne (by dsimp only; (first | lia | omega))⟩) (by exact Nat.lt_succ_self _) (by exact rfl) (by exact rfl) (by exact rfl))
  · (refine stop_out ?_; k_dflt ((show wpAny _ _ (call (Value.ref 470) _) _ _ _); (refine' Con.use (word_con' ?gx ?gk) ?kB ?kF ?kX ?kN ?kT ?kA ?kf ?ke ?kd ?ku ?kh ?h1 ?h2 ?h3 ?hP ?_; (case kB => k_asm); (case kF => k_asm); (case kX => k_asm); (case kN => k_asm); (case kT => k_asm); (case kA => exact rfl); (case kf => exact rfl); (case ke => exact rfl); (case kd => exact Nat.le_of_ble_eq_true rfl); (case ku => exact Nat.le_of_ble_eq_true rfl); (case kh => exact rfl); (case h1 => exact fun _ h => nomatch h); (case h2 => exact fun _ h => h); (case h3 => exact fun _ _ _ h => nomatch h)); (case gx => assumption); (case gk => assumption); (case hP => exact fun _ _ _ => trivial); k_whole); intro z9 v9 led9 h9 tk9 hz9 F9 N9 hd9 R9; obtain ⟨p9, k9, hp9, hk9, hs9, r9, r29, t1, t2, t3, hv9, hl9, hr9⟩ := R9; subst hv9; subst hl9; (simp only [List.cons_append, List.nil_append] at N9); have hd91 := neN (hd9 _ (List.Mem.head _) _ (List.Mem.head _)); have hd92 := neN (hd9 _ (List.Mem.head _) _ (List.Mem.tail _ (List.Mem.head _))); (dsimp only at hd91 hd92); (try dsimp only))
    (with_reducible rename wordM _ _ _ _ _ = _ => hp)
    (rename ((∃ v e, _ = Pc.word v e) ∨ _ = Pc.wrongEnd) => hs)
    rcases hs with ⟨v0, e0, rfl⟩ | rfl
    · ((with_reducible rename News _ _ _ _ => nP); dsimp only [pcO, tupO, Pc.kind, Pc.val, Pc.esc] at nP)
      try k_fold
      k_steps
      rw [cu6 hl' (by assumption) (by assumption) (by assumption) (by assumption) (by assumption) (by assumption) hp] at hM
      ((with_reducible rename News _ _ _ _ => nE); refine wpost_next (⟨_, PL ++ [(_, pcO (.word v0 e0) _ _)], ps ++ [(.word v0 e0)], _, _, _⟩ : CtS) (by k_asm) nE (by exact ct_led1 (by k_mem) (by k_mem) (by intro p hp; repeat (first | exact hp | refine List.mem_cons_of_mem _ ?_))) (by exact (fc rfl (fc rfl (fc rfl fz)))) (by exact ⟨hM, hA.snoc, by (try dsimp only); (first | lia | omega), ne_snoc hne (by dsimp only; (first | lia | omega))⟩) (by exact Nat.lt_succ_self _) (by exact rfl) (by exact rfl) (by exact rfl))
    · ((with_reducible rename News _ _ _ _ => nP); dsimp only [pcO, tupO, Pc.kind, Pc.val, Pc.esc] at nP)
      try k_fold
      k_steps
      rw [cu6 hl' (by assumption) (by assumption) (by assumption) (by assumption) (by assumption) (by assumption) hp] at hM
      ((with_reducible rename News _ _ _ _ => nE); refine wpost_next (⟨_, PL ++ [(_, pcO .wrongEnd _ _)], ps ++ [.wrongEnd], _, _, _⟩ : CtS) (by k_asm) nE (by exact ct_led1 (by k_mem) (by k_mem) (by intro p hp; repeat (first | exact hp | refine List.mem_cons_of_mem _ ?_))) (by exact (fc rfl (fc rfl (fc rfl fz)))) (by exact ⟨hM, hA.snoc, by (try dsimp only); (first | lia | omega), ne_snoc hne (by dsimp only; (first | lia | omega))⟩) (by exact Nat.lt_succ_self _) (by exact rfl) (by exact rfl) (by exact rfl))
  · have hpar := par_cases (c := Txt.item tx k) (by assumption) (by assumption)
    rw [cu3 hl' (by assumption) (by assumption) (by assumption) (by assumption)] at hM
    rcases hpar with hpar | hpar
    · rw [hpar] at hM
      (with_reducible rename News _ _ _ _ => nF)
      rw [hpar] at nF
      ((with_reducible rename News _ _ _ _ => nE); refine wpost_next (⟨_, PL ++ [(_, pcO .lp _ _)], ps ++ [.lp], _, _, _⟩ : CtS) (by k_asm) nE (by exact ct_led1 (by k_mem) (by k_mem) (by intro p hp; repeat (first | exact hp | refine List.mem_cons_of_mem _ ?_))) (by exact (fc rfl (fc rfl (fc rfl fz)))) (by exact ⟨hM, hA.snoc, by (try dsimp only); (first | lia | omega), ne_snoc hne (by dsimp only; (first | lia | omega))⟩) (by exact Nat.lt_succ_self _) (by exact rfl) (by exact rfl) (by exact rfl))
    · rw [hpar] at hM
      (with_reducible rename News _ _ _ _ => nF)
      rw [hpar] at nF
      ((with_reducible rename News _ _ _ _ => nE); refine wpost_next (⟨_, PL ++ [(_, pcO .rp _ _)], ps ++ [.rp], _, _, _⟩ : CtS) (by k_asm) nE (by exact ct_led1 (by k_mem) (by k_mem) (by intro p hp; repeat (first | exact hp | refine List.mem_cons_of_mem _ ?_))) (by exact (fc rfl (fc rfl (fc rfl fz)))) (by exact ⟨hM, hA.snoc, by (try dsimp only); (first | lia | omega), ne_snoc hne (by dsimp only; (first | lia | omega))⟩) (by exact Nat.lt_succ_self _) (by exact rfl) (by exact rfl) (by exact rfl))
  · rw [cu2a hl' (by assumption) (by assumption) (by assumption) (by assumption)] at hM
    ((with_reducible rename News _ _ _ _ => nE); refine wpost_next (⟨_, PL ++ [(_, pcO (.line _) _ _)], ps ++ [(.line _)], _, _, _⟩ : CtS) (by k_asm) nE (by exact ct_led1 (by k_mem) (by k_mem) (by intro p hp; repeat (first | exact hp | refine List.mem_cons_of_mem _ ?_))) (by exact (fc rfl (fc rfl (fc rfl fz)))) (by exact ⟨hM, hA.snoc, by (try dsimp only); (first | lia | omega), ne_snoc hne (by dsimp only; (first | lia | omega))⟩) (by exact Nat.lt_succ_self _) (by exact rfl) (by exact rfl) (by exact rfl))
  · rw [cu2b hl' (by assumption) (by assumption) (by assumption) (by assumption)] at hM
    ((with_reducible rename News _ _ _ _ => nE); refine wpost_next (⟨_, PL ++ [(_, pcO (.line _) _ _)], ps ++ [(.line _)], _, _, _⟩ : CtS) (by k_asm) nE (by exact ct_led1 (by k_mem) (by k_mem) (by intro p hp; repeat (first | exact hp | refine List.mem_cons_of_mem _ ?_))) (by exact (fc rfl (fc rfl (fc rfl fz)))) (by exact ⟨hM, hA.snoc, by (try dsimp only); (first | lia | omega), ne_snoc hne (by dsimp only; (first | lia | omega))⟩) (by exact Nat.lt_succ_self _) (by exact rfl) (by exact rfl) (by exact rfl))
  · rw [cu1 hl' (by assumption) (by assumption)] at hM
    ((with_reducible rename News _ _ _ _ => nE); refine wpost_next (⟨_, PL ++ [(_, pcO (.space _) _ _)], ps ++ [(.space _)], _, _, _⟩ : CtS) (by k_asm) nE (by exact ct_led1 (by k_mem) (by k_mem) (by intro p hp; repeat (first | exact hp | refine List.mem_cons_of_mem _ ?_))) (by exact (fc rfl (fc rfl (fc rfl fz)))) (by exact ⟨hM, hA.snoc, by (try dsimp only); (first | lia | omega), ne_snoc hne (by dsimp only; (first | lia | omega))⟩) (by exact Nat.lt_succ_self _) (by exact rfl) (by exact rfl) (by exact rfl))
  · rw [cu7 hl' (by assumption)] at hM
    simp only [Option.some.injEq] at hM
    subst hM
    (with_reducible rename News _ _ _ _ => nE)
    (rename News _ _ _ ((_, W.listOf #[_] 0) :: _) => nO)
    (repeat (first | (with_reducible show Mine.Fw _ _ _ _; constructor) | k_unfold | (dsimp only [WPost]) | dsimp only))
    refine con_ret (led' := (_, listO (refsOfL (PL ++ [(_, pcO .fin _ _)])) 0) :: (PL ++ [(_, pcO .fin _ _)])) hret (by with_reducible assumption) (by exact cb_drop nE (ct_led1 (by k_mem) (by k_mem) (by intro p hp; repeat (first | exact hp | refine List.mem_cons_of_mem _ ?_)))) (by with_reducible assumption) (by exact ⟨_, _, _, rfl, rfl, hA.snoc, fun p hp => Nat.ne_of_lt (Heap.lt_size (nO p (by
      rcases List.mem_append.mp hp with q | q
      · exact (by repeat (first | exact q | refine List.mem_cons_of_mem _ ?_))
      · rw [List.mem_singleton.mp q]; k_mem)).1)⟩) (by exact rfl) (by exact rfl) (by exact rfl)
theorem over (v : VV) : PP v := by
  with_unfolding_all exact bad_all (hn := NN) (P := PP) core v
end turn
theorem core : SS w mean mg mb ttx outer base g s Q E := core_S.h (fun tx res hp8 tk8 l PL ps k tk nn u h tkk m => turn.over (tx, hp8, tk8, l, PL, ps, k, tk, nn, u, h, tkk, m) res)
theorem over (v : VV) : PP v := by
  with_unfolding_all exact bad_all (hn := NN) (P := PP) core v
end cut_con_
theorem cut_con {w : World} {mean : ExcName → Option Value} {mg mb : Str → Option Value} {tx : Str} {ttx : Tok} {res : List Pc}
   (hx : tx.length ≤ 1000) (hG : cutM 3000 tx 0 [] = some res) :
    Con w mean mg mb 600 (.ref 484) [.str tx ttx] [] (fun _ => True)
      (CutR res) := fun outer base g s Q E => cut_con_.over (w, mean, mg, mb, ttx, outer, base, g, s, Q, E) tx res hx hG
end
end Mine
end

section
local macro_rules | `(tactic| walk_at $_) => Lean.Macro.throwUnsupported
local macro_rules | `(tactic| walk_at $_) => Lean.Macro.throwUnsupported
local macro_rules | `(tactic| walk_at $_) => Lean.Macro.throwUnsupported
open PySem PySem.W PySem.Calls PyProof.Rows
set_option genInjectivity false
set_option genSizeOf false
namespace Mine
set_option maxHeartbeats 8000000 in
theorem fill7 : PySem.Challenge.rw_jf0021_01 = PySem.Challenge.rw_jf0021_01 ∧ Mine.hd.heap_1 = Mine.hd.heap_1 := by
  k_fill
  exact ⟨rfl, rfl⟩
section
variable {prog : Program} {w : World} {A : Around} {E : Value → Shared → Prop} {s : Shared} {g : Heap} {L : Addr} {m : Str → Option Value}
theorem base_list_item {value slice : Expr} {l : Addr} {vs : List Value} {k : Int} {u : Tok} {v : Value} {Q : Value → Shared → Prop} (F : Fr g L s.heap m) (hl : g.IsList l vs.toArray)
    (h0 : 0 ≤ k) (hhi : k < 2 ^ 63) (hx : vs[k.toNat]? = some v) (h : Q v s)
    (hs : subscripted slice false (.ref l) (.int k u) = operate [.ref l, .int k u] (getItem (.ref l) (.int k u))) :
    wpAny (model prog w) A (subscriptTail value slice (.ref l) (.int k u)) Q E s :=
  have hL := stays_list (fun b o e => F.keep b o e) hl
  tail_any hL.typeIs slot_list_getitem.lookup (wpAny_getItem_list hL h0 hhi (by simpa using hx) h) hs
theorem base_tup_item {value slice : Expr} {t : Addr} {vs : List Value} {k : Int} {u : Tok} {j : Nat} {v : Value} {Q : Value → Shared → Prop} (F : Fr g L s.heap m) (ht : IsTup g t vs.toArray)
    (hlo : -(2 ^ 63) ≤ k) (hhi : k < 2 ^ 63) (hj : seqIndex? k vs.length = some j) (hx : vs[j]? = some v) (h : Q v s)
    (hs : subscripted slice false (.ref t) (.int k u) = operate [.ref t, .int k u] (getItem (.ref t) (.int k u))) :
    wpAny (model prog w) A (subscriptTail value slice (.ref t) (.int k u)) Q E s :=
  item_tupleT (IsTup.keeps ht F.keep) hlo hhi hj hx h hs
theorem gst {M : Model} {value slice : Expr} {l : Addr} {k : Int} {u : Tok} {Q : Value → Shared → Prop} (h : Stop (wpAny M A (subscriptTail value slice (.ref l) (.int k u)) Q E s)) : wpAny M A (subscriptTail value slice (.ref l) (.int k u)) Q E s := h
end
/-- the pieces lie in the ground -/
noncomputable def PcAt (l : Addr) (ps : List Pc) (g : Heap) : Prop :=
  ∃ refs : List Value, g.IsList l refs.toArray ∧ refs.length = ps.length ∧ ∀ (i : Nat) (p : Pc), ps[i]? = some p → ∃ (a : Addr) (t1 t2 : Tok), refs[i]? = some (.ref a) ∧ IsTup g a [.str p.kind t1, .str p.val t2, .bool p.esc].toArray
structure PsS where
  k : Int
  tk : Tok
section
local macro_rules | `(tactic| walk_at $k) => if ["subscriptTail", "subscriptTail Name Name ref int", "subscriptTail Name BinOp ref int", "subscriptTail Name Constant ref int"].contains k.getString then `(tactic| with_reducible refine Mine.gst ?_) else Lean.Macro.throwUnsupported
namespace past_con_
noncomputable abbrev VV := (World) × (ExcName → Option Value) × (Str → Option Value) × (Str → Option Value) × (Addr) × (List Pc) × (Int) × (Tok) × (Tok) × (List Env) × (Heap) × (Heap) × (Shared) × (Value → Shared → Prop) × (Value → Shared → Prop)
noncomputable def SS (w : World) (mean : ExcName → Option Value) (mg : Str → Option Value) (mb : Str → Option Value) (l : Addr) (ps : List Pc) (k : Int) (tk : Tok) (td : Tok) (outer : List Env) (base : Heap) (g : Heap) (s : Shared) (Q : Value → Shared → Prop) (E : Value → Shared → Prop) : Prop := ∀ (d : Int), ∀ (k' : Int), (0 ≤ k) → (ps.length ≤ 6000) → (pastM 3000 ps k d = some k') → Con1 w mean mg mb 600 (.ref 491) [.ref l, .int k tk, .int d td] [] (PcAt l ps)
      (fun _ v led' => ∃ t, v = .int k' t ∧ led' = []) outer base g s Q E
noncomputable def PP (v : VV) : Prop := SS v.1 v.2.1 v.2.2.1 v.2.2.2.1 v.2.2.2.2.1 v.2.2.2.2.2.1 v.2.2.2.2.2.2.1 v.2.2.2.2.2.2.2.1 v.2.2.2.2.2.2.2.2.1 v.2.2.2.2.2.2.2.2.2.1 v.2.2.2.2.2.2.2.2.2.2.1 v.2.2.2.2.2.2.2.2.2.2.2.1 v.2.2.2.2.2.2.2.2.2.2.2.2.1 v.2.2.2.2.2.2.2.2.2.2.2.2.2.1 v.2.2.2.2.2.2.2.2.2.2.2.2.2.2
theorem NN : Nonempty VV := ⟨(aWorld 0, fun _ => none, fun _ => none, fun _ => none, 0, [], 0, 0, 0, [], default, default, ⟨default, #[], boot_drawn, 0, default⟩, fun _ _ => True, fun _ _ => True)⟩
@[irreducible] noncomputable def CC : VV := bad NN PP
@[irreducible] noncomputable def w : World := CC.1
@[irreducible] noncomputable def mean : ExcName → Option Value := CC.2.1
@[irreducible] noncomputable def mg : Str → Option Value := CC.2.2.1
@[irreducible] noncomputable def mb : Str → Option Value := CC.2.2.2.1
@[irreducible] noncomputable def l : Addr := CC.2.2.2.2.1
@[irreducible] noncomputable def ps : List Pc := CC.2.2.2.2.2.1
@[irreducible] noncomputable def k : Int := CC.2.2.2.2.2.2.1
@[irreducible] noncomputable def tk : Tok := CC.2.2.2.2.2.2.2.1
@[irreducible] noncomputable def td : Tok := CC.2.2.2.2.2.2.2.2.1
@[irreducible] noncomputable def outer : List Env := CC.2.2.2.2.2.2.2.2.2.1
@[irreducible] noncomputable def base : Heap := CC.2.2.2.2.2.2.2.2.2.2.1
@[irreducible] noncomputable def g : Heap := CC.2.2.2.2.2.2.2.2.2.2.2.1
@[irreducible] noncomputable def s : Shared := CC.2.2.2.2.2.2.2.2.2.2.2.2.1
@[irreducible] noncomputable def Q : Value → Shared → Prop := CC.2.2.2.2.2.2.2.2.2.2.2.2.2.1
@[irreducible] noncomputable def E : Value → Shared → Prop := CC.2.2.2.2.2.2.2.2.2.2.2.2.2.2
set_option maxHeartbeats 20000000 in
noncomputable def core_S : Cut1 ((Int) → (Int) → (Heap) → (Nat) → (Int) → (Tok) → (Str → Option Value) → (Heap) → (Nat) → (Nat) → (List Value) → (Pc) → (Addr) → (Tok) → (Tok) → Prop) (fun p0 => (∀ (d : Int) (k' : Int) (h' : Heap) (tk8 : Nat) (k : Int) (tk : Tok) (u : Str → Option Value) (h : Heap) (tkk : Nat) (m : Nat) (refs : List Value) (p : Pc) (a : Addr) (t1 : Tok) (t2 : Tok), p0 d k' h' tk8 k tk u h tkk m refs p a t1 t2) → SS w mean mg mb l ps k tk td outer base g s Q E) := by
  apply Cut1.mk
  case h =>
  intro hS0
  intro d k' hk hn hG H hP hret
  (refine wpAny_call ?_; k_dflt (refine' con_enter0 ?kH ?k1 ?k2 ?k3 ?k4 ?k5 ?_ ?c1 ?c2 ?c3 ?c4; (case kH => with_reducible assumption); (case k1 => k_is); (case k2 => k_is); (case k3 => k_room); (case k4 => first | exact BindsTo.of_eq rfl | exact binds_K (H.k.keeps H.st) rfl (by k_is) rfl rfl rfl); (case k5 => exact locs rfl); (case c1 => exact rfl); (case c2 => exact rfl); (case c3 => exact rfl); (case c4 => decide); intro h' tk' F' N' B' X' T' hz' hl'; (try dsimp only)))
  (k_steps; repeat' (refine stop_out ?_; first | (((with_reducible show wpAny _ _ (subscriptTail _ _ (Value.ref _) (Value.int _ _)) _ _ _); k_dflt (refine' base_list_item ?kF ?kL ?k0 ?k1 ?kx ?_ ?ks; (case kF => k_asm); (case kL => assumption); (case k0 => first | assumption | omega); (case k1 => omega); (case kx => assumption); (case ks => with_unfolding_all rfl); k_whole)); k_steps) | (((with_reducible show wpAny _ _ (subscriptTail _ _ (Value.ref _) (Value.int _ _)) _ _ _); k_dflt (refine' base_tup_item ?kF ?kL ?k0 ?k1 ?kj ?kx ?_ ?ks; (case kF => k_asm); (case kL => assumption); (case k0 => decide); (case k1 => decide); (case kj => exact rfl); (case kx => exact rfl); (case ks => with_unfolding_all rfl); k_whole)); k_steps) | (((with_reducible show wpAny _ _ (unpackItems _ _ _) _ _ _); k_dflt (refine' unpackItemsN_ ?k1 ?k2 ?k3 ?k4 ?k5 ?_; (case k1 => k_asm); (case k2 => k_asm); (case k3 => exact IsTup.keeps (by assumption) (Fr.keep (by k_asm))); (case k4 => exact rfl); (case k5 => exact rfl); k_whole); intro h' F' N'; (try k_sweep)); k_steps) | (((with_reducible show wpAny _ _ (call (Value.ref 491) _) _ _ _); k_dflt ((show wpAny _ _ (call (Value.ref 491) _) _ _ _); (refine' Con.use (past_con ?gk ?gn ?gG) ?kB ?kF ?kX ?kN ?kT ?kA ?kf ?ke ?kd ?ku ?kh ?h1 ?h2 ?h3 ?hP ?_; (case kB => k_asm); (case kF => k_asm); (case kX => k_asm); (case kN => k_asm); (case kT => k_asm); (case kA => exact rfl); (case kf => exact rfl); (case ke => exact rfl); (case kd => exact Nat.le_of_ble_eq_true rfl); (case ku => exact Nat.le_of_ble_eq_true rfl); (case kh => exact rfl); (case h1 => exact fun _ h => nomatch h); (case h2 => exact fun _ h => h); (case h3 => exact fun _ _ _ h => nomatch h)); (case gG => assumption); (case gk => first | assumption | omega); (case gn => assumption); (case hP => exact fun _ st _ => PcAt.keeps (by assumption) st); k_whole; intro z9 v9 led9 h9 tk9 hz9 F9 N9 hd9 R9; obtain ⟨t9, hv9, hl9⟩ := R9; subst hv9; subst hl9; (dsimp only [List.nil_append] at N9); (try dsimp only))); k_steps) | ((first | (k_dflt (refine' s_if0 (gl := []) (fun _ _ h => nomatch h) ?F ?X ?T ?hk ?ht ?_; (case F => k_asm); (case X => k_asm); (case T => k_asm); (case hk => rfl); (case ht => rfl); k_whole); intro tk) | (refine wpAny_If ?_)); k_steps)))
  refine stop_out ?_
  refine my_while (σ := PsS) (fun c => [])
    (fun c => [(Str.ofString "pieces", .ref l), (Str.ofString "at", .int c.k c.tk), (Str.ofString "deep", .int d td)])
    (fun m c => pastM m ps c.k d = some k' ∧ 0 ≤ c.k) (n₀ := 3000)
    ⟨_, _⟩ (by k_asm) (by k_asm) (by exact fun _ h => h) (by exact fc rfl (fc rfl (fc rfl fz))) (by exact ⟨hG, hk⟩) ?_ (by passes_own)
  clear hG hk
  rintro m ⟨k, tk⟩ u h tkk ⟨hM, hk⟩ F N
  dsimp only at hM hk F N
  obtain _ | m := m
  · cases hM
  rw [pastM] at hM
  obtain ⟨refs, hL, hlen, hall⟩ := hP
  cases hp : ps[k.toNat]? with
  | none => rw [hp] at hM; cases hM
  | some p =>
    obtain ⟨a, t1, t2, hr, hT⟩ := hall _ _ hp
    have hb : k.toNat < 6000 := Nat.lt_of_lt_of_le (List.getElem?_eq_some_iff.mp hp).1 hn
    rw [hp] at hM
    rename_i tk8
    revert hn H hret B' X' T' hz' hk F N hL hM hp hr hT hb
    exact hS0 d k' h' tk8 k tk u h tkk m refs p a t1 t2
namespace turn
noncomputable abbrev VV := (Heap) × (Nat) × (Tok) × (Str → Option Value) × (Heap) × (Nat) × (Nat) × (List Value) × (Addr) × (Tok) × (Tok)
noncomputable def PP (v : VV) : Prop := ∀ (d : Int) (k' : Int) (k : Int) (p : Pc), past_con_.core_S.a d k' v.1 v.2.1 k v.2.2.1 v.2.2.2.1 v.2.2.2.2.1 v.2.2.2.2.2.1 v.2.2.2.2.2.2.1 v.2.2.2.2.2.2.2.1 p v.2.2.2.2.2.2.2.2.1 v.2.2.2.2.2.2.2.2.2.1 v.2.2.2.2.2.2.2.2.2.2
theorem NN : Nonempty VV := ⟨(default, 0, 0, fun _ => none, default, 0, 0, [], 0, 0, 0)⟩
@[irreducible] noncomputable def CC : VV := bad NN PP
@[irreducible] noncomputable def h' : Heap := CC.1
@[irreducible] noncomputable def tk : Tok := CC.2.2.1
@[irreducible] noncomputable def h : Heap := CC.2.2.2.2.1
set_option maxHeartbeats 20000000 in
theorem core : ∀ (d : Int) (k' : Int) (k : Int) (p : Pc), past_con_.core_S.a d k' h' CC.2.1 k tk CC.2.2.2.1 h CC.2.2.2.2.2.1 CC.2.2.2.2.2.2.1 CC.2.2.2.2.2.2.2.1 p CC.2.2.2.2.2.2.2.2.1 CC.2.2.2.2.2.2.2.2.2.1 CC.2.2.2.2.2.2.2.2.2.2 := by
  intro d k' k p hn H hret B' X' T' hz' hk F N hL hM hp hr hT hb
  cases p with
  | space c =>
    dsimp only [Pc.kind, Pc.val, Pc.esc] at hM hT
    try k_fold
    (k_steps; repeat' (refine stop_out ?_; first | (((with_reducible show wpAny _ _ (subscriptTail _ _ (Value.ref _) (Value.int _ _)) _ _ _); k_dflt (refine' base_list_item ?kF ?kL ?k0 ?k1 ?kx ?_ ?ks; (case kF => k_asm); (case kL => assumption); (case k0 => first | assumption | omega); (case k1 => omega); (case kx => assumption); (case ks => with_unfolding_all rfl); k_whole)); k_steps) | (((with_reducible show wpAny _ _ (subscriptTail _ _ (Value.ref _) (Value.int _ _)) _ _ _); k_dflt (refine' base_tup_item ?kF ?kL ?k0 ?k1 ?kj ?kx ?_ ?ks; (case kF => k_asm); (case kL => assumption); (case k0 => decide); (case k1 => decide); (case kj => exact rfl); (case kx => exact rfl); (case ks => with_unfolding_all rfl); k_whole)); k_steps) | (((with_reducible show wpAny _ _ (unpackItems _ _ _) _ _ _); k_dflt (refine' unpackItemsN_ ?k1 ?k2 ?k3 ?k4 ?k5 ?_; (case k1 => k_asm); (case k2 => k_asm); (case k3 => exact IsTup.keeps (by assumption) (Fr.keep (by k_asm))); (case k4 => exact rfl); (case k5 => exact rfl); k_whole); intro h' F' N'; (try k_sweep)); k_steps) | (((with_reducible show wpAny _ _ (call (Value.ref 491) _) _ _ _); k_dflt ((show wpAny _ _ (call (Value.ref 491) _) _ _ _); (refine' Con.use (past_con ?gk ?gn ?gG) ?kB ?kF ?kX ?kN ?kT ?kA ?kf ?ke ?kd ?ku ?kh ?h1 ?h2 ?h3 ?hP ?_; (case kB => k_asm); (case kF => k_asm); (case kX => k_asm); (case kN => k_asm); (case kT => k_asm); (case kA => exact rfl); (case kf => exact rfl); (case ke => exact rfl); (case kd => exact Nat.le_of_ble_eq_true rfl); (case ku => exact Nat.le_of_ble_eq_true rfl); (case kh => exact rfl); (case h1 => exact fun _ h => nomatch h); (case h2 => exact fun _ h => h); (case h3 => exact fun _ _ _ h => nomatch h)); (case gG => assumption); (case gk => first | assumption | omega); (case gn => assumption); (case hP => exact fun _ st _ => PcAt.keeps (by assumption) st); k_whole; intro z9 v9 led9 h9 tk9 hz9 F9 N9 hd9 R9; obtain ⟨t9, hv9, hl9⟩ := R9; subst hv9; subst hl9; (dsimp only [List.nil_append] at N9); (try dsimp only))); k_steps) | ((first | (k_dflt (refine' s_if0 (gl := []) (fun _ _ h => nomatch h) ?F ?X ?T ?hk ?ht ?_; (case F => k_asm); (case X => k_asm); (case T => k_asm); (case hk => rfl); (case ht => rfl); k_whole); intro tk) | (refine wpAny_If ?_)); k_steps)))
    ((with_reducible rename News _ _ _ _ => nE); refine wpost_next (⟨_, _⟩ : PsS) (by k_asm) nE (by exact fun _ h => h) (by exact (fc rfl (fc rfl (fc rfl fz)))) (by exact ⟨hM, by (try dsimp only); (first | lia | omega)⟩) (by exact Nat.lt_succ_self _) (by exact rfl) (by exact rfl) (by exact rfl))
  | line c =>
    dsimp only [Pc.kind, Pc.val, Pc.esc] at hM hT
    try k_fold
    (k_steps; repeat' (refine stop_out ?_; first | (((with_reducible show wpAny _ _ (subscriptTail _ _ (Value.ref _) (Value.int _ _)) _ _ _); k_dflt (refine' base_list_item ?kF ?kL ?k0 ?k1 ?kx ?_ ?ks; (case kF => k_asm); (case kL => assumption); (case k0 => first | assumption | omega); (case k1 => omega); (case kx => assumption); (case ks => with_unfolding_all rfl); k_whole)); k_steps) | (((with_reducible show wpAny _ _ (subscriptTail _ _ (Value.ref _) (Value.int _ _)) _ _ _); k_dflt (refine' base_tup_item ?kF ?kL ?k0 ?k1 ?kj ?kx ?_ ?ks; (case kF => k_asm); (case kL => assumption); (case k0 => decide); (case k1 => decide); (case kj => exact rfl); (case kx => exact rfl); (case ks => with_unfolding_all rfl); k_whole)); k_steps) | (((with_reducible show wpAny _ _ (unpackItems _ _ _) _ _ _); k_dflt (refine' unpackItemsN_ ?k1 ?k2 ?k3 ?k4 ?k5 ?_; (case k1 => k_asm); (case k2 => k_asm); (case k3 => exact IsTup.keeps (by assumption) (Fr.keep (by k_asm))); (case k4 => exact rfl); (case k5 => exact rfl); k_whole); intro h' F' N'; (try k_sweep)); k_steps) | (((with_reducible show wpAny _ _ (call (Value.ref 491) _) _ _ _); k_dflt ((show wpAny _ _ (call (Value.ref 491) _) _ _ _); (refine' Con.use (past_con ?gk ?gn ?gG) ?kB ?kF ?kX ?kN ?kT ?kA ?kf ?ke ?kd ?ku ?kh ?h1 ?h2 ?h3 ?hP ?_; (case kB => k_asm); (case kF => k_asm); (case kX => k_asm); (case kN => k_asm); (case kT => k_asm); (case kA => exact rfl); (case kf => exact rfl); (case ke => exact rfl); (case kd => exact Nat.le_of_ble_eq_true rfl); (case ku => exact Nat.le_of_ble_eq_true rfl); (case kh => exact rfl); (case h1 => exact fun _ h => nomatch h); (case h2 => exact fun _ h => h); (case h3 => exact fun _ _ _ h => nomatch h)); (case gG => assumption); (case gk => first | assumption | omega); (case gn => assumption); (case hP => exact fun _ st _ => PcAt.keeps (by assumption) st); k_whole; intro z9 v9 led9 h9 tk9 hz9 F9 N9 hd9 R9; obtain ⟨t9, hv9, hl9⟩ := R9; subst hv9; subst hl9; (dsimp only [List.nil_append] at N9); (try dsimp only))); k_steps) | ((first | (k_dflt (refine' s_if0 (gl := []) (fun _ _ h => nomatch h) ?F ?X ?T ?hk ?ht ?_; (case F => k_asm); (case X => k_asm); (case T => k_asm); (case hk => rfl); (case ht => rfl); k_whole); intro tk) | (refine wpAny_If ?_)); k_steps)))
    · simp only [if_pos (by assumption : (0 : Int) < d)] at hM
      ((with_reducible rename News _ _ _ _ => nE); refine wpost_next (⟨_, _⟩ : PsS) (by k_asm) nE (by exact fun _ h => h) (by exact (fc rfl (fc rfl (fc rfl fz)))) (by exact ⟨hM, by (try dsimp only); (first | lia | omega)⟩) (by exact Nat.lt_succ_self _) (by exact rfl) (by exact rfl) (by exact rfl))
    · simp only [if_neg (by assumption : ¬ (0 : Int) < d), Option.some.injEq] at hM
      subst hM
      ((repeat (first | (with_reducible show Mine.Fw _ _ _ _; constructor) | k_unfold | (dsimp only [WPost]) | dsimp only)); refine' con_ret hret ?kF ?kN ?kz ?kr ?kg ?kd ?ko; (case kg => exact rfl); (case kd => exact rfl); (case ko => exact rfl); (case kF => with_reducible assumption); (case kN => with_reducible assumption); (case kz => with_reducible assumption); (case kr => (exact ⟨_, rfl, rfl⟩)))
  | _ =>
    dsimp only [Pc.kind, Pc.val, Pc.esc] at hM hT
    simp only [Option.some.injEq] at hM
    subst hM
    try k_fold
    (k_steps; repeat' (refine stop_out ?_; first | (((with_reducible show wpAny _ _ (subscriptTail _ _ (Value.ref _) (Value.int _ _)) _ _ _); k_dflt (refine' base_list_item ?kF ?kL ?k0 ?k1 ?kx ?_ ?ks; (case kF => k_asm); (case kL => assumption); (case k0 => first | assumption | omega); (case k1 => omega); (case kx => assumption); (case ks => with_unfolding_all rfl); k_whole)); k_steps) | (((with_reducible show wpAny _ _ (subscriptTail _ _ (Value.ref _) (Value.int _ _)) _ _ _); k_dflt (refine' base_tup_item ?kF ?kL ?k0 ?k1 ?kj ?kx ?_ ?ks; (case kF => k_asm); (case kL => assumption); (case k0 => decide); (case k1 => decide); (case kj => exact rfl); (case kx => exact rfl); (case ks => with_unfolding_all rfl); k_whole)); k_steps) | (((with_reducible show wpAny _ _ (unpackItems _ _ _) _ _ _); k_dflt (refine' unpackItemsN_ ?k1 ?k2 ?k3 ?k4 ?k5 ?_; (case k1 => k_asm); (case k2 => k_asm); (case k3 => exact IsTup.keeps (by assumption) (Fr.keep (by k_asm))); (case k4 => exact rfl); (case k5 => exact rfl); k_whole); intro h' F' N'; (try k_sweep)); k_steps) | (((with_reducible show wpAny _ _ (call (Value.ref 491) _) _ _ _); k_dflt ((show wpAny _ _ (call (Value.ref 491) _) _ _ _); (refine' Con.use (past_con ?gk ?gn ?gG) ?kB ?kF ?kX ?kN ?kT ?kA ?kf ?ke ?kd ?ku ?kh ?h1 ?h2 ?h3 ?hP ?_; (case kB => k_asm); (case kF => k_asm); (case kX => k_asm); (case kN => k_asm); (case kT => k_asm); (case kA => exact rfl); (case kf => exact rfl); (case ke => exact rfl); (case kd => exact Nat.le_of_ble_eq_true rfl); (case ku => exact Nat.le_of_ble_eq_true rfl); (case kh => exact rfl); (case h1 => exact fun _ h => nomatch h); (case h2 => exact fun _ h => h); (case h3 => exact fun _ _ _ h => nomatch h)); (case gG => assumption); (case gk => first | assumption | omega); (case gn => assumption); (case hP => exact fun _ st _ => PcAt.keeps (by assumption) st); k_whole; intro z9 v9 led9 h9 tk9 hz9 F9 N9 hd9 R9; obtain ⟨t9, hv9, hl9⟩ := R9; subst hv9; subst hl9; (dsimp only [List.nil_append] at N9); (try dsimp only))); k_steps) | ((first | (k_dflt (refine' s_if0 (gl := []) (fun _ _ h => nomatch h) ?F ?X ?T ?hk ?ht ?_; (case F => k_asm); (case X => k_asm); (case T => k_asm); (case hk => rfl); (case ht => rfl); k_whole); intro tk) | (refine wpAny_If ?_)); k_steps)))
    ((repeat (first | (with_reducible show Mine.Fw _ _ _ _; constructor) | k_unfold | (dsimp only [WPost]) | dsimp only)); refine' con_ret hret ?kF ?kN ?kz ?kr ?kg ?kd ?ko; (case kg => exact rfl); (case kd => exact rfl); (case ko => exact rfl); (case kF => with_reducible assumption); (case kN => with_reducible assumption); (case kz => with_reducible assumption); (case kr => (exact ⟨_, rfl, rfl⟩)))
theorem over (v : VV) : PP v := by
  with_unfolding_all exact bad_all (hn := NN) (P := PP) core v
end turn
theorem core : SS w mean mg mb l ps k tk td outer base g s Q E := core_S.h (fun d k' h' tk8 k tk u h tkk m refs p a t1 t2 => turn.over (h', tk8, tk, u, h, tkk, m, refs, a, t1, t2) d k' k p)
theorem over (v : VV) : PP v := by
  with_unfolding_all exact bad_all (hn := NN) (P := PP) core v
end past_con_
theorem past_con {w : World} {mean : ExcName → Option Value} {mg mb : Str → Option Value} {l : Addr} {ps : List Pc} {k d k' : Int} {tk td : Tok}
   (hk : 0 ≤ k) (hn : ps.length ≤ 6000) (hG : pastM 3000 ps k d = some k') :
    Con w mean mg mb 600 (.ref 491) [.ref l, .int k tk, .int d td] [] (PcAt l ps)
      (fun _ v led' => ∃ t, v = .int k' t ∧ led' = []) := fun outer base g s Q E => past_con_.over (w, mean, mg, mb, l, ps, k, tk, td, outer, base, g, s, Q, E) d k' hk hn hG
theorem PcAt.keeps {l : Addr} {ps : List Pc} {g h : Heap} (H : PcAt l ps g) (st : g.StaysIn h) : PcAt l ps h := by
  obtain ⟨refs, hL, hlen, hall⟩ := H
  refine ⟨refs, stays_list (fun b o e => st b o e) hL, hlen, fun i p hp => ?_⟩
  obtain ⟨a, t1, t2, hr, hT⟩ := hall i p hp
  exact ⟨a, t1, t2, hr, IsTup.keeps hT (fun b o e => st b o e)⟩
theorem pastM_nonneg : ∀ {n : Nat} {ps : List Pc} {k d k' : Int}, pastM n ps k d = some k' → 0 ≤ k → 0 ≤ k' := by
  intro n
  induction n with
  | zero => intro ps k d k' h; cases h
  | succ n ih =>
    intro ps k d k' h h0
    rw [pastM] at h
    split at h
    · cases h
    · split at h
      · exact ih h (by (first | lia | omega))
      · split at h
        · exact ih h (by (first | lia | omega))
        · cases h; exact h0
      · cases h; exact h0
/-- a due value and its own object -/
noncomputable def DueR (r : Res) (z : Nat) (v : Value) (led : List (Addr × Obj)) : Prop := match r with
  | .tok ty x e cm => ∃ (a : Nat) (t1 t2 t3 : Tok), v = .ref a ∧ led = [(a, tupO [.int ty t1, .str x t2, .bool e, vUC cm t3])] ∧ a < z
  | .syn => ∃ t, v = .str (Str.ofString "syntax") t ∧ led = []
  | .fin => ∃ t, v = .str (Str.ofString "end") t ∧ led = []
noncomputable def NextR (r : Res) (k d : Int) : Nat → Value → List (Addr × Obj) → Prop := fun _ v led' =>
  ∃ (due : Value) (dl : List (Addr × Obj)) (a : Nat) (t1 t2 : Tok), DueR r a due dl ∧ v = .ref a ∧ led' = (a, tupO [due, .int k t1, .int d t2]) :: dl
theorem nextR_tok {ty : Int} {x : Str} {e : Bool} {cm : Option Str} {k d : Int} {Z a a1 : Nat} {u1 u2 t1 t2 : Tok} {cmV : Value} (h : a < a1) (hc : ∃ t, cmV = vUC cm t) : NextR (.tok ty x e cm) k d Z (.ref a1) [(a1, tupO [.ref a, .int k t1, .int d t2]), (a, tupO [.int ty u1, .str x u2, .bool e, cmV])] := by
  obtain ⟨t, rfl⟩ := hc
  exact ⟨.ref a, _, a1, t1, t2, ⟨a, u1, u2, t, rfl, rfl, h⟩, rfl, rfl⟩
theorem nextR_syn {k d : Int} {Z a1 : Nat} {t t1 t2 : Tok} : NextR .syn k d Z (.ref a1) [(a1, tupO [.str (Str.ofString "syntax") t, .int k t1, .int d t2])] := ⟨_, [], a1, t1, t2, ⟨t, rfl, rfl⟩, rfl, rfl⟩
theorem nextR_fin {k d : Int} {Z a1 : Nat} {t t1 t2 : Tok} : NextR .fin k d Z (.ref a1) [(a1, tupO [.str (Str.ofString "end") t, .int k t1, .int d t2])] := ⟨_, [], a1, t1, t2, ⟨t, rfl, rfl⟩, rfl, rfl⟩
theorem gm1 {a : Addr × Obj} {l : List (Addr × Obj)} (h : a ∈ l) : ∀ p ∈ [a], p ∈ l := fun p hp => by rw [List.mem_singleton.mp hp]; exact h
theorem gm2 {a b : Addr × Obj} {l : List (Addr × Obj)} (h : a ∈ l) (h2 : b ∈ l) : ∀ p ∈ [a, b], p ∈ l := fun p hp => by
  rcases List.mem_cons.mp hp with rfl | hp
  · exact h
  · rw [List.mem_singleton.mp hp]; exact h2
theorem stop_ifw {M : Model} {A : Around} {env : Env} {Q : Flow → Shared → Prop} {E : Value → Shared → Prop} {st : Shared} {vs : List Expr} {v : Option Expr} {p q1 q2 q3 : Pos} {t : Expr} {bd oe : List Stmt} {r : List Stmt}
    (h : Stop (wpAny M A (execs (.If (.BoolOp .And vs p) [.Return v q1] [] q2 :: .While t bd oe q3 :: r) env) Q E st)) : wpAny M A (execs (.If (.BoolOp .And vs p) [.Return v q1] [] q2 :: .While t bd oe q3 :: r) env) Q E st := h
structure NxS where
  k : Int
  tk : Tok
  d : Int
  td : Tok
local macro_rules | `(tactic| walk_at $k) => if ["exec If", "unpackItems ref", "call ref"].contains k.getString then `(tactic| refine Mine.stop_of ?_) else Lean.Macro.throwUnsupported
local macro_rules | `(tactic| walk_at "ite") => `(tactic| first | refine ite_t (by with_reducible assumption) ?_ | refine ite_f (by with_reducible assumption) ?_ | refine ite_f (Bool.and_false _) ?_ | refine ite_f rfl ?_ | refine ite_t rfl ?_)
local macro_rules | `(tactic| walk_at "execs cons") => `(tactic| refine stop_ifw ?_)
namespace next_con_
noncomputable abbrev VV := (World) × (ExcName → Option Value) × (Str → Option Value) × (Str → Option Value) × (Addr) × (List Pc) × (Int) × (Int) × (Tok) × (Tok) × (Bool) × (List Env) × (Heap) × (Heap) × (Shared) × (Value → Shared → Prop) × (Value → Shared → Prop)
noncomputable def SS (w : World) (mean : ExcName → Option Value) (mg : Str → Option Value) (mb : Str → Option Value) (l : Addr) (ps : List Pc) (k : Int) (d : Int) (tk : Tok) (td : Tok) (lead : Bool) (outer : List Env) (base : Heap) (g : Heap) (s : Shared) (Q : Value → Shared → Prop) (E : Value → Shared → Prop) : Prop := ∀ (k' : Int), ∀ (d' : Int), ∀ (note : Bool), ∀ (r : Res), (0 ≤ k) → (0 ≤ d) → (ps.length ≤ 6000) → (nextM lead note ps k d = some (r, k', d')) → Con1 w mean mg mb 500 (.ref 498) [.ref l, .int k tk, .int d td, .bool lead, .bool note] [] (PcAt l ps)
      (NextR r k' d') outer base g s Q E
noncomputable def PP (v : VV) : Prop := SS v.1 v.2.1 v.2.2.1 v.2.2.2.1 v.2.2.2.2.1 v.2.2.2.2.2.1 v.2.2.2.2.2.2.1 v.2.2.2.2.2.2.2.1 v.2.2.2.2.2.2.2.2.1 v.2.2.2.2.2.2.2.2.2.1 v.2.2.2.2.2.2.2.2.2.2.1 v.2.2.2.2.2.2.2.2.2.2.2.1 v.2.2.2.2.2.2.2.2.2.2.2.2.1 v.2.2.2.2.2.2.2.2.2.2.2.2.2.1 v.2.2.2.2.2.2.2.2.2.2.2.2.2.2.1 v.2.2.2.2.2.2.2.2.2.2.2.2.2.2.2.1 v.2.2.2.2.2.2.2.2.2.2.2.2.2.2.2.2
theorem NN : Nonempty VV := ⟨(aWorld 0, fun _ => none, fun _ => none, fun _ => none, 0, [], 0, 0, 0, 0, false, [], default, default, ⟨default, #[], boot_drawn, 0, default⟩, fun _ _ => True, fun _ _ => True)⟩
@[irreducible] noncomputable def CC : VV := bad NN PP
@[irreducible] noncomputable def w : World := CC.1
@[irreducible] noncomputable def mean : ExcName → Option Value := CC.2.1
@[irreducible] noncomputable def mg : Str → Option Value := CC.2.2.1
@[irreducible] noncomputable def mb : Str → Option Value := CC.2.2.2.1
@[irreducible] noncomputable def l : Addr := CC.2.2.2.2.1
@[irreducible] noncomputable def ps : List Pc := CC.2.2.2.2.2.1
@[irreducible] noncomputable def k : Int := CC.2.2.2.2.2.2.1
@[irreducible] noncomputable def d : Int := CC.2.2.2.2.2.2.2.1
@[irreducible] noncomputable def tk : Tok := CC.2.2.2.2.2.2.2.2.1
@[irreducible] noncomputable def td : Tok := CC.2.2.2.2.2.2.2.2.2.1
@[irreducible] noncomputable def lead : Bool := CC.2.2.2.2.2.2.2.2.2.2.1
@[irreducible] noncomputable def outer : List Env := CC.2.2.2.2.2.2.2.2.2.2.2.1
@[irreducible] noncomputable def base : Heap := CC.2.2.2.2.2.2.2.2.2.2.2.2.1
@[irreducible] noncomputable def g : Heap := CC.2.2.2.2.2.2.2.2.2.2.2.2.2.1
@[irreducible] noncomputable def s : Shared := CC.2.2.2.2.2.2.2.2.2.2.2.2.2.2.1
@[irreducible] noncomputable def Q : Value → Shared → Prop := CC.2.2.2.2.2.2.2.2.2.2.2.2.2.2.2.1
@[irreducible] noncomputable def E : Value → Shared → Prop := CC.2.2.2.2.2.2.2.2.2.2.2.2.2.2.2.2
set_option maxHeartbeats 20000000 in
noncomputable def core_S : Cut1 ((Int) → (Int) → (Bool) → (Res) → (Heap) → (Nat) → (Int) → (Tok) → (Int) → (Tok) → (Str → Option Value) → (Heap) → (Nat) → (Nat) → (Pc) → (List Value) → (Addr) → (Tok) → (Tok) → Prop) (fun p0 => (∀ (k' : Int) (d' : Int) (note : Bool) (r : Res) (hp8 : Heap) (tk8 : Nat) (k : Int) (tk : Tok) (d : Int) (td : Tok) (u : Str → Option Value) (h : Heap) (tkk : Nat) (m : Nat) (p : Pc) (refs : List Value) (a : Addr) (t1 : Tok) (t2 : Tok), p0 k' d' note r hp8 tk8 k tk d td u h tkk m p refs a t1 t2) → SS w mean mg mb l ps k d tk td lead outer base g s Q E) := by
  apply Cut1.mk
  case h =>
  intro hS0
  intro k' d' note r hk h0 hn hG H hP hret
  rw [nextM] at hG
  cases hq : pastM 3000 ps k d with
  | none => rw [hq] at hG; cases hG
  | some k1 =>
  rw [hq] at hG
  dsimp only at hG
  (refine wpAny_call ?_; k_dflt (refine' con_enter0 ?kH ?k1 ?k2 ?k3 ?k4 ?k5 ?_ ?c1 ?c2 ?c3 ?c4; (case kH => with_reducible assumption); (case k1 => k_is); (case k2 => k_is); (case k3 => k_room); (case k4 => first | exact BindsTo.of_eq rfl | exact binds_K (H.k.keeps H.st) rfl (by k_is) rfl rfl rfl); (case k5 => exact locs rfl); (case c1 => exact rfl); (case c2 => exact rfl); (case c3 => exact rfl); (case c4 => decide); intro h' tk' F' N' B' X' T' hz' hl'; (try dsimp only)))
  (k_steps; repeat' (refine stop_out ?_; first | (((with_reducible show wpAny _ _ (subscriptTail _ _ (Value.ref _) (Value.int _ _)) _ _ _); k_dflt (refine' base_list_item ?kF ?kL ?k0 ?k1 ?kx ?_ ?ks; (case kF => k_asm); (case kL => assumption); (case k0 => first | assumption | omega); (case k1 => omega); (case kx => assumption); (case ks => with_unfolding_all rfl); k_whole)); k_steps) | (((with_reducible show wpAny _ _ (subscriptTail _ _ (Value.ref _) (Value.int _ _)) _ _ _); k_dflt (refine' base_tup_item ?kF ?kL ?k0 ?k1 ?kj ?kx ?_ ?ks; (case kF => k_asm); (case kL => assumption); (case k0 => decide); (case k1 => decide); (case kj => exact rfl); (case kx => exact rfl); (case ks => with_unfolding_all rfl); k_whole)); k_steps) | (((with_reducible show wpAny _ _ (unpackItems _ _ _) _ _ _); k_dflt (refine' unpackItemsN_ ?k1 ?k2 ?k3 ?k4 ?k5 ?_; (case k1 => k_asm); (case k2 => k_asm); (case k3 => exact IsTup.keeps (by assumption) (Fr.keep (by k_asm))); (case k4 => exact rfl); (case k5 => exact rfl); k_whole); intro h' F' N'; (try k_sweep)); k_steps) | (((with_reducible show wpAny _ _ (call (Value.ref 491) _) _ _ _); k_dflt ((show wpAny _ _ (call (Value.ref 491) _) _ _ _); (refine' Con.use (past_con ?gk ?gn ?gG) ?kB ?kF ?kX ?kN ?kT ?kA ?kf ?ke ?kd ?ku ?kh ?h1 ?h2 ?h3 ?hP ?_; (case kB => k_asm); (case kF => k_asm); (case kX => k_asm); (case kN => k_asm); (case kT => k_asm); (case kA => exact rfl); (case kf => exact rfl); (case ke => exact rfl); (case kd => exact Nat.le_of_ble_eq_true rfl); (case ku => exact Nat.le_of_ble_eq_true rfl); (case kh => exact rfl); (case h1 => exact fun _ h => nomatch h); (case h2 => exact fun _ h => h); (case h3 => exact fun _ _ _ h => nomatch h)); (case gG => assumption); (case gk => first | assumption | omega); (case gn => assumption); (case hP => exact fun _ st _ => PcAt.keeps (by assumption) st); k_whole; intro z9 v9 led9 h9 tk9 hz9 F9 N9 hd9 R9; obtain ⟨t9, hv9, hl9⟩ := R9; subst hv9; subst hl9; (dsimp only [List.nil_append] at N9); (try dsimp only))); k_steps) | ((first | (k_dflt (refine' s_if0 (gl := []) (fun _ _ h => nomatch h) ?F ?X ?T ?hk ?ht ?_; (case F => k_asm); (case X => k_asm); (case T => k_asm); (case hk => rfl); (case ht => rfl); k_whole); intro tk) | (refine wpAny_If ?_)); k_steps)))
  refine stop_out (if_join (nextL 3000 note ps k1 d = some (r, k', d')) ?_ ?_)
  · refine wpAny_If ?_
    try k_fold
    (k_steps; repeat' (refine stop_out ?_; first | (((with_reducible show wpAny _ _ (subscriptTail _ _ (Value.ref _) (Value.int _ _)) _ _ _); k_dflt (refine' base_list_item ?kF ?kL ?k0 ?k1 ?kx ?_ ?ks; (case kF => k_asm); (case kL => assumption); (case k0 => first | assumption | omega); (case k1 => omega); (case kx => assumption); (case ks => with_unfolding_all rfl); k_whole)); k_steps) | (((with_reducible show wpAny _ _ (subscriptTail _ _ (Value.ref _) (Value.int _ _)) _ _ _); k_dflt (refine' base_tup_item ?kF ?kL ?k0 ?k1 ?kj ?kx ?_ ?ks; (case kF => k_asm); (case kL => assumption); (case k0 => decide); (case k1 => decide); (case kj => exact rfl); (case kx => exact rfl); (case ks => with_unfolding_all rfl); k_whole)); k_steps) | (((with_reducible show wpAny _ _ (unpackItems _ _ _) _ _ _); k_dflt (refine' unpackItemsN_ ?k1 ?k2 ?k3 ?k4 ?k5 ?_; (case k1 => k_asm); (case k2 => k_asm); (case k3 => exact IsTup.keeps (by assumption) (Fr.keep (by k_asm))); (case k4 => exact rfl); (case k5 => exact rfl); k_whole); intro h' F' N'; (try k_sweep)); k_steps) | (((with_reducible show wpAny _ _ (call (Value.ref 491) _) _ _ _); k_dflt ((show wpAny _ _ (call (Value.ref 491) _) _ _ _); (refine' Con.use (past_con ?gk ?gn ?gG) ?kB ?kF ?kX ?kN ?kT ?kA ?kf ?ke ?kd ?ku ?kh ?h1 ?h2 ?h3 ?hP ?_; (case kB => k_asm); (case kF => k_asm); (case kX => k_asm); (case kN => k_asm); (case kT => k_asm); (case kA => exact rfl); (case kf => exact rfl); (case ke => exact rfl); (case kd => exact Nat.le_of_ble_eq_true rfl); (case ku => exact Nat.le_of_ble_eq_true rfl); (case kh => exact rfl); (case h1 => exact fun _ h => nomatch h); (case h2 => exact fun _ h => h); (case h3 => exact fun _ _ _ h => nomatch h)); (case gG => assumption); (case gk => first | assumption | omega); (case gn => assumption); (case hP => exact fun _ st _ => PcAt.keeps (by assumption) st); k_whole; intro z9 v9 led9 h9 tk9 hz9 F9 N9 hd9 R9; obtain ⟨t9, hv9, hl9⟩ := R9; subst hv9; subst hl9; (dsimp only [List.nil_append] at N9); (try dsimp only))); k_steps) | ((first | (k_dflt (refine' s_if0 (gl := []) (fun _ _ h => nomatch h) ?F ?X ?T ?hk ?ht ?_; (case F => k_asm); (case X => k_asm); (case T => k_asm); (case hk => rfl); (case ht => rfl); k_whole); intro tk) | (refine wpAny_If ?_)); k_steps)))
    · rw [if_pos ⟨by assumption, by assumption⟩] at hG
      simp only [Option.some.injEq, Prod.mk.injEq] at hG
      obtain ⟨e1, e2, e3⟩ := hG
      subst e1 e2 e3
      ((repeat (first | (with_reducible show Mine.Fw _ _ _ _; constructor) | k_unfold | (dsimp only [WPost]) | dsimp only)); refine' con_ret (led' := [(_, tupO [_, _, _]), (_, tupO [_, _, _, _])]) hret ?kF ?kN ?kz ?kr ?kg ?kd ?ko; (case kg => exact rfl); (case kd => exact rfl); (case ko => exact rfl); (case kF => with_reducible assumption); (case kz => with_reducible assumption); (case kN => (refine' cb_drop ?kn ?ks; (case kn => with_reducible assumption); (case ks => exact gm2 (by k_mem) (by k_mem)))); (case kr => exact nextR_tok (by assumption) (by first | exact ⟨_, rfl⟩ | exact ⟨0, rfl⟩)))
    · rw [if_neg (fun q => (by assumption : ¬ k < k1) q.2)] at hG
      exact hG
    · rw [if_neg (fun q => absurd q.1 (by simp [*]))] at hG
      exact hG
  intro tk9 hG
  try k_fold
  (k_steps; repeat' (refine stop_out ?_; first | (((with_reducible show wpAny _ _ (subscriptTail _ _ (Value.ref _) (Value.int _ _)) _ _ _); k_dflt (refine' base_list_item ?kF ?kL ?k0 ?k1 ?kx ?_ ?ks; (case kF => k_asm); (case kL => assumption); (case k0 => first | assumption | omega); (case k1 => omega); (case kx => assumption); (case ks => with_unfolding_all rfl); k_whole)); k_steps) | (((with_reducible show wpAny _ _ (subscriptTail _ _ (Value.ref _) (Value.int _ _)) _ _ _); k_dflt (refine' base_tup_item ?kF ?kL ?k0 ?k1 ?kj ?kx ?_ ?ks; (case kF => k_asm); (case kL => assumption); (case k0 => decide); (case k1 => decide); (case kj => exact rfl); (case kx => exact rfl); (case ks => with_unfolding_all rfl); k_whole)); k_steps) | (((with_reducible show wpAny _ _ (unpackItems _ _ _) _ _ _); k_dflt (refine' unpackItemsN_ ?k1 ?k2 ?k3 ?k4 ?k5 ?_; (case k1 => k_asm); (case k2 => k_asm); (case k3 => exact IsTup.keeps (by assumption) (Fr.keep (by k_asm))); (case k4 => exact rfl); (case k5 => exact rfl); k_whole); intro h' F' N'; (try k_sweep)); k_steps) | (((with_reducible show wpAny _ _ (call (Value.ref 491) _) _ _ _); k_dflt ((show wpAny _ _ (call (Value.ref 491) _) _ _ _); (refine' Con.use (past_con ?gk ?gn ?gG) ?kB ?kF ?kX ?kN ?kT ?kA ?kf ?ke ?kd ?ku ?kh ?h1 ?h2 ?h3 ?hP ?_; (case kB => k_asm); (case kF => k_asm); (case kX => k_asm); (case kN => k_asm); (case kT => k_asm); (case kA => exact rfl); (case kf => exact rfl); (case ke => exact rfl); (case kd => exact Nat.le_of_ble_eq_true rfl); (case ku => exact Nat.le_of_ble_eq_true rfl); (case kh => exact rfl); (case h1 => exact fun _ h => nomatch h); (case h2 => exact fun _ h => h); (case h3 => exact fun _ _ _ h => nomatch h)); (case gG => assumption); (case gk => first | assumption | omega); (case gn => assumption); (case hP => exact fun _ st _ => PcAt.keeps (by assumption) st); k_whole; intro z9 v9 led9 h9 tk9 hz9 F9 N9 hd9 R9; obtain ⟨t9, hv9, hl9⟩ := R9; subst hv9; subst hl9; (dsimp only [List.nil_append] at N9); (try dsimp only))); k_steps) | ((first | (k_dflt (refine' s_if0 (gl := []) (fun _ _ h => nomatch h) ?F ?X ?T ?hk ?ht ?_; (case F => k_asm); (case X => k_asm); (case T => k_asm); (case hk => rfl); (case ht => rfl); k_whole); intro tk) | (refine wpAny_If ?_)); k_steps)))
  refine stop_out ?_
  refine my_while (σ := NxS) (fun c => [])
    (fun c => [(Str.ofString "pieces", .ref l), (Str.ofString "at", .int c.k c.tk), (Str.ofString "deep", .int c.d c.td), (Str.ofString "note", .bool note)])
    (fun m c => nextL m note ps c.k c.d = some (r, k', d') ∧ 0 ≤ c.k ∧ 0 ≤ c.d) (n₀ := 3000)
    ⟨_, _, _, _⟩ (by k_asm) (by k_asm) (by exact fun _ h => h) (by exact fc rfl (fc rfl (fc rfl (fc rfl fz)))) (by exact ⟨hG, pastM_nonneg hq hk, h0⟩) ?_ (by passes_own)
  clear hG hk hq h0
  rintro m ⟨k, tk, d, td⟩ u h tkk ⟨hM, hk, h0⟩ F N
  dsimp only at hM hk h0 F N
  obtain _ | m := m
  · cases hM
  cases hp : ps[k.toNat]? with
  | none => rw [nextL_n hp] at hM; cases hM
  | some p =>
    have hb : k.toNat < 6000 := Nat.lt_of_lt_of_le (List.getElem?_eq_some_iff.mp hp).1 hn
    obtain ⟨refs, hL, hlen, hall⟩ := id hP
    obtain ⟨a, t1, t2, hr, hT⟩ := hall _ _ hp
    replace hM := nextL_b hM hp
    rename_i hp8 _ _ tk8
    revert hn H hP hret B' X' T' hz' hk h0 F N hp hb hL hlen hall hr hT hM
    exact hS0 k' d' note r hp8 tk8 k tk d td u h tkk m p refs a t1 t2
namespace turn
noncomputable abbrev VV := (Heap) × (Nat) × (Int) × (Tok) × (Int) × (Tok) × (Str → Option Value) × (Heap) × (Nat) × (Nat) × (List Value) × (Addr) × (Tok) × (Tok)
noncomputable def PP (v : VV) : Prop := ∀ (k' : Int) (d' : Int) (note : Bool) (r : Res) (p : Pc), next_con_.core_S.a k' d' note r v.1 v.2.1 v.2.2.1 v.2.2.2.1 v.2.2.2.2.1 v.2.2.2.2.2.1 v.2.2.2.2.2.2.1 v.2.2.2.2.2.2.2.1 v.2.2.2.2.2.2.2.2.1 v.2.2.2.2.2.2.2.2.2.1 p v.2.2.2.2.2.2.2.2.2.2.1 v.2.2.2.2.2.2.2.2.2.2.2.1 v.2.2.2.2.2.2.2.2.2.2.2.2.1 v.2.2.2.2.2.2.2.2.2.2.2.2.2
theorem NN : Nonempty VV := ⟨(default, 0, 0, 0, 0, 0, fun _ => none, default, 0, 0, [], 0, 0, 0)⟩
@[irreducible] noncomputable def CC : VV := bad NN PP
@[irreducible] noncomputable def k : Int := CC.2.2.1
@[irreducible] noncomputable def tk : Tok := CC.2.2.2.1
@[irreducible] noncomputable def d : Int := CC.2.2.2.2.1
@[irreducible] noncomputable def h : Heap := CC.2.2.2.2.2.2.2.1
@[irreducible] noncomputable def m : Nat := CC.2.2.2.2.2.2.2.2.2.1
set_option maxHeartbeats 20000000 in
theorem core : ∀ (k' : Int) (d' : Int) (note : Bool) (r : Res) (p : Pc), next_con_.core_S.a k' d' note r CC.1 CC.2.1 k tk d CC.2.2.2.2.2.1 CC.2.2.2.2.2.2.1 h CC.2.2.2.2.2.2.2.2.1 m p CC.2.2.2.2.2.2.2.2.2.2.1 CC.2.2.2.2.2.2.2.2.2.2.2.1 CC.2.2.2.2.2.2.2.2.2.2.2.2.1 CC.2.2.2.2.2.2.2.2.2.2.2.2.2 := by
  intro k' d' note r p hn H hP hret B' X' T' hz' hk h0 F N hp hb hL hlen hall hr hT hM
  cases p with
  | lp =>
    dsimp only [nextB, Pc.kind, Pc.val, Pc.esc] at hM hT
    cases hq : pastM 3000 ps (k + 1) (d + 1) with
    | none => rw [hq] at hM; cases hM
    | some k2 =>
    rw [hq] at hM
    dsimp only at hM
    have hd : ¬ d + 1 < 0 := by (first | lia | omega)
    have hdd := decide_eq_false hd
    try k_fold
    (k_steps; repeat' (refine stop_out ?_; first | (((with_reducible show wpAny _ _ (subscriptTail _ _ (Value.ref _) (Value.int _ _)) _ _ _); k_dflt (refine' base_list_item ?kF ?kL ?k0 ?k1 ?kx ?_ ?ks; (case kF => k_asm); (case kL => assumption); (case k0 => first | assumption | omega); (case k1 => omega); (case kx => assumption); (case ks => with_unfolding_all rfl); k_whole)); k_steps) | (((with_reducible show wpAny _ _ (subscriptTail _ _ (Value.ref _) (Value.int _ _)) _ _ _); k_dflt (refine' base_tup_item ?kF ?kL ?k0 ?k1 ?kj ?kx ?_ ?ks; (case kF => k_asm); (case kL => assumption); (case k0 => decide); (case k1 => decide); (case kj => exact rfl); (case kx => exact rfl); (case ks => with_unfolding_all rfl); k_whole)); k_steps) | (((with_reducible show wpAny _ _ (unpackItems _ _ _) _ _ _); k_dflt (refine' unpackItemsN_ ?k1 ?k2 ?k3 ?k4 ?k5 ?_; (case k1 => k_asm); (case k2 => k_asm); (case k3 => exact IsTup.keeps (by assumption) (Fr.keep (by k_asm))); (case k4 => exact rfl); (case k5 => exact rfl); k_whole); intro h' F' N'; (try k_sweep)); k_steps) | (((with_reducible show wpAny _ _ (call (Value.ref 491) _) _ _ _); k_dflt ((show wpAny _ _ (call (Value.ref 491) _) _ _ _); (refine' Con.use (past_con ?gk ?gn ?gG) ?kB ?kF ?kX ?kN ?kT ?kA ?kf ?ke ?kd ?ku ?kh ?h1 ?h2 ?h3 ?hP ?_; (case kB => k_asm); (case kF => k_asm); (case kX => k_asm); (case kN => k_asm); (case kT => k_asm); (case kA => exact rfl); (case kf => exact rfl); (case ke => exact rfl); (case kd => exact Nat.le_of_ble_eq_true rfl); (case ku => exact Nat.le_of_ble_eq_true rfl); (case kh => exact rfl); (case h1 => exact fun _ h => nomatch h); (case h2 => exact fun _ h => h); (case h3 => exact fun _ _ _ h => nomatch h)); (case gG => assumption); (case gk => first | assumption | omega); (case gn => assumption); (case hP => exact fun _ st _ => PcAt.keeps (by assumption) st); k_whole; intro z9 v9 led9 h9 tk9 hz9 F9 N9 hd9 R9; obtain ⟨t9, hv9, hl9⟩ := R9; subst hv9; subst hl9; (dsimp only [List.nil_append] at N9); (try dsimp only))); k_steps) | ((first | (k_dflt (refine' s_if0 (gl := []) (fun _ _ h => nomatch h) ?F ?X ?T ?hk ?ht ?_; (case F => k_asm); (case X => k_asm); (case T => k_asm); (case hk => rfl); (case ht => rfl); k_whole); intro tk) | (refine wpAny_If ?_)); k_steps)))
    ((with_reducible rename News _ _ _ _ => nE); refine wpost_next (⟨_, _, _, _⟩ : NxS) (by k_asm) nE (by exact fun _ h => nomatch h) (by exact (fc rfl (fc rfl (fc rfl (fc rfl fz))))) (by exact ⟨hM, pastM_nonneg hq (by (first | lia | omega)), (by (try dsimp only); (first | lia | omega))⟩) (by exact Nat.lt_succ_self _) (by exact rfl) (by exact rfl) (by exact rfl))
  | rp =>
    dsimp only [nextB, Pc.kind, Pc.val, Pc.esc] at hM hT
    by_cases hd : d + -1 < 0
    · rw [if_pos hd] at hM
      have hdd := decide_eq_true hd
      ((simp only [Option.some.injEq, Prod.mk.injEq] at hM); (obtain ⟨e1, e2, e3⟩ := hM); (subst e1 e2 e3))
      try k_fold
      (k_steps; repeat' (refine stop_out ?_; first | (((with_reducible show wpAny _ _ (subscriptTail _ _ (Value.ref _) (Value.int _ _)) _ _ _); k_dflt (refine' base_list_item ?kF ?kL ?k0 ?k1 ?kx ?_ ?ks; (case kF => k_asm); (case kL => assumption); (case k0 => first | assumption | omega); (case k1 => omega); (case kx => assumption); (case ks => with_unfolding_all rfl); k_whole)); k_steps) | (((with_reducible show wpAny _ _ (subscriptTail _ _ (Value.ref _) (Value.int _ _)) _ _ _); k_dflt (refine' base_tup_item ?kF ?kL ?k0 ?k1 ?kj ?kx ?_ ?ks; (case kF => k_asm); (case kL => assumption); (case k0 => decide); (case k1 => decide); (case kj => exact rfl); (case kx => exact rfl); (case ks => with_unfolding_all rfl); k_whole)); k_steps) | (((with_reducible show wpAny _ _ (unpackItems _ _ _) _ _ _); k_dflt (refine' unpackItemsN_ ?k1 ?k2 ?k3 ?k4 ?k5 ?_; (case k1 => k_asm); (case k2 => k_asm); (case k3 => exact IsTup.keeps (by assumption) (Fr.keep (by k_asm))); (case k4 => exact rfl); (case k5 => exact rfl); k_whole); intro h' F' N'; (try k_sweep)); k_steps) | (((with_reducible show wpAny _ _ (call (Value.ref 491) _) _ _ _); k_dflt ((show wpAny _ _ (call (Value.ref 491) _) _ _ _); (refine' Con.use (past_con ?gk ?gn ?gG) ?kB ?kF ?kX ?kN ?kT ?kA ?kf ?ke ?kd ?ku ?kh ?h1 ?h2 ?h3 ?hP ?_; (case kB => k_asm); (case kF => k_asm); (case kX => k_asm); (case kN => k_asm); (case kT => k_asm); (case kA => exact rfl); (case kf => exact rfl); (case ke => exact rfl); (case kd => exact Nat.le_of_ble_eq_true rfl); (case ku => exact Nat.le_of_ble_eq_true rfl); (case kh => exact rfl); (case h1 => exact fun _ h => nomatch h); (case h2 => exact fun _ h => h); (case h3 => exact fun _ _ _ h => nomatch h)); (case gG => assumption); (case gk => first | assumption | omega); (case gn => assumption); (case hP => exact fun _ st _ => PcAt.keeps (by assumption) st); k_whole; intro z9 v9 led9 h9 tk9 hz9 F9 N9 hd9 R9; obtain ⟨t9, hv9, hl9⟩ := R9; subst hv9; subst hl9; (dsimp only [List.nil_append] at N9); (try dsimp only))); k_steps) | ((first | (k_dflt (refine' s_if0 (gl := []) (fun _ _ h => nomatch h) ?F ?X ?T ?hk ?ht ?_; (case F => k_asm); (case X => k_asm); (case T => k_asm); (case hk => rfl); (case ht => rfl); k_whole); intro tk) | (refine wpAny_If ?_)); k_steps)))
      ((repeat (first | (with_reducible show Mine.Fw _ _ _ _; constructor) | k_unfold | (dsimp only [WPost]) | dsimp only)); refine' con_ret (led' := [(_, tupO [_, _, _])]) hret ?kF ?kN ?kz ?kr ?kg ?kd ?ko; (case kg => exact rfl); (case kd => exact rfl); (case ko => exact rfl); (case kF => with_reducible assumption); (case kz => with_reducible assumption); (case kN => (refine' cb_drop ?kn ?ks; (case kn => with_reducible assumption); (case ks => exact gm1 (by k_mem)))); (case kr => first | exact nextR_syn | exact nextR_fin))
    · rw [if_neg hd] at hM
      have hdd := decide_eq_false hd
      cases hq : pastM 3000 ps (k + 1) (d + -1) with
      | none => rw [hq] at hM; cases hM
      | some k2 =>
      rw [hq] at hM
      dsimp only at hM
      try k_fold
      (k_steps; repeat' (refine stop_out ?_; first | (((with_reducible show wpAny _ _ (subscriptTail _ _ (Value.ref _) (Value.int _ _)) _ _ _); k_dflt (refine' base_list_item ?kF ?kL ?k0 ?k1 ?kx ?_ ?ks; (case kF => k_asm); (case kL => assumption); (case k0 => first | assumption | omega); (case k1 => omega); (case kx => assumption); (case ks => with_unfolding_all rfl); k_whole)); k_steps) | (((with_reducible show wpAny _ _ (subscriptTail _ _ (Value.ref _) (Value.int _ _)) _ _ _); k_dflt (refine' base_tup_item ?kF ?kL ?k0 ?k1 ?kj ?kx ?_ ?ks; (case kF => k_asm); (case kL => assumption); (case k0 => decide); (case k1 => decide); (case kj => exact rfl); (case kx => exact rfl); (case ks => with_unfolding_all rfl); k_whole)); k_steps) | (((with_reducible show wpAny _ _ (unpackItems _ _ _) _ _ _); k_dflt (refine' unpackItemsN_ ?k1 ?k2 ?k3 ?k4 ?k5 ?_; (case k1 => k_asm); (case k2 => k_asm); (case k3 => exact IsTup.keeps (by assumption) (Fr.keep (by k_asm))); (case k4 => exact rfl); (case k5 => exact rfl); k_whole); intro h' F' N'; (try k_sweep)); k_steps) | (((with_reducible show wpAny _ _ (call (Value.ref 491) _) _ _ _); k_dflt ((show wpAny _ _ (call (Value.ref 491) _) _ _ _); (refine' Con.use (past_con ?gk ?gn ?gG) ?kB ?kF ?kX ?kN ?kT ?kA ?kf ?ke ?kd ?ku ?kh ?h1 ?h2 ?h3 ?hP ?_; (case kB => k_asm); (case kF => k_asm); (case kX => k_asm); (case kN => k_asm); (case kT => k_asm); (case kA => exact rfl); (case kf => exact rfl); (case ke => exact rfl); (case kd => exact Nat.le_of_ble_eq_true rfl); (case ku => exact Nat.le_of_ble_eq_true rfl); (case kh => exact rfl); (case h1 => exact fun _ h => nomatch h); (case h2 => exact fun _ h => h); (case h3 => exact fun _ _ _ h => nomatch h)); (case gG => assumption); (case gk => first | assumption | omega); (case gn => assumption); (case hP => exact fun _ st _ => PcAt.keeps (by assumption) st); k_whole; intro z9 v9 led9 h9 tk9 hz9 F9 N9 hd9 R9; obtain ⟨t9, hv9, hl9⟩ := R9; subst hv9; subst hl9; (dsimp only [List.nil_append] at N9); (try dsimp only))); k_steps) | ((first | (k_dflt (refine' s_if0 (gl := []) (fun _ _ h => nomatch h) ?F ?X ?T ?hk ?ht ?_; (case F => k_asm); (case X => k_asm); (case T => k_asm); (case hk => rfl); (case ht => rfl); k_whole); intro tk) | (refine wpAny_If ?_)); k_steps)))
      ((with_reducible rename News _ _ _ _ => nE); refine wpost_next (⟨_, _, _, _⟩ : NxS) (by k_asm) nE (by exact fun _ h => nomatch h) (by exact (fc rfl (fc rfl (fc rfl (fc rfl fz))))) (by exact ⟨hM, pastM_nonneg hq (by (first | lia | omega)), (by (try dsimp only); (first | lia | omega))⟩) (by exact Nat.lt_succ_self _) (by exact rfl) (by exact rfl) (by exact rfl))
  | shut =>
    dsimp only [nextB, Pc.kind, Pc.val, Pc.esc] at hM hT
    by_cases hd : d + 0 < 0
    · (first | lia | omega)
    · rw [if_neg hd] at hM
      have hdd := decide_eq_false hd
      cases hq : pastM 3000 ps (k + 1) (d + 0) with
      | none => rw [hq] at hM; cases hM
      | some k2 =>
      rw [hq] at hM
      dsimp only at hM
      try k_fold
      (k_steps; repeat' (refine stop_out ?_; first | (((with_reducible show wpAny _ _ (subscriptTail _ _ (Value.ref _) (Value.int _ _)) _ _ _); k_dflt (refine' base_list_item ?kF ?kL ?k0 ?k1 ?kx ?_ ?ks; (case kF => k_asm); (case kL => assumption); (case k0 => first | assumption | omega); (case k1 => omega); (case kx => assumption); (case ks => with_unfolding_all rfl); k_whole)); k_steps) | (((with_reducible show wpAny _ _ (subscriptTail _ _ (Value.ref _) (Value.int _ _)) _ _ _); k_dflt (refine' base_tup_item ?kF ?kL ?k0 ?k1 ?kj ?kx ?_ ?ks; (case kF => k_asm); (case kL => assumption); (case k0 => decide); (case k1 => decide); (case kj => exact rfl); (case kx => exact rfl); (case ks => with_unfolding_all rfl); k_whole)); k_steps) | (((with_reducible show wpAny _ _ (unpackItems _ _ _) _ _ _); k_dflt (refine' unpackItemsN_ ?k1 ?k2 ?k3 ?k4 ?k5 ?_; (case k1 => k_asm); (case k2 => k_asm); (case k3 => exact IsTup.keeps (by assumption) (Fr.keep (by k_asm))); (case k4 => exact rfl); (case k5 => exact rfl); k_whole); intro h' F' N'; (try k_sweep)); k_steps) | (((with_reducible show wpAny _ _ (call (Value.ref 491) _) _ _ _); k_dflt ((show wpAny _ _ (call (Value.ref 491) _) _ _ _); (refine' Con.use (past_con ?gk ?gn ?gG) ?kB ?kF ?kX ?kN ?kT ?kA ?kf ?ke ?kd ?ku ?kh ?h1 ?h2 ?h3 ?hP ?_; (case kB => k_asm); (case kF => k_asm); (case kX => k_asm); (case kN => k_asm); (case kT => k_asm); (case kA => exact rfl); (case kf => exact rfl); (case ke => exact rfl); (case kd => exact Nat.le_of_ble_eq_true rfl); (case ku => exact Nat.le_of_ble_eq_true rfl); (case kh => exact rfl); (case h1 => exact fun _ h => nomatch h); (case h2 => exact fun _ h => h); (case h3 => exact fun _ _ _ h => nomatch h)); (case gG => assumption); (case gk => first | assumption | omega); (case gn => assumption); (case hP => exact fun _ st _ => PcAt.keeps (by assumption) st); k_whole; intro z9 v9 led9 h9 tk9 hz9 F9 N9 hd9 R9; obtain ⟨t9, hv9, hl9⟩ := R9; subst hv9; subst hl9; (dsimp only [List.nil_append] at N9); (try dsimp only))); k_steps) | ((first | (k_dflt (refine' s_if0 (gl := []) (fun _ _ h => nomatch h) ?F ?X ?T ?hk ?ht ?_; (case F => k_asm); (case X => k_asm); (case T => k_asm); (case hk => rfl); (case ht => rfl); k_whole); intro tk) | (refine wpAny_If ?_)); k_steps)))
      ((with_reducible rename News _ _ _ _ => nE); refine wpost_next (⟨_, _, _, _⟩ : NxS) (by k_asm) nE (by exact fun _ h => nomatch h) (by exact (fc rfl (fc rfl (fc rfl (fc rfl fz))))) (by exact ⟨hM, pastM_nonneg hq (by (first | lia | omega)), (by (try dsimp only); (first | lia | omega))⟩) (by exact Nat.lt_succ_self _) (by exact rfl) (by exact rfl) (by exact rfl))
  | note v =>
    dsimp only [nextB, Pc.kind, Pc.val, Pc.esc] at hM hT
    cases note with
    | true =>
      simp only [if_true] at hM
      ((simp only [Option.some.injEq, Prod.mk.injEq] at hM); (obtain ⟨e1, e2, e3⟩ := hM); (subst e1 e2 e3))
      try k_fold
      (k_steps; repeat' (refine stop_out ?_; first | (((with_reducible show wpAny _ _ (subscriptTail _ _ (Value.ref _) (Value.int _ _)) _ _ _); k_dflt (refine' base_list_item ?kF ?kL ?k0 ?k1 ?kx ?_ ?ks; (case kF => k_asm); (case kL => assumption); (case k0 => first | assumption | omega); (case k1 => omega); (case kx => assumption); (case ks => with_unfolding_all rfl); k_whole)); k_steps) | (((with_reducible show wpAny _ _ (subscriptTail _ _ (Value.ref _) (Value.int _ _)) _ _ _); k_dflt (refine' base_tup_item ?kF ?kL ?k0 ?k1 ?kj ?kx ?_ ?ks; (case kF => k_asm); (case kL => assumption); (case k0 => decide); (case k1 => decide); (case kj => exact rfl); (case kx => exact rfl); (case ks => with_unfolding_all rfl); k_whole)); k_steps) | (((with_reducible show wpAny _ _ (unpackItems _ _ _) _ _ _); k_dflt (refine' unpackItemsN_ ?k1 ?k2 ?k3 ?k4 ?k5 ?_; (case k1 => k_asm); (case k2 => k_asm); (case k3 => exact IsTup.keeps (by assumption) (Fr.keep (by k_asm))); (case k4 => exact rfl); (case k5 => exact rfl); k_whole); intro h' F' N'; (try k_sweep)); k_steps) | (((with_reducible show wpAny _ _ (call (Value.ref 491) _) _ _ _); k_dflt ((show wpAny _ _ (call (Value.ref 491) _) _ _ _); (refine' Con.use (past_con ?gk ?gn ?gG) ?kB ?kF ?kX ?kN ?kT ?kA ?kf ?ke ?kd ?ku ?kh ?h1 ?h2 ?h3 ?hP ?_; (case kB => k_asm); (case kF => k_asm); (case kX => k_asm); (case kN => k_asm); (case kT => k_asm); (case kA => exact rfl); (case kf => exact rfl); (case ke => exact rfl); (case kd => exact Nat.le_of_ble_eq_true rfl); (case ku => exact Nat.le_of_ble_eq_true rfl); (case kh => exact rfl); (case h1 => exact fun _ h => nomatch h); (case h2 => exact fun _ h => h); (case h3 => exact fun _ _ _ h => nomatch h)); (case gG => assumption); (case gk => first | assumption | omega); (case gn => assumption); (case hP => exact fun _ st _ => PcAt.keeps (by assumption) st); k_whole; intro z9 v9 led9 h9 tk9 hz9 F9 N9 hd9 R9; obtain ⟨t9, hv9, hl9⟩ := R9; subst hv9; subst hl9; (dsimp only [List.nil_append] at N9); (try dsimp only))); k_steps) | ((first | (k_dflt (refine' s_if0 (gl := []) (fun _ _ h => nomatch h) ?F ?X ?T ?hk ?ht ?_; (case F => k_asm); (case X => k_asm); (case T => k_asm); (case hk => rfl); (case ht => rfl); k_whole); intro tk) | (refine wpAny_If ?_)); k_steps)))
      ((repeat (first | (with_reducible show Mine.Fw _ _ _ _; constructor) | k_unfold | (dsimp only [WPost]) | dsimp only)); refine' con_ret (led' := [(_, tupO [_, _, _]), (_, tupO [_, _, _, _])]) hret ?kF ?kN ?kz ?kr ?kg ?kd ?ko; (case kg => exact rfl); (case kd => exact rfl); (case ko => exact rfl); (case kF => with_reducible assumption); (case kz => with_reducible assumption); (case kN => (refine' cb_drop ?kn ?ks; (case kn => with_reducible assumption); (case ks => exact gm2 (by k_mem) (by k_mem)))); (case kr => exact nextR_tok (by assumption) (by first | exact ⟨_, rfl⟩ | exact ⟨0, rfl⟩)))
    | false =>
      simp only [if_false, Bool.false_eq_true] at hM
      cases hp2 : ps[(k + 1).toNat]? with
      | none => rw [hp2] at hM; cases hM
      | some p2 =>
        obtain ⟨a2, t12, t22, hr2, hT2⟩ := hall _ _ hp2
        rw [hp2] at hM
        by_cases hf : p2 = .fin
        · subst hf
          dsimp only [Pc.kind, Pc.val, Pc.esc] at hM hT2
          by_cases hd : 0 < d
          · rw [if_pos hd] at hM
            have hdd := decide_eq_true hd
            ((simp only [Option.some.injEq, Prod.mk.injEq] at hM); (obtain ⟨e1, e2, e3⟩ := hM); (subst e1 e2 e3))
            try k_fold
            (k_steps; repeat' (refine stop_out ?_; first | (((with_reducible show wpAny _ _ (subscriptTail _ _ (Value.ref _) (Value.int _ _)) _ _ _); k_dflt (refine' base_list_item ?kF ?kL ?k0 ?k1 ?kx ?_ ?ks; (case kF => k_asm); (case kL => assumption); (case k0 => first | assumption | omega); (case k1 => omega); (case kx => assumption); (case ks => with_unfolding_all rfl); k_whole)); k_steps) | (((with_reducible show wpAny _ _ (subscriptTail _ _ (Value.ref _) (Value.int _ _)) _ _ _); k_dflt (refine' base_tup_item ?kF ?kL ?k0 ?k1 ?kj ?kx ?_ ?ks; (case kF => k_asm); (case kL => assumption); (case k0 => decide); (case k1 => decide); (case kj => exact rfl); (case kx => exact rfl); (case ks => with_unfolding_all rfl); k_whole)); k_steps) | (((with_reducible show wpAny _ _ (unpackItems _ _ _) _ _ _); k_dflt (refine' unpackItemsN_ ?k1 ?k2 ?k3 ?k4 ?k5 ?_; (case k1 => k_asm); (case k2 => k_asm); (case k3 => exact IsTup.keeps (by assumption) (Fr.keep (by k_asm))); (case k4 => exact rfl); (case k5 => exact rfl); k_whole); intro h' F' N'; (try k_sweep)); k_steps) | (((with_reducible show wpAny _ _ (call (Value.ref 491) _) _ _ _); k_dflt ((show wpAny _ _ (call (Value.ref 491) _) _ _ _); (refine' Con.use (past_con ?gk ?gn ?gG) ?kB ?kF ?kX ?kN ?kT ?kA ?kf ?ke ?kd ?ku ?kh ?h1 ?h2 ?h3 ?hP ?_; (case kB => k_asm); (case kF => k_asm); (case kX => k_asm); (case kN => k_asm); (case kT => k_asm); (case kA => exact rfl); (case kf => exact rfl); (case ke => exact rfl); (case kd => exact Nat.le_of_ble_eq_true rfl); (case ku => exact Nat.le_of_ble_eq_true rfl); (case kh => exact rfl); (case h1 => exact fun _ h => nomatch h); (case h2 => exact fun _ h => h); (case h3 => exact fun _ _ _ h => nomatch h)); (case gG => assumption); (case gk => first | assumption | omega); (case gn => assumption); (case hP => exact fun _ st _ => PcAt.keeps (by assumption) st); k_whole; intro z9 v9 led9 h9 tk9 hz9 F9 N9 hd9 R9; obtain ⟨t9, hv9, hl9⟩ := R9; subst hv9; subst hl9; (dsimp only [List.nil_append] at N9); (try dsimp only))); k_steps) | ((first | (k_dflt (refine' s_if0 (gl := []) (fun _ _ h => nomatch h) ?F ?X ?T ?hk ?ht ?_; (case F => k_asm); (case X => k_asm); (case T => k_asm); (case hk => rfl); (case ht => rfl); k_whole); intro tk) | (refine wpAny_If ?_)); k_steps)))
            ((repeat (first | (with_reducible show Mine.Fw _ _ _ _; constructor) | k_unfold | (dsimp only [WPost]) | dsimp only)); refine' con_ret (led' := [(_, tupO [_, _, _])]) hret ?kF ?kN ?kz ?kr ?kg ?kd ?ko; (case kg => exact rfl); (case kd => exact rfl); (case ko => exact rfl); (case kF => with_reducible assumption); (case kz => with_reducible assumption); (case kN => (refine' cb_drop ?kn ?ks; (case kn => with_reducible assumption); (case ks => exact gm1 (by k_mem)))); (case kr => first | exact nextR_syn | exact nextR_fin))
          · rw [if_neg hd] at hM
            have hdd := decide_eq_false hd
            ((simp only [Option.some.injEq, Prod.mk.injEq] at hM); (obtain ⟨e1, e2, e3⟩ := hM); (subst e1 e2 e3))
            try k_fold
            (k_steps; repeat' (refine stop_out ?_; first | (((with_reducible show wpAny _ _ (subscriptTail _ _ (Value.ref _) (Value.int _ _)) _ _ _); k_dflt (refine' base_list_item ?kF ?kL ?k0 ?k1 ?kx ?_ ?ks; (case kF => k_asm); (case kL => assumption); (case k0 => first | assumption | omega); (case k1 => omega); (case kx => assumption); (case ks => with_unfolding_all rfl); k_whole)); k_steps) | (((with_reducible show wpAny _ _ (subscriptTail _ _ (Value.ref _) (Value.int _ _)) _ _ _); k_dflt (refine' base_tup_item ?kF ?kL ?k0 ?k1 ?kj ?kx ?_ ?ks; (case kF => k_asm); (case kL => assumption); (case k0 => decide); (case k1 => decide); (case kj => exact rfl); (case kx => exact rfl); (case ks => with_unfolding_all rfl); k_whole)); k_steps) | (((with_reducible show wpAny _ _ (unpackItems _ _ _) _ _ _); k_dflt (refine' unpackItemsN_ ?k1 ?k2 ?k3 ?k4 ?k5 ?_; (case k1 => k_asm); (case k2 => k_asm); (case k3 => exact IsTup.keeps (by assumption) (Fr.keep (by k_asm))); (case k4 => exact rfl); (case k5 => exact rfl); k_whole); intro h' F' N'; (try k_sweep)); k_steps) | (((with_reducible show wpAny _ _ (call (Value.ref 491) _) _ _ _); k_dflt ((show wpAny _ _ (call (Value.ref 491) _) _ _ _); (refine' Con.use (past_con ?gk ?gn ?gG) ?kB ?kF ?kX ?kN ?kT ?kA ?kf ?ke ?kd ?ku ?kh ?h1 ?h2 ?h3 ?hP ?_; (case kB => k_asm); (case kF => k_asm); (case kX => k_asm); (case kN => k_asm); (case kT => k_asm); (case kA => exact rfl); (case kf => exact rfl); (case ke => exact rfl); (case kd => exact Nat.le_of_ble_eq_true rfl); (case ku => exact Nat.le_of_ble_eq_true rfl); (case kh => exact rfl); (case h1 => exact fun _ h => nomatch h); (case h2 => exact fun _ h => h); (case h3 => exact fun _ _ _ h => nomatch h)); (case gG => assumption); (case gk => first | assumption | omega); (case gn => assumption); (case hP => exact fun _ st _ => PcAt.keeps (by assumption) st); k_whole; intro z9 v9 led9 h9 tk9 hz9 F9 N9 hd9 R9; obtain ⟨t9, hv9, hl9⟩ := R9; subst hv9; subst hl9; (dsimp only [List.nil_append] at N9); (try dsimp only))); k_steps) | ((first | (k_dflt (refine' s_if0 (gl := []) (fun _ _ h => nomatch h) ?F ?X ?T ?hk ?ht ?_; (case F => k_asm); (case X => k_asm); (case T => k_asm); (case hk => rfl); (case ht => rfl); k_whole); intro tk) | (refine wpAny_If ?_)); k_steps)))
            ((repeat (first | (with_reducible show Mine.Fw _ _ _ _; constructor) | k_unfold | (dsimp only [WPost]) | dsimp only)); refine' con_ret (led' := [(_, tupO [_, _, _]), (_, tupO [_, _, _, _])]) hret ?kF ?kN ?kz ?kr ?kg ?kd ?ko; (case kg => exact rfl); (case kd => exact rfl); (case ko => exact rfl); (case kF => with_reducible assumption); (case kz => with_reducible assumption); (case kN => (refine' cb_drop ?kn ?ks; (case kn => with_reducible assumption); (case ks => exact gm2 (by k_mem) (by k_mem)))); (case kr => exact nextR_tok (by assumption) (by first | exact ⟨_, rfl⟩ | exact ⟨0, rfl⟩)))
        · have hM2 : (if d = 0 then some (Res.tok 1 (Str.ofString "\n") false (some v), k + 2, d) else (match pastM 3000 ps (k + 1) d with
            | none => none
            | some k' => nextL m false ps k' d)) = some (r, k', d') := by
            cases p2 <;> first | exact hM | exact absurd rfl hf
          have hke : (p2.kind == Str.ofString "end") = false := by
            cases p2 <;> first | (exact absurd rfl hf) | (dsimp only [Pc.kind]; decide +kernel)
          clear hM
          have hM := hM2
          clear hM2
          generalize p2.kind = pk at hT2 hke
          generalize p2.val = pv at hT2
          generalize p2.esc = pe at hT2
          by_cases hd : d = 0
          · rw [if_pos hd] at hM
            have hdd := decide_eq_true hd
            ((simp only [Option.some.injEq, Prod.mk.injEq] at hM); (obtain ⟨e1, e2, e3⟩ := hM); (subst e1 e2 e3))
            try k_fold
            (k_steps; repeat' (refine stop_out ?_; first | (((with_reducible show wpAny _ _ (subscriptTail _ _ (Value.ref _) (Value.int _ _)) _ _ _); k_dflt (refine' base_list_item ?kF ?kL ?k0 ?k1 ?kx ?_ ?ks; (case kF => k_asm); (case kL => assumption); (case k0 => first | assumption | omega); (case k1 => omega); (case kx => assumption); (case ks => with_unfolding_all rfl); k_whole)); k_steps) | (((with_reducible show wpAny _ _ (subscriptTail _ _ (Value.ref _) (Value.int _ _)) _ _ _); k_dflt (refine' base_tup_item ?kF ?kL ?k0 ?k1 ?kj ?kx ?_ ?ks; (case kF => k_asm); (case kL => assumption); (case k0 => decide); (case k1 => decide); (case kj => exact rfl); (case kx => exact rfl); (case ks => with_unfolding_all rfl); k_whole)); k_steps) | (((with_reducible show wpAny _ _ (unpackItems _ _ _) _ _ _); k_dflt (refine' unpackItemsN_ ?k1 ?k2 ?k3 ?k4 ?k5 ?_; (case k1 => k_asm); (case k2 => k_asm); (case k3 => exact IsTup.keeps (by assumption) (Fr.keep (by k_asm))); (case k4 => exact rfl); (case k5 => exact rfl); k_whole); intro h' F' N'; (try k_sweep)); k_steps) | (((with_reducible show wpAny _ _ (call (Value.ref 491) _) _ _ _); k_dflt ((show wpAny _ _ (call (Value.ref 491) _) _ _ _); (refine' Con.use (past_con ?gk ?gn ?gG) ?kB ?kF ?kX ?kN ?kT ?kA ?kf ?ke ?kd ?ku ?kh ?h1 ?h2 ?h3 ?hP ?_; (case kB => k_asm); (case kF => k_asm); (case kX => k_asm); (case kN => k_asm); (case kT => k_asm); (case kA => exact rfl); (case kf => exact rfl); (case ke => exact rfl); (case kd => exact Nat.le_of_ble_eq_true rfl); (case ku => exact Nat.le_of_ble_eq_true rfl); (case kh => exact rfl); (case h1 => exact fun _ h => nomatch h); (case h2 => exact fun _ h => h); (case h3 => exact fun _ _ _ h => nomatch h)); (case gG => assumption); (case gk => first | assumption | omega); (case gn => assumption); (case hP => exact fun _ st _ => PcAt.keeps (by assumption) st); k_whole; intro z9 v9 led9 h9 tk9 hz9 F9 N9 hd9 R9; obtain ⟨t9, hv9, hl9⟩ := R9; subst hv9; subst hl9; (dsimp only [List.nil_append] at N9); (try dsimp only))); k_steps) | ((first | (k_dflt (refine' s_if0 (gl := []) (fun _ _ h => nomatch h) ?F ?X ?T ?hk ?ht ?_; (case F => k_asm); (case X => k_asm); (case T => k_asm); (case hk => rfl); (case ht => rfl); k_whole); intro tk) | (refine wpAny_If ?_)); k_steps)))
            all_goals first | (exact absurd hd (by with_reducible assumption)) | ((repeat (first | (with_reducible show Mine.Fw _ _ _ _; constructor) | k_unfold | (dsimp only [WPost]) | dsimp only)); refine' con_ret (led' := [(_, tupO [_, _, _]), (_, tupO [_, _, _, _])]) hret ?kF ?kN ?kz ?kr ?kg ?kd ?ko; (case kg => exact rfl); (case kd => exact rfl); (case ko => exact rfl); (case kF => with_reducible assumption); (case kz => with_reducible assumption); (case kN => (refine' cb_drop ?kn ?ks; (case kn => with_reducible assumption); (case ks => exact gm2 (by k_mem) (by k_mem)))); (case kr => exact nextR_tok (by assumption) (by first | exact ⟨_, rfl⟩ | exact ⟨0, rfl⟩)))
          · rw [if_neg hd] at hM
            have hdd := decide_eq_false hd
            have hd' : d ≠ 0 := hd
            cases hq : pastM 3000 ps (k + 1) (d) with
            | none => rw [hq] at hM; cases hM
            | some k2 =>
            rw [hq] at hM
            dsimp only at hM
            try k_fold
            (k_steps; repeat' (refine stop_out ?_; first | (((with_reducible show wpAny _ _ (subscriptTail _ _ (Value.ref _) (Value.int _ _)) _ _ _); k_dflt (refine' base_list_item ?kF ?kL ?k0 ?k1 ?kx ?_ ?ks; (case kF => k_asm); (case kL => assumption); (case k0 => first | assumption | omega); (case k1 => omega); (case kx => assumption); (case ks => with_unfolding_all rfl); k_whole)); k_steps) | (((with_reducible show wpAny _ _ (subscriptTail _ _ (Value.ref _) (Value.int _ _)) _ _ _); k_dflt (refine' base_tup_item ?kF ?kL ?k0 ?k1 ?kj ?kx ?_ ?ks; (case kF => k_asm); (case kL => assumption); (case k0 => decide); (case k1 => decide); (case kj => exact rfl); (case kx => exact rfl); (case ks => with_unfolding_all rfl); k_whole)); k_steps) | (((with_reducible show wpAny _ _ (unpackItems _ _ _) _ _ _); k_dflt (refine' unpackItemsN_ ?k1 ?k2 ?k3 ?k4 ?k5 ?_; (case k1 => k_asm); (case k2 => k_asm); (case k3 => exact IsTup.keeps (by assumption) (Fr.keep (by k_asm))); (case k4 => exact rfl); (case k5 => exact rfl); k_whole); intro h' F' N'; (try k_sweep)); k_steps) | (((with_reducible show wpAny _ _ (call (Value.ref 491) _) _ _ _); k_dflt ((show wpAny _ _ (call (Value.ref 491) _) _ _ _); (refine' Con.use (past_con ?gk ?gn ?gG) ?kB ?kF ?kX ?kN ?kT ?kA ?kf ?ke ?kd ?ku ?kh ?h1 ?h2 ?h3 ?hP ?_; (case kB => k_asm); (case kF => k_asm); (case kX => k_asm); (case kN => k_asm); (case kT => k_asm); (case kA => exact rfl); (case kf => exact rfl); (case ke => exact rfl); (case kd => exact Nat.le_of_ble_eq_true rfl); (case ku => exact Nat.le_of_ble_eq_true rfl); (case kh => exact rfl); (case h1 => exact fun _ h => nomatch h); (case h2 => exact fun _ h => h); (case h3 => exact fun _ _ _ h => nomatch h)); (case gG => assumption); (case gk => first | assumption | omega); (case gn => assumption); (case hP => exact fun _ st _ => PcAt.keeps (by assumption) st); k_whole; intro z9 v9 led9 h9 tk9 hz9 F9 N9 hd9 R9; obtain ⟨t9, hv9, hl9⟩ := R9; subst hv9; subst hl9; (dsimp only [List.nil_append] at N9); (try dsimp only))); k_steps) | ((first | (k_dflt (refine' s_if0 (gl := []) (fun _ _ h => nomatch h) ?F ?X ?T ?hk ?ht ?_; (case F => k_asm); (case X => k_asm); (case T => k_asm); (case hk => rfl); (case ht => rfl); k_whole); intro tk) | (refine wpAny_If ?_)); k_steps)))
            all_goals first | (exact absurd (by assumption : d = 0) hd) | ((with_reducible rename News _ _ _ _ => nE); refine wpost_next (⟨_, _, _, _⟩ : NxS) (by k_asm) nE (by exact fun _ h => nomatch h) (by exact (fc rfl (fc rfl (fc rfl (fc rfl fz))))) (by exact ⟨hM, pastM_nonneg hq (by (first | lia | omega)), (by (try dsimp only); (first | lia | omega))⟩) (by exact Nat.lt_succ_self _) (by exact rfl) (by exact rfl) (by exact rfl))
  | line c =>
    dsimp only [nextB, Pc.kind, Pc.val, Pc.esc] at hM hT
    ((simp only [Option.some.injEq, Prod.mk.injEq] at hM); (obtain ⟨e1, e2, e3⟩ := hM); (subst e1 e2 e3))
    try k_fold
    (k_steps; repeat' (refine stop_out ?_; first | (((with_reducible show wpAny _ _ (subscriptTail _ _ (Value.ref _) (Value.int _ _)) _ _ _); k_dflt (refine' base_list_item ?kF ?kL ?k0 ?k1 ?kx ?_ ?ks; (case kF => k_asm); (case kL => assumption); (case k0 => first | assumption | omega); (case k1 => omega); (case kx => assumption); (case ks => with_unfolding_all rfl); k_whole)); k_steps) | (((with_reducible show wpAny _ _ (subscriptTail _ _ (Value.ref _) (Value.int _ _)) _ _ _); k_dflt (refine' base_tup_item ?kF ?kL ?k0 ?k1 ?kj ?kx ?_ ?ks; (case kF => k_asm); (case kL => assumption); (case k0 => decide); (case k1 => decide); (case kj => exact rfl); (case kx => exact rfl); (case ks => with_unfolding_all rfl); k_whole)); k_steps) | (((with_reducible show wpAny _ _ (unpackItems _ _ _) _ _ _); k_dflt (refine' unpackItemsN_ ?k1 ?k2 ?k3 ?k4 ?k5 ?_; (case k1 => k_asm); (case k2 => k_asm); (case k3 => exact IsTup.keeps (by assumption) (Fr.keep (by k_asm))); (case k4 => exact rfl); (case k5 => exact rfl); k_whole); intro h' F' N'; (try k_sweep)); k_steps) | (((with_reducible show wpAny _ _ (call (Value.ref 491) _) _ _ _); k_dflt ((show wpAny _ _ (call (Value.ref 491) _) _ _ _); (refine' Con.use (past_con ?gk ?gn ?gG) ?kB ?kF ?kX ?kN ?kT ?kA ?kf ?ke ?kd ?ku ?kh ?h1 ?h2 ?h3 ?hP ?_; (case kB => k_asm); (case kF => k_asm); (case kX => k_asm); (case kN => k_asm); (case kT => k_asm); (case kA => exact rfl); (case kf => exact rfl); (case ke => exact rfl); (case kd => exact Nat.le_of_ble_eq_true rfl); (case ku => exact Nat.le_of_ble_eq_true rfl); (case kh => exact rfl); (case h1 => exact fun _ h => nomatch h); (case h2 => exact fun _ h => h); (case h3 => exact fun _ _ _ h => nomatch h)); (case gG => assumption); (case gk => first | assumption | omega); (case gn => assumption); (case hP => exact fun _ st _ => PcAt.keeps (by assumption) st); k_whole; intro z9 v9 led9 h9 tk9 hz9 F9 N9 hd9 R9; obtain ⟨t9, hv9, hl9⟩ := R9; subst hv9; subst hl9; (dsimp only [List.nil_append] at N9); (try dsimp only))); k_steps) | ((first | (k_dflt (refine' s_if0 (gl := []) (fun _ _ h => nomatch h) ?F ?X ?T ?hk ?ht ?_; (case F => k_asm); (case X => k_asm); (case T => k_asm); (case hk => rfl); (case ht => rfl); k_whole); intro tk) | (refine wpAny_If ?_)); k_steps)))
    ((repeat (first | (with_reducible show Mine.Fw _ _ _ _; constructor) | k_unfold | (dsimp only [WPost]) | dsimp only)); refine' con_ret (led' := [(_, tupO [_, _, _]), (_, tupO [_, _, _, _])]) hret ?kF ?kN ?kz ?kr ?kg ?kd ?ko; (case kg => exact rfl); (case kd => exact rfl); (case ko => exact rfl); (case kF => with_reducible assumption); (case kz => with_reducible assumption); (case kN => (refine' cb_drop ?kn ?ks; (case kn => with_reducible assumption); (case ks => exact gm2 (by k_mem) (by k_mem)))); (case kr => exact nextR_tok (by assumption) (by first | exact ⟨_, rfl⟩ | exact ⟨0, rfl⟩)))
  | fin =>
    dsimp only [nextB, Pc.kind, Pc.val, Pc.esc] at hM hT
    by_cases hd : 0 < d
    · rw [if_pos hd] at hM
      have hdd := decide_eq_true hd
      ((simp only [Option.some.injEq, Prod.mk.injEq] at hM); (obtain ⟨e1, e2, e3⟩ := hM); (subst e1 e2 e3))
      try k_fold
      (k_steps; repeat' (refine stop_out ?_; first | (((with_reducible show wpAny _ _ (subscriptTail _ _ (Value.ref _) (Value.int _ _)) _ _ _); k_dflt (refine' base_list_item ?kF ?kL ?k0 ?k1 ?kx ?_ ?ks; (case kF => k_asm); (case kL => assumption); (case k0 => first | assumption | omega); (case k1 => omega); (case kx => assumption); (case ks => with_unfolding_all rfl); k_whole)); k_steps) | (((with_reducible show wpAny _ _ (subscriptTail _ _ (Value.ref _) (Value.int _ _)) _ _ _); k_dflt (refine' base_tup_item ?kF ?kL ?k0 ?k1 ?kj ?kx ?_ ?ks; (case kF => k_asm); (case kL => assumption); (case k0 => decide); (case k1 => decide); (case kj => exact rfl); (case kx => exact rfl); (case ks => with_unfolding_all rfl); k_whole)); k_steps) | (((with_reducible show wpAny _ _ (unpackItems _ _ _) _ _ _); k_dflt (refine' unpackItemsN_ ?k1 ?k2 ?k3 ?k4 ?k5 ?_; (case k1 => k_asm); (case k2 => k_asm); (case k3 => exact IsTup.keeps (by assumption) (Fr.keep (by k_asm))); (case k4 => exact rfl); (case k5 => exact rfl); k_whole); intro h' F' N'; (try k_sweep)); k_steps) | (((with_reducible show wpAny _ _ (call (Value.ref 491) _) _ _ _); k_dflt ((show wpAny _ _ (call (Value.ref 491) _) _ _ _); (refine' Con.use (past_con ?gk ?gn ?gG) ?kB ?kF ?kX ?kN ?kT ?kA ?kf ?ke ?kd ?ku ?kh ?h1 ?h2 ?h3 ?hP ?_; (case kB => k_asm); (case kF => k_asm); (case kX => k_asm); (case kN => k_asm); (case kT => k_asm); (case kA => exact rfl); (case kf => exact rfl); (case ke => exact rfl); (case kd => exact Nat.le_of_ble_eq_true rfl); (case ku => exact Nat.le_of_ble_eq_true rfl); (case kh => exact rfl); (case h1 => exact fun _ h => nomatch h); (case h2 => exact fun _ h => h); (case h3 => exact fun _ _ _ h => nomatch h)); (case gG => assumption); (case gk => first | assumption | omega); (case gn => assumption); (case hP => exact fun _ st _ => PcAt.keeps (by assumption) st); k_whole; intro z9 v9 led9 h9 tk9 hz9 F9 N9 hd9 R9; obtain ⟨t9, hv9, hl9⟩ := R9; subst hv9; subst hl9; (dsimp only [List.nil_append] at N9); (try dsimp only))); k_steps) | ((first | (k_dflt (refine' s_if0 (gl := []) (fun _ _ h => nomatch h) ?F ?X ?T ?hk ?ht ?_; (case F => k_asm); (case X => k_asm); (case T => k_asm); (case hk => rfl); (case ht => rfl); k_whole); intro tk) | (refine wpAny_If ?_)); k_steps)))
      ((repeat (first | (with_reducible show Mine.Fw _ _ _ _; constructor) | k_unfold | (dsimp only [WPost]) | dsimp only)); refine' con_ret (led' := [(_, tupO [_, _, _])]) hret ?kF ?kN ?kz ?kr ?kg ?kd ?ko; (case kg => exact rfl); (case kd => exact rfl); (case ko => exact rfl); (case kF => with_reducible assumption); (case kz => with_reducible assumption); (case kN => (refine' cb_drop ?kn ?ks; (case kn => with_reducible assumption); (case ks => exact gm1 (by k_mem)))); (case kr => first | exact nextR_syn | exact nextR_fin))
    · rw [if_neg hd] at hM
      have hdd := decide_eq_false hd
      ((simp only [Option.some.injEq, Prod.mk.injEq] at hM); (obtain ⟨e1, e2, e3⟩ := hM); (subst e1 e2 e3))
      try k_fold
      (k_steps; repeat' (refine stop_out ?_; first | (((with_reducible show wpAny _ _ (subscriptTail _ _ (Value.ref _) (Value.int _ _)) _ _ _); k_dflt (refine' base_list_item ?kF ?kL ?k0 ?k1 ?kx ?_ ?ks; (case kF => k_asm); (case kL => assumption); (case k0 => first | assumption | omega); (case k1 => omega); (case kx => assumption); (case ks => with_unfolding_all rfl); k_whole)); k_steps) | (((with_reducible show wpAny _ _ (subscriptTail _ _ (Value.ref _) (Value.int _ _)) _ _ _); k_dflt (refine' base_tup_item ?kF ?kL ?k0 ?k1 ?kj ?kx ?_ ?ks; (case kF => k_asm); (case kL => assumption); (case k0 => decide); (case k1 => decide); (case kj => exact rfl); (case kx => exact rfl); (case ks => with_unfolding_all rfl); k_whole)); k_steps) | (((with_reducible show wpAny _ _ (unpackItems _ _ _) _ _ _); k_dflt (refine' unpackItemsN_ ?k1 ?k2 ?k3 ?k4 ?k5 ?_; (case k1 => k_asm); (case k2 => k_asm); (case k3 => exact IsTup.keeps (by assumption) (Fr.keep (by k_asm))); (case k4 => exact rfl); (case k5 => exact rfl); k_whole); intro h' F' N'; (try k_sweep)); k_steps) | (((with_reducible show wpAny _ _ (call (Value.ref 491) _) _ _ _); k_dflt ((show wpAny _ _ (call (Value.ref 491) _) _ _ _); (refine' Con.use (past_con ?gk ?gn ?gG) ?kB ?kF ?kX ?kN ?kT ?kA ?kf ?ke ?kd ?ku ?kh ?h1 ?h2 ?h3 ?hP ?_; (case kB => k_asm); (case kF => k_asm); (case kX => k_asm); (case kN => k_asm); (case kT => k_asm); (case kA => exact rfl); (case kf => exact rfl); (case ke => exact rfl); (case kd => exact Nat.le_of_ble_eq_true rfl); (case ku => exact Nat.le_of_ble_eq_true rfl); (case kh => exact rfl); (case h1 => exact fun _ h => nomatch h); (case h2 => exact fun _ h => h); (case h3 => exact fun _ _ _ h => nomatch h)); (case gG => assumption); (case gk => first | assumption | omega); (case gn => assumption); (case hP => exact fun _ st _ => PcAt.keeps (by assumption) st); k_whole; intro z9 v9 led9 h9 tk9 hz9 F9 N9 hd9 R9; obtain ⟨t9, hv9, hl9⟩ := R9; subst hv9; subst hl9; (dsimp only [List.nil_append] at N9); (try dsimp only))); k_steps) | ((first | (k_dflt (refine' s_if0 (gl := []) (fun _ _ h => nomatch h) ?F ?X ?T ?hk ?ht ?_; (case F => k_asm); (case X => k_asm); (case T => k_asm); (case hk => rfl); (case ht => rfl); k_whole); intro tk) | (refine wpAny_If ?_)); k_steps)))
      ((repeat (first | (with_reducible show Mine.Fw _ _ _ _; constructor) | k_unfold | (dsimp only [WPost]) | dsimp only)); refine' con_ret (led' := [(_, tupO [_, _, _]), (_, tupO [_, _, _, _])]) hret ?kF ?kN ?kz ?kr ?kg ?kd ?ko; (case kg => exact rfl); (case kd => exact rfl); (case ko => exact rfl); (case kF => with_reducible assumption); (case kz => with_reducible assumption); (case kN => (refine' cb_drop ?kn ?ks; (case kn => with_reducible assumption); (case ks => exact gm2 (by k_mem) (by k_mem)))); (case kr => exact nextR_tok (by assumption) (by first | exact ⟨_, rfl⟩ | exact ⟨0, rfl⟩)))
  | wrongNl =>
    dsimp only [nextB, Pc.kind, Pc.val, Pc.esc] at hM hT
    ((simp only [Option.some.injEq, Prod.mk.injEq] at hM); (obtain ⟨e1, e2, e3⟩ := hM); (subst e1 e2 e3))
    try k_fold
    (k_steps; repeat' (refine stop_out ?_; first | (((with_reducible show wpAny _ _ (subscriptTail _ _ (Value.ref _) (Value.int _ _)) _ _ _); k_dflt (refine' base_list_item ?kF ?kL ?k0 ?k1 ?kx ?_ ?ks; (case kF => k_asm); (case kL => assumption); (case k0 => first | assumption | omega); (case k1 => omega); (case kx => assumption); (case ks => with_unfolding_all rfl); k_whole)); k_steps) | (((with_reducible show wpAny _ _ (subscriptTail _ _ (Value.ref _) (Value.int _ _)) _ _ _); k_dflt (refine' base_tup_item ?kF ?kL ?k0 ?k1 ?kj ?kx ?_ ?ks; (case kF => k_asm); (case kL => assumption); (case k0 => decide); (case k1 => decide); (case kj => exact rfl); (case kx => exact rfl); (case ks => with_unfolding_all rfl); k_whole)); k_steps) | (((with_reducible show wpAny _ _ (unpackItems _ _ _) _ _ _); k_dflt (refine' unpackItemsN_ ?k1 ?k2 ?k3 ?k4 ?k5 ?_; (case k1 => k_asm); (case k2 => k_asm); (case k3 => exact IsTup.keeps (by assumption) (Fr.keep (by k_asm))); (case k4 => exact rfl); (case k5 => exact rfl); k_whole); intro h' F' N'; (try k_sweep)); k_steps) | (((with_reducible show wpAny _ _ (call (Value.ref 491) _) _ _ _); k_dflt ((show wpAny _ _ (call (Value.ref 491) _) _ _ _); (refine' Con.use (past_con ?gk ?gn ?gG) ?kB ?kF ?kX ?kN ?kT ?kA ?kf ?ke ?kd ?ku ?kh ?h1 ?h2 ?h3 ?hP ?_; (case kB => k_asm); (case kF => k_asm); (case kX => k_asm); (case kN => k_asm); (case kT => k_asm); (case kA => exact rfl); (case kf => exact rfl); (case ke => exact rfl); (case kd => exact Nat.le_of_ble_eq_true rfl); (case ku => exact Nat.le_of_ble_eq_true rfl); (case kh => exact rfl); (case h1 => exact fun _ h => nomatch h); (case h2 => exact fun _ h => h); (case h3 => exact fun _ _ _ h => nomatch h)); (case gG => assumption); (case gk => first | assumption | omega); (case gn => assumption); (case hP => exact fun _ st _ => PcAt.keeps (by assumption) st); k_whole; intro z9 v9 led9 h9 tk9 hz9 F9 N9 hd9 R9; obtain ⟨t9, hv9, hl9⟩ := R9; subst hv9; subst hl9; (dsimp only [List.nil_append] at N9); (try dsimp only))); k_steps) | ((first | (k_dflt (refine' s_if0 (gl := []) (fun _ _ h => nomatch h) ?F ?X ?T ?hk ?ht ?_; (case F => k_asm); (case X => k_asm); (case T => k_asm); (case hk => rfl); (case ht => rfl); k_whole); intro tk) | (refine wpAny_If ?_)); k_steps)))
    ((repeat (first | (with_reducible show Mine.Fw _ _ _ _; constructor) | k_unfold | (dsimp only [WPost]) | dsimp only)); refine' con_ret (led' := [(_, tupO [_, _, _])]) hret ?kF ?kN ?kz ?kr ?kg ?kd ?ko; (case kg => exact rfl); (case kd => exact rfl); (case ko => exact rfl); (case kF => with_reducible assumption); (case kz => with_reducible assumption); (case kN => (refine' cb_drop ?kn ?ks; (case kn => with_reducible assumption); (case ks => exact gm1 (by k_mem)))); (case kr => first | exact nextR_syn | exact nextR_fin))
  | wrongEnd =>
    dsimp only [nextB, Pc.kind, Pc.val, Pc.esc] at hM hT
    ((simp only [Option.some.injEq, Prod.mk.injEq] at hM); (obtain ⟨e1, e2, e3⟩ := hM); (subst e1 e2 e3))
    try k_fold
    (k_steps; repeat' (refine stop_out ?_; first | (((with_reducible show wpAny _ _ (subscriptTail _ _ (Value.ref _) (Value.int _ _)) _ _ _); k_dflt (refine' base_list_item ?kF ?kL ?k0 ?k1 ?kx ?_ ?ks; (case kF => k_asm); (case kL => assumption); (case k0 => first | assumption | omega); (case k1 => omega); (case kx => assumption); (case ks => with_unfolding_all rfl); k_whole)); k_steps) | (((with_reducible show wpAny _ _ (subscriptTail _ _ (Value.ref _) (Value.int _ _)) _ _ _); k_dflt (refine' base_tup_item ?kF ?kL ?k0 ?k1 ?kj ?kx ?_ ?ks; (case kF => k_asm); (case kL => assumption); (case k0 => decide); (case k1 => decide); (case kj => exact rfl); (case kx => exact rfl); (case ks => with_unfolding_all rfl); k_whole)); k_steps) | (((with_reducible show wpAny _ _ (unpackItems _ _ _) _ _ _); k_dflt (refine' unpackItemsN_ ?k1 ?k2 ?k3 ?k4 ?k5 ?_; (case k1 => k_asm); (case k2 => k_asm); (case k3 => exact IsTup.keeps (by assumption) (Fr.keep (by k_asm))); (case k4 => exact rfl); (case k5 => exact rfl); k_whole); intro h' F' N'; (try k_sweep)); k_steps) | (((with_reducible show wpAny _ _ (call (Value.ref 491) _) _ _ _); k_dflt ((show wpAny _ _ (call (Value.ref 491) _) _ _ _); (refine' Con.use (past_con ?gk ?gn ?gG) ?kB ?kF ?kX ?kN ?kT ?kA ?kf ?ke ?kd ?ku ?kh ?h1 ?h2 ?h3 ?hP ?_; (case kB => k_asm); (case kF => k_asm); (case kX => k_asm); (case kN => k_asm); (case kT => k_asm); (case kA => exact rfl); (case kf => exact rfl); (case ke => exact rfl); (case kd => exact Nat.le_of_ble_eq_true rfl); (case ku => exact Nat.le_of_ble_eq_true rfl); (case kh => exact rfl); (case h1 => exact fun _ h => nomatch h); (case h2 => exact fun _ h => h); (case h3 => exact fun _ _ _ h => nomatch h)); (case gG => assumption); (case gk => first | assumption | omega); (case gn => assumption); (case hP => exact fun _ st _ => PcAt.keeps (by assumption) st); k_whole; intro z9 v9 led9 h9 tk9 hz9 F9 N9 hd9 R9; obtain ⟨t9, hv9, hl9⟩ := R9; subst hv9; subst hl9; (dsimp only [List.nil_append] at N9); (try dsimp only))); k_steps) | ((first | (k_dflt (refine' s_if0 (gl := []) (fun _ _ h => nomatch h) ?F ?X ?T ?hk ?ht ?_; (case F => k_asm); (case X => k_asm); (case T => k_asm); (case hk => rfl); (case ht => rfl); k_whole); intro tk) | (refine wpAny_If ?_)); k_steps)))
    ((repeat (first | (with_reducible show Mine.Fw _ _ _ _; constructor) | k_unfold | (dsimp only [WPost]) | dsimp only)); refine' con_ret (led' := [(_, tupO [_, _, _])]) hret ?kF ?kN ?kz ?kr ?kg ?kd ?ko; (case kg => exact rfl); (case kd => exact rfl); (case ko => exact rfl); (case kF => with_reducible assumption); (case kz => with_reducible assumption); (case kN => (refine' cb_drop ?kn ?ks; (case kn => with_reducible assumption); (case ks => exact gm1 (by k_mem)))); (case kr => first | exact nextR_syn | exact nextR_fin))
  | word v e =>
    dsimp only [nextB, Pc.kind, Pc.val, Pc.esc] at hM hT
    ((simp only [Option.some.injEq, Prod.mk.injEq] at hM); (obtain ⟨e1, e2, e3⟩ := hM); (subst e1 e2 e3))
    try k_fold
    (k_steps; repeat' (refine stop_out ?_; first | (((with_reducible show wpAny _ _ (subscriptTail _ _ (Value.ref _) (Value.int _ _)) _ _ _); k_dflt (refine' base_list_item ?kF ?kL ?k0 ?k1 ?kx ?_ ?ks; (case kF => k_asm); (case kL => assumption); (case k0 => first | assumption | omega); (case k1 => omega); (case kx => assumption); (case ks => with_unfolding_all rfl); k_whole)); k_steps) | (((with_reducible show wpAny _ _ (subscriptTail _ _ (Value.ref _) (Value.int _ _)) _ _ _); k_dflt (refine' base_tup_item ?kF ?kL ?k0 ?k1 ?kj ?kx ?_ ?ks; (case kF => k_asm); (case kL => assumption); (case k0 => decide); (case k1 => decide); (case kj => exact rfl); (case kx => exact rfl); (case ks => with_unfolding_all rfl); k_whole)); k_steps) | (((with_reducible show wpAny _ _ (unpackItems _ _ _) _ _ _); k_dflt (refine' unpackItemsN_ ?k1 ?k2 ?k3 ?k4 ?k5 ?_; (case k1 => k_asm); (case k2 => k_asm); (case k3 => exact IsTup.keeps (by assumption) (Fr.keep (by k_asm))); (case k4 => exact rfl); (case k5 => exact rfl); k_whole); intro h' F' N'; (try k_sweep)); k_steps) | (((with_reducible show wpAny _ _ (call (Value.ref 491) _) _ _ _); k_dflt ((show wpAny _ _ (call (Value.ref 491) _) _ _ _); (refine' Con.use (past_con ?gk ?gn ?gG) ?kB ?kF ?kX ?kN ?kT ?kA ?kf ?ke ?kd ?ku ?kh ?h1 ?h2 ?h3 ?hP ?_; (case kB => k_asm); (case kF => k_asm); (case kX => k_asm); (case kN => k_asm); (case kT => k_asm); (case kA => exact rfl); (case kf => exact rfl); (case ke => exact rfl); (case kd => exact Nat.le_of_ble_eq_true rfl); (case ku => exact Nat.le_of_ble_eq_true rfl); (case kh => exact rfl); (case h1 => exact fun _ h => nomatch h); (case h2 => exact fun _ h => h); (case h3 => exact fun _ _ _ h => nomatch h)); (case gG => assumption); (case gk => first | assumption | omega); (case gn => assumption); (case hP => exact fun _ st _ => PcAt.keeps (by assumption) st); k_whole; intro z9 v9 led9 h9 tk9 hz9 F9 N9 hd9 R9; obtain ⟨t9, hv9, hl9⟩ := R9; subst hv9; subst hl9; (dsimp only [List.nil_append] at N9); (try dsimp only))); k_steps) | ((first | (k_dflt (refine' s_if0 (gl := []) (fun _ _ h => nomatch h) ?F ?X ?T ?hk ?ht ?_; (case F => k_asm); (case X => k_asm); (case T => k_asm); (case hk => rfl); (case ht => rfl); k_whole); intro tk) | (refine wpAny_If ?_)); k_steps)))
    ((repeat (first | (with_reducible show Mine.Fw _ _ _ _; constructor) | k_unfold | (dsimp only [WPost]) | dsimp only)); refine' con_ret (led' := [(_, tupO [_, _, _]), (_, tupO [_, _, _, _])]) hret ?kF ?kN ?kz ?kr ?kg ?kd ?ko; (case kg => exact rfl); (case kd => exact rfl); (case ko => exact rfl); (case kF => with_reducible assumption); (case kz => with_reducible assumption); (case kN => (refine' cb_drop ?kn ?ks; (case kn => with_reducible assumption); (case ks => exact gm2 (by k_mem) (by k_mem)))); (case kr => exact nextR_tok (by assumption) (by first | exact ⟨_, rfl⟩ | exact ⟨0, rfl⟩)))
  | str v e =>
    dsimp only [nextB, Pc.kind, Pc.val, Pc.esc] at hM hT
    ((simp only [Option.some.injEq, Prod.mk.injEq] at hM); (obtain ⟨e1, e2, e3⟩ := hM); (subst e1 e2 e3))
    try k_fold
    (k_steps; repeat' (refine stop_out ?_; first | (((with_reducible show wpAny _ _ (subscriptTail _ _ (Value.ref _) (Value.int _ _)) _ _ _); k_dflt (refine' base_list_item ?kF ?kL ?k0 ?k1 ?kx ?_ ?ks; (case kF => k_asm); (case kL => assumption); (case k0 => first | assumption | omega); (case k1 => omega); (case kx => assumption); (case ks => with_unfolding_all rfl); k_whole)); k_steps) | (((with_reducible show wpAny _ _ (subscriptTail _ _ (Value.ref _) (Value.int _ _)) _ _ _); k_dflt (refine' base_tup_item ?kF ?kL ?k0 ?k1 ?kj ?kx ?_ ?ks; (case kF => k_asm); (case kL => assumption); (case k0 => decide); (case k1 => decide); (case kj => exact rfl); (case kx => exact rfl); (case ks => with_unfolding_all rfl); k_whole)); k_steps) | (((with_reducible show wpAny _ _ (unpackItems _ _ _) _ _ _); k_dflt (refine' unpackItemsN_ ?k1 ?k2 ?k3 ?k4 ?k5 ?_; (case k1 => k_asm); (case k2 => k_asm); (case k3 => exact IsTup.keeps (by assumption) (Fr.keep (by k_asm))); (case k4 => exact rfl); (case k5 => exact rfl); k_whole); intro h' F' N'; (try k_sweep)); k_steps) | (((with_reducible show wpAny _ _ (call (Value.ref 491) _) _ _ _); k_dflt ((show wpAny _ _ (call (Value.ref 491) _) _ _ _); (refine' Con.use (past_con ?gk ?gn ?gG) ?kB ?kF ?kX ?kN ?kT ?kA ?kf ?ke ?kd ?ku ?kh ?h1 ?h2 ?h3 ?hP ?_; (case kB => k_asm); (case kF => k_asm); (case kX => k_asm); (case kN => k_asm); (case kT => k_asm); (case kA => exact rfl); (case kf => exact rfl); (case ke => exact rfl); (case kd => exact Nat.le_of_ble_eq_true rfl); (case ku => exact Nat.le_of_ble_eq_true rfl); (case kh => exact rfl); (case h1 => exact fun _ h => nomatch h); (case h2 => exact fun _ h => h); (case h3 => exact fun _ _ _ h => nomatch h)); (case gG => assumption); (case gk => first | assumption | omega); (case gn => assumption); (case hP => exact fun _ st _ => PcAt.keeps (by assumption) st); k_whole; intro z9 v9 led9 h9 tk9 hz9 F9 N9 hd9 R9; obtain ⟨t9, hv9, hl9⟩ := R9; subst hv9; subst hl9; (dsimp only [List.nil_append] at N9); (try dsimp only))); k_steps) | ((first | (k_dflt (refine' s_if0 (gl := []) (fun _ _ h => nomatch h) ?F ?X ?T ?hk ?ht ?_; (case F => k_asm); (case X => k_asm); (case T => k_asm); (case hk => rfl); (case ht => rfl); k_whole); intro tk) | (refine wpAny_If ?_)); k_steps)))
    ((repeat (first | (with_reducible show Mine.Fw _ _ _ _; constructor) | k_unfold | (dsimp only [WPost]) | dsimp only)); refine' con_ret (led' := [(_, tupO [_, _, _]), (_, tupO [_, _, _, _])]) hret ?kF ?kN ?kz ?kr ?kg ?kd ?ko; (case kg => exact rfl); (case kd => exact rfl); (case ko => exact rfl); (case kF => with_reducible assumption); (case kz => with_reducible assumption); (case kN => (refine' cb_drop ?kn ?ks; (case kn => with_reducible assumption); (case ks => exact gm2 (by k_mem) (by k_mem)))); (case kr => exact nextR_tok (by assumption) (by first | exact ⟨_, rfl⟩ | exact ⟨0, rfl⟩)))
  | space c =>
    cases hM
theorem over (v : VV) : PP v := by
  with_unfolding_all exact bad_all (hn := NN) (P := PP) core v
end turn
theorem core : SS w mean mg mb l ps k d tk td lead outer base g s Q E := core_S.h (fun k' d' note r hp8 tk8 k tk d td u h tkk m p refs a t1 t2 => turn.over (hp8, tk8, k, tk, d, td, u, h, tkk, m, refs, a, t1, t2) k' d' note r p)
theorem over (v : VV) : PP v := by
  with_unfolding_all exact bad_all (hn := NN) (P := PP) core v
end next_con_
theorem next_con {w : World} {mean : ExcName → Option Value} {mg mb : Str → Option Value} {l : Addr} {ps : List Pc} {k d k' d' : Int} {tk td : Tok} {lead note : Bool} {r : Res}
   (hk : 0 ≤ k) (h0 : 0 ≤ d) (hn : ps.length ≤ 6000) (hG : nextM lead note ps k d = some (r, k', d')) :
    Con w mean mg mb 500 (.ref 498) [.ref l, .int k tk, .int d td, .bool lead, .bool note] [] (PcAt l ps)
      (NextR r k' d') := fun outer base g s Q E => next_con_.over (w, mean, mg, mb, l, ps, k, d, tk, td, lead, outer, base, g, s, Q, E) k' d' note r hk h0 hn hG
end
end Mine
end

section
local macro_rules | `(tactic| walk_at $_) => Lean.Macro.throwUnsupported
local macro_rules | `(tactic| walk_at $_) => Lean.Macro.throwUnsupported
open PySem PySem.W PySem.Calls PyProof.Rows
set_option genInjectivity false
set_option genSizeOf false
namespace Mine
set_option maxHeartbeats 8000000 in
theorem fill11 : PySem.Challenge.rw_jf0021_01 = PySem.Challenge.rw_jf0021_01 ∧ Mine.hd.heap_1 = Mine.hd.heap_1 := by
  k_fill
  exact ⟨rfl, rfl⟩

/-- what get hands back -/
noncomputable def GetR (w : World) (T D FA FD : Addr) (k0 k1 k2 k3 k4 k5 k6 k7 k8 k9 f0 f1 : Tok) (fn : Value) (res : Res) (σ' : TS) : Nat → Value → List (Addr × Obj) → Prop := fun _ v led' =>
  match res with
  | .fin => False
  | .syn => False
  | .tok ty vv esc cm => ∃ (X DX : Nat) (tuc tml tln ttx tat t0 t1 t2 t3 tty tv tcm : Tok), v = .ref X ∧
      led' = (X, instObj 209 DX) :: (DX, tokenO w t0 t1 t2 t3 ty tty vv tv esc (vUC cm tcm)) ::
        tokLed w T D FA FD k0 k1 k2 k3 k4 k5 k6 k7 k8 k9 f0 f1 (vUC σ'.uc tuc) .none (.int σ'.ml tml) σ'.q σ'.e σ'.a (.ref (cond σ'.q 60 59)) (.int σ'.ln tln) fn (.str σ'.tx ttx) (.int σ'.k tat) ∧
      ((T : Nat) < DX ∧ (D : Nat) < DX ∧ (FA : Nat) < DX ∧ (FD : Nat) < DX) ∧ DX < X
/-- what get raises -/
noncomputable def GetX (res : Res) : Addr → Prop := fun C => match res with | .syn => C = 44 | .fin => C = 56 | .tok .. => False

/-- a token put back -/
structure PutS where
  X : Nat
  DX : Nat
  t0 : Tok
  t1 : Tok
  t2 : Tok
  t3 : Tok
  tty : Tok
  tv : Tok
  tcm : Tok
  ty : Int
  vv : Str
  esc : Bool
  cm : Option Str
noncomputable def putLed (w : World) : Option PutS → List (Addr × Obj)
  | none => []
  | some p => [(p.X, instObj 209 p.DX), (p.DX, tokenO w p.t0 p.t1 p.t2 p.t3 p.ty p.tty p.vv p.tv p.esc (vUC p.cm p.tcm))]
noncomputable def putV : Option PutS → Value
  | none => .none
  | some p => .ref p.X
noncomputable def Drops (FA : Nat) (lead note : Bool) : Option PutS → Prop
  | none => True
  | some p => FA < p.DX ∧ p.DX < p.X ∧ (p.ty = 2 ∧ lead = false ∨ p.ty = 5 ∧ note = false)
structure GtS where
  uc : Option Str
  tuc : Tok
  k : Int
  q : Bool
  e : Bool
  a : Bool
  ml : Int
  tml : Tok
  n : Int
  tln : Tok
  tat : Tok
  tk : Str
  ttk : Tok
  ty : Int
  tty : Tok
  esc : Bool
structure NtS where
  k : Int
  e : Bool
  a : Bool
  n : Int
  tln : Tok
  tat : Tok
  tk : Str
  ttk : Tok


section
variable {w : World} {T D FA FD : Nat} {k0 k1 k2 k3 k4 k5 k6 k7 k8 k9 f0 f1 : Tok} {fn : Value} {res : Res} {σ' σ2 : TS}
theorem tokOrd {uc ut ml : Value} {q e a : Bool} {dl ln tx at_ : Value} {d : Nat} (l : ∀ p ∈ tokLed w T D FA FD k0 k1 k2 k3 k4 k5 k6 k7 k8 k9 f0 f1 uc ut ml q e a dl ln fn tx at_, p.1 < d) : (T : Nat) < d ∧ (D : Nat) < d ∧ (FA : Nat) < d ∧ (FD : Nat) < d :=
  ⟨l _ (.head _), l _ (.tail _ (.head _)), l _ (.tail _ (.tail _ (.head _))), l _ (.tail _ (.tail _ (.tail _ (.head _))))⟩
theorem getR_tok {ty : Int} {vv : Str} {esc : Bool} {cm : Option Str} {X DX : Nat} {t0 t1 t2 t3 tty tv tml tln ttx tat : Tok} {ucV cmV : Value} {z : Nat} (hR : (res, σ') = (Res.tok ty vv esc cm, σ2)) (h1 : (T : Nat) < DX ∧ (D : Nat) < DX ∧ (FA : Nat) < DX ∧ (FD : Nat) < DX) (h2 : DX < X)
    (hu : ∃ t, ucV = vUC σ2.uc t) (hc : ∃ t, cmV = vUC cm t) :
    GetR w T D FA FD k0 k1 k2 k3 k4 k5 k6 k7 k8 k9 f0 f1 fn res σ' z (.ref X) ((X, instObj 209 DX) :: (DX, tokenO w t0 t1 t2 t3 ty tty vv tv esc cmV) ::
      tokLed w T D FA FD k0 k1 k2 k3 k4 k5 k6 k7 k8 k9 f0 f1 ucV .none (.int σ2.ml tml) σ2.q σ2.e σ2.a (.ref (cond σ2.q 60 59)) (.int σ2.ln tln) fn (.str σ2.tx ttx) (.int σ2.k tat)) := by
  cases hR
  obtain ⟨tu, rfl⟩ := hu
  obtain ⟨tc, rfl⟩ := hc
  exact ⟨X, DX, tu, tml, tln, ttx, tat, t0, t1, t2, t3, tty, tv, tc, rfl, rfl, h1, h2⟩
theorem getX_fin (hR : (res, σ') = (Res.fin, σ2)) : GetX res 56 := by cases hR; rfl
theorem getX_syn (hR : (res, σ') = (Res.syn, σ2)) : GetX res 44 := by cases hR; rfl
end
section
theorem stop_ref {M : Model} {A : Around} {f : Addr} {x : List Value} {y : List (Str × Value)} {Q E : Value → Shared → Prop} {s : Shared} (hf : [235, 256, 249, 209].contains f = true) (h : Stop (wpAny M A (call (.ref f) x y) Q E s)) : wpAny M A (call (.ref f) x y) Q E s := h
theorem stop_raise {M : Model} {A : Around} {env : Env} {Q : Flow → Shared → Prop} {E : Value → Shared → Prop} {s : Shared} {x : Str} {p q : Pos} (h : Stop (wpAny M A (exec (.Raise (some (.Name x p)) none q) env) Q E s)) : wpAny M A (exec (.Raise (some (.Name x p)) none q) env) Q E s := h
local macro_rules | `(tactic| walk_at "call ref") => `(tactic| refine stop_ref rfl ?_)
local macro_rules | `(tactic| walk_at "exec Raise some none") => `(tactic| refine stop_raise ?_)
local macro_rules | `(tactic| walk_at $k) => if ["exec If", "ite"].contains k.getString then `(tactic| refine Mine.stop_of ?_) else Lean.Macro.throwUnsupported
namespace get_con2_
noncomputable abbrev VV := (World) × (ExcName → Option Value) × (Str → Option Value) × (Str → Option Value) × (Nat) × (Nat) × (Nat) × (Nat) × (Tok) × (Tok) × (Tok) × (Tok) × (Tok) × (Tok) × (Tok) × (Tok) × (Tok) × (Tok) × (Tok) × (Tok) × (Option Str) × (Tok) × (Bool) × (Bool) × (Bool) × (Value) × (Tok) × (Tok) × (Tok) × (Tok) × (Int) × (Int) × (Str) × (Int) × (Res) × (TS) × (List Env) × (Heap) × (Heap) × (Shared) × (Value → Shared → Prop) × (Value → Shared → Prop)
noncomputable def SS (w : World) (mean : ExcName → Option Value) (mg : Str → Option Value) (mb : Str → Option Value) (T : Nat) (D : Nat) (FA : Nat) (FD : Nat) (k0 : Tok) (k1 : Tok) (k2 : Tok) (k3 : Tok) (k4 : Tok) (k5 : Tok) (k6 : Tok) (k7 : Tok) (k8 : Tok) (k9 : Tok) (f0 : Tok) (f1 : Tok) (uc : Option Str) (tuc : Tok) (q : Bool) (e : Bool) (a : Bool) (fn : Value) (tml : Tok) (tln : Tok) (ttx : Tok) (tat : Tok) (ml : Int) (n : Int) (tx : Str) (k : Int) (res : Res) (σ' : TS) (outer : List Env) (base : Heap) (g : Heap) (s : Shared) (Q : Value → Shared → Prop) (E : Value → Shared → Prop) : Prop := ∀ (lead : Bool), ∀ (note : Bool), ∀ (pt : Option PutS), (D < T) → (T < FD) → (FD < FA) → (Ok ⟨tx, k, uc, q, e, a, ml, n⟩) → (Drops FA lead note pt) → (getT lead note ⟨tx, k, uc, q, e, a, ml, n⟩ = some (res, σ')) → ConE1 w mean mg mb 500 (.ref 264) [.ref T, .bool lead, .bool note] (putLed w pt ++ tokLed w T D FA FD k0 k1 k2 k3 k4 k5 k6 k7 k8 k9 f0 f1 (vUC uc tuc) (putV pt) (.int ml tml) q e a (.ref (cond q 60 59)) (.int n tln) fn (.str tx ttx) (.int k tat))
      (GetR w T D FA FD k0 k1 k2 k3 k4 k5 k6 k7 k8 k9 f0 f1 fn res σ') (GetX res) outer base g s Q E
noncomputable def PP (v : VV) : Prop := SS v.1 v.2.1 v.2.2.1 v.2.2.2.1 v.2.2.2.2.1 v.2.2.2.2.2.1 v.2.2.2.2.2.2.1 v.2.2.2.2.2.2.2.1 v.2.2.2.2.2.2.2.2.1 v.2.2.2.2.2.2.2.2.2.1 v.2.2.2.2.2.2.2.2.2.2.1 v.2.2.2.2.2.2.2.2.2.2.2.1 v.2.2.2.2.2.2.2.2.2.2.2.2.1 v.2.2.2.2.2.2.2.2.2.2.2.2.2.1 v.2.2.2.2.2.2.2.2.2.2.2.2.2.2.1 v.2.2.2.2.2.2.2.2.2.2.2.2.2.2.2.1 v.2.2.2.2.2.2.2.2.2.2.2.2.2.2.2.2.1 v.2.2.2.2.2.2.2.2.2.2.2.2.2.2.2.2.2.1 v.2.2.2.2.2.2.2.2.2.2.2.2.2.2.2.2.2.2.1 v.2.2.2.2.2.2.2.2.2.2.2.2.2.2.2.2.2.2.2.1 v.2.2.2.2.2.2.2.2.2.2.2.2.2.2.2.2.2.2.2.2.1 v.2.2.2.2.2.2.2.2.2.2.2.2.2.2.2.2.2.2.2.2.2.1 v.2.2.2.2.2.2.2.2.2.2.2.2.2.2.2.2.2.2.2.2.2.2.1 v.2.2.2.2.2.2.2.2.2.2.2.2.2.2.2.2.2.2.2.2.2.2.2.1 v.2.2.2.2.2.2.2.2.2.2.2.2.2.2.2.2.2.2.2.2.2.2.2.2.1 v.2.2.2.2.2.2.2.2.2.2.2.2.2.2.2.2.2.2.2.2.2.2.2.2.2.1 v.2.2.2.2.2.2.2.2.2.2.2.2.2.2.2.2.2.2.2.2.2.2.2.2.2.2.1 v.2.2.2.2.2.2.2.2.2.2.2.2.2.2.2.2.2.2.2.2.2.2.2.2.2.2.2.1 v.2.2.2.2.2.2.2.2.2.2.2.2.2.2.2.2.2.2.2.2.2.2.2.2.2.2.2.2.1 v.2.2.2.2.2.2.2.2.2.2.2.2.2.2.2.2.2.2.2.2.2.2.2.2.2.2.2.2.2.1 v.2.2.2.2.2.2.2.2.2.2.2.2.2.2.2.2.2.2.2.2.2.2.2.2.2.2.2.2.2.2.1 v.2.2.2.2.2.2.2.2.2.2.2.2.2.2.2.2.2.2.2.2.2.2.2.2.2.2.2.2.2.2.2.1 v.2.2.2.2.2.2.2.2.2.2.2.2.2.2.2.2.2.2.2.2.2.2.2.2.2.2.2.2.2.2.2.2.1 v.2.2.2.2.2.2.2.2.2.2.2.2.2.2.2.2.2.2.2.2.2.2.2.2.2.2.2.2.2.2.2.2.2.1 v.2.2.2.2.2.2.2.2.2.2.2.2.2.2.2.2.2.2.2.2.2.2.2.2.2.2.2.2.2.2.2.2.2.2.1 v.2.2.2.2.2.2.2.2.2.2.2.2.2.2.2.2.2.2.2.2.2.2.2.2.2.2.2.2.2.2.2.2.2.2.2.1 v.2.2.2.2.2.2.2.2.2.2.2.2.2.2.2.2.2.2.2.2.2.2.2.2.2.2.2.2.2.2.2.2.2.2.2.2.1 v.2.2.2.2.2.2.2.2.2.2.2.2.2.2.2.2.2.2.2.2.2.2.2.2.2.2.2.2.2.2.2.2.2.2.2.2.2.1 v.2.2.2.2.2.2.2.2.2.2.2.2.2.2.2.2.2.2.2.2.2.2.2.2.2.2.2.2.2.2.2.2.2.2.2.2.2.2.1 v.2.2.2.2.2.2.2.2.2.2.2.2.2.2.2.2.2.2.2.2.2.2.2.2.2.2.2.2.2.2.2.2.2.2.2.2.2.2.2.1 v.2.2.2.2.2.2.2.2.2.2.2.2.2.2.2.2.2.2.2.2.2.2.2.2.2.2.2.2.2.2.2.2.2.2.2.2.2.2.2.2.1 v.2.2.2.2.2.2.2.2.2.2.2.2.2.2.2.2.2.2.2.2.2.2.2.2.2.2.2.2.2.2.2.2.2.2.2.2.2.2.2.2.2
theorem NN : Nonempty VV := ⟨(aWorld 0, fun _ => none, fun _ => none, fun _ => none, 0, 0, 0, 0, 0, 0, 0, 0, 0, 0, 0, 0, 0, 0, 0, 0, none, 0, false, false, false, default, 0, 0, 0, 0, 0, 0, default, 0, Res.fin, ⟨default, 0, none, false, false, false, 0, 0⟩, [], default, default, ⟨default, #[], boot_drawn, 0, default⟩, fun _ _ => True, fun _ _ => True)⟩
@[irreducible] noncomputable def CC : VV := bad NN PP
@[irreducible] noncomputable def w : World := CC.1
@[irreducible] noncomputable def mean : ExcName → Option Value := CC.2.1
@[irreducible] noncomputable def mg : Str → Option Value := CC.2.2.1
@[irreducible] noncomputable def mb : Str → Option Value := CC.2.2.2.1
@[irreducible] noncomputable def T : Nat := CC.2.2.2.2.1
@[irreducible] noncomputable def D : Nat := CC.2.2.2.2.2.1
@[irreducible] noncomputable def FA : Nat := CC.2.2.2.2.2.2.1
@[irreducible] noncomputable def FD : Nat := CC.2.2.2.2.2.2.2.1
@[irreducible] noncomputable def k0 : Tok := CC.2.2.2.2.2.2.2.2.1
@[irreducible] noncomputable def k1 : Tok := CC.2.2.2.2.2.2.2.2.2.1
@[irreducible] noncomputable def k2 : Tok := CC.2.2.2.2.2.2.2.2.2.2.1
@[irreducible] noncomputable def k3 : Tok := CC.2.2.2.2.2.2.2.2.2.2.2.1
@[irreducible] noncomputable def k4 : Tok := CC.2.2.2.2.2.2.2.2.2.2.2.2.1
@[irreducible] noncomputable def k5 : Tok := CC.2.2.2.2.2.2.2.2.2.2.2.2.2.1
@[irreducible] noncomputable def k6 : Tok := CC.2.2.2.2.2.2.2.2.2.2.2.2.2.2.1
@[irreducible] noncomputable def k7 : Tok := CC.2.2.2.2.2.2.2.2.2.2.2.2.2.2.2.1
@[irreducible] noncomputable def k8 : Tok := CC.2.2.2.2.2.2.2.2.2.2.2.2.2.2.2.2.1
@[irreducible] noncomputable def k9 : Tok := CC.2.2.2.2.2.2.2.2.2.2.2.2.2.2.2.2.2.1
@[irreducible] noncomputable def f0 : Tok := CC.2.2.2.2.2.2.2.2.2.2.2.2.2.2.2.2.2.2.1
@[irreducible] noncomputable def f1 : Tok := CC.2.2.2.2.2.2.2.2.2.2.2.2.2.2.2.2.2.2.2.1
@[irreducible] noncomputable def uc : Option Str := CC.2.2.2.2.2.2.2.2.2.2.2.2.2.2.2.2.2.2.2.2.1
@[irreducible] noncomputable def tuc : Tok := CC.2.2.2.2.2.2.2.2.2.2.2.2.2.2.2.2.2.2.2.2.2.1
@[irreducible] noncomputable def q : Bool := CC.2.2.2.2.2.2.2.2.2.2.2.2.2.2.2.2.2.2.2.2.2.2.1
@[irreducible] noncomputable def e : Bool := CC.2.2.2.2.2.2.2.2.2.2.2.2.2.2.2.2.2.2.2.2.2.2.2.1
@[irreducible] noncomputable def a : Bool := CC.2.2.2.2.2.2.2.2.2.2.2.2.2.2.2.2.2.2.2.2.2.2.2.2.1
@[irreducible] noncomputable def fn : Value := CC.2.2.2.2.2.2.2.2.2.2.2.2.2.2.2.2.2.2.2.2.2.2.2.2.2.1
@[irreducible] noncomputable def tml : Tok := CC.2.2.2.2.2.2.2.2.2.2.2.2.2.2.2.2.2.2.2.2.2.2.2.2.2.2.1
@[irreducible] noncomputable def tln : Tok := CC.2.2.2.2.2.2.2.2.2.2.2.2.2.2.2.2.2.2.2.2.2.2.2.2.2.2.2.1
@[irreducible] noncomputable def ttx : Tok := CC.2.2.2.2.2.2.2.2.2.2.2.2.2.2.2.2.2.2.2.2.2.2.2.2.2.2.2.2.1
@[irreducible] noncomputable def tat : Tok := CC.2.2.2.2.2.2.2.2.2.2.2.2.2.2.2.2.2.2.2.2.2.2.2.2.2.2.2.2.2.1
@[irreducible] noncomputable def ml : Int := CC.2.2.2.2.2.2.2.2.2.2.2.2.2.2.2.2.2.2.2.2.2.2.2.2.2.2.2.2.2.2.1
@[irreducible] noncomputable def n : Int := CC.2.2.2.2.2.2.2.2.2.2.2.2.2.2.2.2.2.2.2.2.2.2.2.2.2.2.2.2.2.2.2.1
@[irreducible] noncomputable def tx : Str := CC.2.2.2.2.2.2.2.2.2.2.2.2.2.2.2.2.2.2.2.2.2.2.2.2.2.2.2.2.2.2.2.2.1
@[irreducible] noncomputable def k : Int := CC.2.2.2.2.2.2.2.2.2.2.2.2.2.2.2.2.2.2.2.2.2.2.2.2.2.2.2.2.2.2.2.2.2.1
@[irreducible] noncomputable def res : Res := CC.2.2.2.2.2.2.2.2.2.2.2.2.2.2.2.2.2.2.2.2.2.2.2.2.2.2.2.2.2.2.2.2.2.2.1
@[irreducible] noncomputable def σ' : TS := CC.2.2.2.2.2.2.2.2.2.2.2.2.2.2.2.2.2.2.2.2.2.2.2.2.2.2.2.2.2.2.2.2.2.2.2.1
@[irreducible] noncomputable def outer : List Env := CC.2.2.2.2.2.2.2.2.2.2.2.2.2.2.2.2.2.2.2.2.2.2.2.2.2.2.2.2.2.2.2.2.2.2.2.2.1
@[irreducible] noncomputable def base : Heap := CC.2.2.2.2.2.2.2.2.2.2.2.2.2.2.2.2.2.2.2.2.2.2.2.2.2.2.2.2.2.2.2.2.2.2.2.2.2.1
@[irreducible] noncomputable def g : Heap := CC.2.2.2.2.2.2.2.2.2.2.2.2.2.2.2.2.2.2.2.2.2.2.2.2.2.2.2.2.2.2.2.2.2.2.2.2.2.2.1
@[irreducible] noncomputable def s : Shared := CC.2.2.2.2.2.2.2.2.2.2.2.2.2.2.2.2.2.2.2.2.2.2.2.2.2.2.2.2.2.2.2.2.2.2.2.2.2.2.2.1
@[irreducible] noncomputable def Q : Value → Shared → Prop := CC.2.2.2.2.2.2.2.2.2.2.2.2.2.2.2.2.2.2.2.2.2.2.2.2.2.2.2.2.2.2.2.2.2.2.2.2.2.2.2.2.1
@[irreducible] noncomputable def E : Value → Shared → Prop := CC.2.2.2.2.2.2.2.2.2.2.2.2.2.2.2.2.2.2.2.2.2.2.2.2.2.2.2.2.2.2.2.2.2.2.2.2.2.2.2.2.2
set_option maxHeartbeats 40000000 in
noncomputable def core_S : Cut1 ((Bool) → (Bool) → (Option PutS) → (Heap) → (Nat) → (Str → Option Value) → Prop) (fun p0 => (∀ (lead : Bool) (note : Bool) (pt : Option PutS) (h2 : Heap) (tk2 : Nat) (u2 : Str → Option Value), p0 lead note pt h2 tk2 u2) → SS w mean mg mb T D FA FD k0 k1 k2 k3 k4 k5 k6 k7 k8 k9 f0 f1 uc tuc q e a fn tml tln ttx tat ml n tx k res σ' outer base g s Q E) := by
  apply Cut1.mk
  case h =>
  intro hS0
  intro lead note pt hn1 hn2 hn3 hO hpt hG H hD hret hexc
  (refine wpAny_call ?_; k_dflt (refine' con_enter0 ?kH ?k1 ?k2 ?k3 ?k4 ?k5 ?_ ?c1 ?c2 ?c3 ?c4; (case kH => with_reducible assumption); (case k1 => k_is); (case k2 => k_is); (case k3 => k_room); (case k4 => first | exact BindsTo.of_eq rfl | exact binds_K (H.k.keeps H.st) rfl (by k_is) rfl rfl rfl); (case k5 => exact locs rfl); (case c1 => exact rfl); (case c2 => exact rfl); (case c3 => exact rfl); (case c4 => decide); intro h' tk' F' N' B' X' T' hz' hl'; (try dsimp only)))
  refine (if_joinX (GetC g s.heap.objs.size s [(Str.ofString "self", .ref T), (Str.ofString "want_leading", .bool lead), (Str.ofString "want_comment", .bool note)]
    (tokLed w T D FA FD k0 k1 k2 k3 k4 k5 k6 k7 k8 k9 f0 f1 (vUC uc tuc) .none (.int ml tml) q e a (.ref (cond q 60 59)) (.int n tln) fn (.str tx ttx) (.int k tat))) ?_ ?_)
  · refine wpAny_If ?_
    cases pt with
    | none =>
      (with_reducible rename News _ _ _ _ => nE)
      dsimp only [putLed, putV, List.nil_append] at nE
      try k_fold
      (k_steps; repeat' (refine stop_out ?_; first | ((k_dflt (refine' s_if1 (slf := Str.ofString "self") (ns := tokNames) (gl_ok _) (cl451 _) ?F ?X ?T ?hs ?I ?hk ?hsk ?hsd ?ht ?_; (case F => k_asm); (case X => k_asm); (case T => k_asm); (case hs => rfl); (case I => k_inst); (case hk => rfl); (case hsk => rfl); (case hsd => rfl); (case ht => rfl); k_whole); intro _); k_steps) | ((first | (refine ite_t (by with_reducible assumption) ?_) | (refine ite_f (by with_reducible assumption) ?_) | (refine ite_f (Bool.and_false _) ?_) | (refine ite_f rfl ?_) | (refine ite_t rfl ?_)); k_steps) | (refine wpAny_If ?_; k_steps)))
      (repeat (first | (with_reducible show Mine.Fw _ _ _ _; constructor) | k_unfold | (dsimp only [WPost]) | dsimp only))
      exact getC_of (by k_asm) (by k_asm) (fm4 (by k_mem) (by k_mem) (by k_mem) (by k_mem)) (fc rfl (fc rfl (fc rfl fz))) rfl rfl rfl
    | some p =>
      obtain ⟨hp1, hX, hp3⟩ := hpt
      have hd2 : T < p.DX := by (first | lia | omega)
      have hd3 : D < p.DX := by (first | lia | omega)
      have hd4 : FD < p.DX := by (first | lia | omega)
      (with_reducible rename News _ _ _ _ => nE)
      dsimp only [putLed, putV, List.cons_append, List.nil_append] at nE
      obtain ⟨X, DX, t0, t1, t2, t3, tty, tv, tcm, ty, vv, esc, cm⟩ := p
      dsimp only at hp1 hX hp3 hd2 hd3 hd4 nE
      rcases hp3 with ⟨rfl, rfl⟩ | ⟨rfl, rfl⟩
      · try k_fold
        (k_steps; repeat' (refine stop_out ?_; first | ((k_dflt (refine' s_if1 (slf := Str.ofString "self") (ns := tokNames) (gl_ok _) (cl451 _) ?F ?X ?T ?hs ?I ?hk ?hsk ?hsd ?ht ?_; (case F => k_asm); (case X => k_asm); (case T => k_asm); (case hs => rfl); (case I => k_inst); (case hk => rfl); (case hsk => rfl); (case hsd => rfl); (case ht => rfl); k_whole); intro _); k_steps) | ((first | (refine ite_t (by with_reducible assumption) ?_) | (refine ite_f (by with_reducible assumption) ?_) | (refine ite_f (Bool.and_false _) ?_) | (refine ite_f rfl ?_) | (refine ite_t rfl ?_)); k_steps) | (refine wpAny_If ?_; k_steps)))
        (repeat (first | (with_reducible show Mine.Fw _ _ _ _; constructor) | k_unfold | (dsimp only [WPost]) | dsimp only))
        exact getC_of (by k_asm) (by k_asm) (fm4 (by k_mem) (by k_mem) (by k_mem) (by k_mem)) (fc rfl (fc rfl (fc rfl fz))) rfl rfl rfl
      · try k_fold
        (k_steps; repeat' (refine stop_out ?_; first | ((k_dflt (refine' s_if1 (slf := Str.ofString "self") (ns := tokNames) (gl_ok _) (cl451 _) ?F ?X ?T ?hs ?I ?hk ?hsk ?hsd ?ht ?_; (case F => k_asm); (case X => k_asm); (case T => k_asm); (case hs => rfl); (case I => k_inst); (case hk => rfl); (case hsk => rfl); (case hsd => rfl); (case ht => rfl); k_whole); intro _); k_steps) | ((first | (refine ite_t (by with_reducible assumption) ?_) | (refine ite_f (by with_reducible assumption) ?_) | (refine ite_f (Bool.and_false _) ?_) | (refine ite_f rfl ?_) | (refine ite_t rfl ?_)); k_steps) | (refine wpAny_If ?_; k_steps)))
        (repeat (first | (with_reducible show Mine.Fw _ _ _ _; constructor) | k_unfold | (dsimp only [WPost]) | dsimp only))
        exact getC_of (by k_asm) (by k_asm) (fm4 (by k_mem) (by k_mem) (by k_mem) (by k_mem)) (fc rfl (fc rfl (fc rfl fz))) rfl rfl rfl
  · rintro s' ⟨h2, tk2, u2, rfl, F2, N2⟩
    clear hpt
    revert hn1 hn2 hn3 hO hG H hD hret hexc B' X' T' hz' F2 N2
    exact hS0 lead note pt h2 tk2 u2
namespace rest
noncomputable abbrev VV := (Bool) × (Bool) × (Option PutS) × (Heap) × (Nat) × (Str → Option Value)
noncomputable def PP (v : VV) : Prop := get_con2_.core_S.a v.1 v.2.1 v.2.2.1 v.2.2.2.1 v.2.2.2.2.1 v.2.2.2.2.2
theorem NN : Nonempty VV := ⟨(false, false, none, default, 0, fun _ => none)⟩
@[irreducible] noncomputable def CC : VV := bad NN PP
@[irreducible] noncomputable def note : Bool := CC.2.1
@[irreducible] noncomputable def h2 : Heap := CC.2.2.2.1
set_option maxHeartbeats 40000000 in
noncomputable def core_S : Cut1 ((Heap) → (Nat) → (Option Str) → (Tok) → (Int) → (Bool) → (Bool) → (Bool) → (Int) → (Tok) → (Int) → (Tok) → (Tok) → (Str) → (Tok) → (Int) → (Tok) → (Bool) → (Str → Option Value) → (Heap) → (Nat) → (Nat) → Prop) (fun p0 => (∀ (hp8 : Heap) (tk8 : Nat) (uc : Option Str) (tuc : Tok) (k : Int) (q : Bool) (e : Bool) (a : Bool) (ml : Int) (tml : Tok) (n : Int) (tln : Tok) (tat : Tok) (tv : Str) (ttv : Tok) (ty : Int) (tty : Tok) (esc : Bool) (u : Str → Option Value) (h : Heap) (tkk : Nat) (m : Nat), p0 hp8 tk8 uc tuc k q e a ml tml n tln tat tv ttv ty tty esc u h tkk m) → get_con2_.core_S.a CC.1 note CC.2.2.1 h2 CC.2.2.2.2.1 CC.2.2.2.2.2) := by
  apply Cut1.mk
  case h =>
  intro hS0
  intro hn1 hn2 hn3 hO hG H hD hret hexc B' X' T' hz' F2 N2
  (k_steps; repeat' (refine stop_out ?_; first | ((k_dflt (refine' s_if1 (slf := Str.ofString "self") (ns := tokNames) (gl_ok _) (cl451 _) ?F ?X ?T ?hs ?I ?hk ?hsk ?hsd ?ht ?_; (case F => k_asm); (case X => k_asm); (case T => k_asm); (case hs => rfl); (case I => k_inst); (case hk => rfl); (case hsk => rfl); (case hsd => rfl); (case ht => rfl); k_whole); intro _); k_steps) | ((first | (refine ite_t (by with_reducible assumption) ?_) | (refine ite_f (by with_reducible assumption) ?_) | (refine ite_f (Bool.and_false _) ?_) | (refine ite_f rfl ?_) | (refine ite_t rfl ?_)); k_steps) | (refine wpAny_If ?_; k_steps)))
  (refine stop_out ?_; k_dflt (first | (refine' skip_use (uc := none) (tuc := 0) ?gn1 ?gn2 ?gn3 ?gO ?kB ?kF ?kX ?kN ?kT ?kA ?kf ?ke ?kd ?ku ?kh ?h1 ?_; (case kB => k_asm); (case kF => k_asm); (case kX => k_asm); (case kN => k_asm); (case kT => k_asm); (case kA => exact rfl); (case kf => exact rfl); (case ke => exact rfl); (case kd => exact Nat.le_of_ble_eq_true rfl); (case ku => exact Nat.le_of_ble_eq_true rfl); (case kh => exact rfl); (case h1 => first | exact fun _ h => h | exact fm4 (by k_mem) (by k_mem) (by k_mem) (by k_mem)); (case gn1 => assumption); (case gn2 => assumption); (case gn3 => assumption); (case gO => first | assumption | exact ok_ml (by assumption) | exact ok_q (by assumption)); k_whole) | (refine' skip_use ?gn1 ?gn2 ?gn3 ?gO ?kB ?kF ?kX ?kN ?kT ?kA ?kf ?ke ?kd ?ku ?kh ?h1 ?_; (case kB => k_asm); (case kF => k_asm); (case kX => k_asm); (case kN => k_asm); (case kT => k_asm); (case kA => exact rfl); (case kf => exact rfl); (case ke => exact rfl); (case kd => exact Nat.le_of_ble_eq_true rfl); (case ku => exact Nat.le_of_ble_eq_true rfl); (case kh => exact rfl); (case h1 => first | exact fun _ h => h | exact fm4 (by k_mem) (by k_mem) (by k_mem) (by k_mem)); (case gn1 => assumption); (case gn2 => assumption); (case gn3 => assumption); (case gO => first | assumption | exact ok_ml (by assumption) | exact ok_q (by assumption)); k_whole)); intro rs cs ks es as_ ns trs tcs tlns tats hps tks hs hO9 F9 N9; (try dsimp only at N9); (try dsimp only))
  (k_steps; repeat' (refine stop_out ?_; first | ((k_dflt (refine' s_if1 (slf := Str.ofString "self") (ns := tokNames) (gl_ok _) (cl451 _) ?F ?X ?T ?hs ?I ?hk ?hsk ?hsd ?ht ?_; (case F => k_asm); (case X => k_asm); (case T => k_asm); (case hs => rfl); (case I => k_inst); (case hk => rfl); (case hsk => rfl); (case hsd => rfl); (case ht => rfl); k_whole); intro _); k_steps) | ((first | (refine ite_t (by with_reducible assumption) ?_) | (refine ite_f (by with_reducible assumption) ?_) | (refine ite_f (Bool.and_false _) ?_) | (refine ite_f rfl ?_) | (refine ite_t rfl ?_)); k_steps) | (refine wpAny_If ?_; k_steps)))
  refine stop_out (ite_s ?_ ?_)
  · intro hb
    (k_steps; repeat' (refine stop_out ?_; first | ((k_dflt (refine' s_if1 (slf := Str.ofString "self") (ns := tokNames) (gl_ok _) (cl451 _) ?F ?X ?T ?hs ?I ?hk ?hsk ?hsd ?ht ?_; (case F => k_asm); (case X => k_asm); (case T => k_asm); (case hs => rfl); (case I => k_inst); (case hk => rfl); (case hsk => rfl); (case hsd => rfl); (case ht => rfl); k_whole); intro _); k_steps) | ((first | (refine ite_t (by with_reducible assumption) ?_) | (refine ite_f (by with_reducible assumption) ?_) | (refine ite_f (Bool.and_false _) ?_) | (refine ite_f rfl ?_) | (refine ite_t rfl ?_)); k_steps) | (refine wpAny_If ?_; k_steps)))
    ((refine stop_out ?_; k_dflt (refine' tok_use ?hb ?kB ?kF ?kX ?kN ?kT ?kA ?kf ?ke ?kd ?ku ?kh ?_; (case hb => exact tb2); (case kB => k_asm); (case kF => k_asm); (case kX => k_asm); (case kN => k_asm); (case kT => k_asm); (case kA => exact rfl); (case kf => exact rfl); (case ke => exact rfl); (case kd => exact Nat.le_of_ble_eq_true rfl); (case ku => exact Nat.le_of_ble_eq_true rfl); (case kh => exact rfl); k_whole); intro x9 d9 t90 t91 t92 t93 h9 tk9 l91 l92 F9 N9; (try dsimp only)); k_steps; ((repeat (first | (with_reducible show Mine.Fw _ _ _ _; constructor) | k_unfold | (dsimp only [WPost]) | dsimp only)); refine' con_ret hret ?kF ?kN ?kz ?kr ?kg ?kd ?ko; (case kg => exact rfl); (case kd => exact rfl); (case ko => exact rfl); (case kF => with_reducible assumption); (case kN => with_reducible assumption); (case kz => with_reducible assumption); (case kr => (exact getR_tok (gT_ws hG hs hb) (tokOrd l91) l92 (by first | exact ⟨_, rfl⟩ | exact ⟨0, rfl⟩) (by first | exact ⟨_, rfl⟩ | exact ⟨0, rfl⟩)))))
  · intro hb
    (k_steps; repeat' (refine stop_out ?_; first | ((k_dflt (refine' s_if1 (slf := Str.ofString "self") (ns := tokNames) (gl_ok _) (cl451 _) ?F ?X ?T ?hs ?I ?hk ?hsk ?hsd ?ht ?_; (case F => k_asm); (case X => k_asm); (case T => k_asm); (case hs => rfl); (case I => k_inst); (case hk => rfl); (case hsk => rfl); (case hsd => rfl); (case ht => rfl); k_whole); intro _); k_steps) | ((first | (refine ite_t (by with_reducible assumption) ?_) | (refine ite_f (by with_reducible assumption) ?_) | (refine ite_f (Bool.and_false _) ?_) | (refine ite_f rfl ?_) | (refine ite_t rfl ?_)); k_steps) | (refine wpAny_If ?_; k_steps)))
    refine stop_out ?_
    refine my_while (σ := GtS) (fun c => tokLed w T D FA FD k0 k1 k2 k3 k4 k5 k6 k7 k8 k9 f0 f1 (vUC c.uc c.tuc) .none (.int c.ml c.tml) c.q c.e c.a (.ref (cond c.q 60 59)) (.int c.n c.tln) fn (.str tx ttx) (.int c.k c.tat))
      (fun c => [(Str.ofString "self", .ref T), (Str.ofString "want_comment", .bool note), (Str.ofString "token", .str c.tk c.ttk), (Str.ofString "ttype", .int c.ty c.tty), (Str.ofString "has_escape", .bool c.esc)])
      (fun m c => getM m note ⟨tx, c.k, c.uc, c.q, c.e, c.a, c.ml, c.n⟩ c.tk c.ty c.esc = some (res, σ') ∧ Ok ⟨tx, c.k, c.uc, c.q, c.e, c.a, c.ml, c.n⟩) (n₀ := 3000)
      ⟨some _, _, _, _, _, _, _, _, _, _, _, Str.ofString "", _, 3, _, false⟩ (by k_asm) (by k_asm) (by exact fun _ h => h) (by exact fc rfl (fc rfl (fc rfl (fc rfl (fc rfl fz))))) (by exact ⟨gT_go hG hs hb, by assumption⟩) ?_ (by passes_own)
    clear hO hG hb hs
    rintro m ⟨uc, tuc, k, q, e, a, ml, tml, n, tln, tat, tv, ttv, ty, tty, esc⟩ u h tkk ⟨hM, hO⟩ F N
    dsimp only at hM hO F N
    obtain _ | m := m
    · cases hM
    rename_i hp8 _ _ tk8
    revert hn1 hn2 hn3 H hD hret hexc B' X' T' hz' hO F N hM
    exact hS0 hp8 tk8 uc tuc k q e a ml tml n tln tat tv ttv ty tty esc u h tkk m
namespace turn
noncomputable abbrev VV := (Heap) × (Nat) × (Option Str) × (Tok) × (Int) × (Bool) × (Bool) × (Int) × (Tok) × (Int) × (Tok) × (Tok) × (Str) × (Tok) × (Int) × (Tok) × (Bool) × (Str → Option Value) × (Heap) × (Nat) × (Nat)
noncomputable def PP (v : VV) : Prop := ∀ (q : Bool), get_con2_.rest.core_S.a v.1 v.2.1 v.2.2.1 v.2.2.2.1 v.2.2.2.2.1 q v.2.2.2.2.2.1 v.2.2.2.2.2.2.1 v.2.2.2.2.2.2.2.1 v.2.2.2.2.2.2.2.2.1 v.2.2.2.2.2.2.2.2.2.1 v.2.2.2.2.2.2.2.2.2.2.1 v.2.2.2.2.2.2.2.2.2.2.2.1 v.2.2.2.2.2.2.2.2.2.2.2.2.1 v.2.2.2.2.2.2.2.2.2.2.2.2.2.1 v.2.2.2.2.2.2.2.2.2.2.2.2.2.2.1 v.2.2.2.2.2.2.2.2.2.2.2.2.2.2.2.1 v.2.2.2.2.2.2.2.2.2.2.2.2.2.2.2.2.1 v.2.2.2.2.2.2.2.2.2.2.2.2.2.2.2.2.2.1 v.2.2.2.2.2.2.2.2.2.2.2.2.2.2.2.2.2.2.1 v.2.2.2.2.2.2.2.2.2.2.2.2.2.2.2.2.2.2.2.1 v.2.2.2.2.2.2.2.2.2.2.2.2.2.2.2.2.2.2.2.2
theorem NN : Nonempty VV := ⟨(default, 0, none, 0, 0, false, false, 0, 0, 0, 0, 0, default, 0, 0, 0, false, fun _ => none, default, 0, 0)⟩
@[irreducible] noncomputable def CC : VV := bad NN PP
@[irreducible] noncomputable def uc : Option Str := CC.2.2.1
@[irreducible] noncomputable def tuc : Tok := CC.2.2.2.1
@[irreducible] noncomputable def k : Int := CC.2.2.2.2.1
@[irreducible] noncomputable def e : Bool := CC.2.2.2.2.2.1
@[irreducible] noncomputable def a : Bool := CC.2.2.2.2.2.2.1
@[irreducible] noncomputable def ml : Int := CC.2.2.2.2.2.2.2.1
@[irreducible] noncomputable def tml : Tok := CC.2.2.2.2.2.2.2.2.1
@[irreducible] noncomputable def n : Int := CC.2.2.2.2.2.2.2.2.2.1
@[irreducible] noncomputable def tln : Tok := CC.2.2.2.2.2.2.2.2.2.2.1
@[irreducible] noncomputable def tat : Tok := CC.2.2.2.2.2.2.2.2.2.2.2.1
@[irreducible] noncomputable def tv : Str := CC.2.2.2.2.2.2.2.2.2.2.2.2.1
@[irreducible] noncomputable def ty : Int := CC.2.2.2.2.2.2.2.2.2.2.2.2.2.2.1
@[irreducible] noncomputable def tty : Tok := CC.2.2.2.2.2.2.2.2.2.2.2.2.2.2.2.1
@[irreducible] noncomputable def esc : Bool := CC.2.2.2.2.2.2.2.2.2.2.2.2.2.2.2.2.1
@[irreducible] noncomputable def h : Heap := CC.2.2.2.2.2.2.2.2.2.2.2.2.2.2.2.2.2.2.1
@[irreducible] noncomputable def m : Nat := CC.2.2.2.2.2.2.2.2.2.2.2.2.2.2.2.2.2.2.2.2
set_option maxHeartbeats 40000000 in
theorem core : ∀ (q : Bool), get_con2_.rest.core_S.a CC.1 CC.2.1 uc tuc k q e a ml tml n tln tat tv CC.2.2.2.2.2.2.2.2.2.2.2.2.2.1 ty tty esc CC.2.2.2.2.2.2.2.2.2.2.2.2.2.2.2.2.2.1 h CC.2.2.2.2.2.2.2.2.2.2.2.2.2.2.2.2.2.2.2.1 m := by
  intro q hn1 hn2 hn3 H hD hret hexc B' X' T' hz' hO F N hM
  cases q
  · dsimp only [cond] at N
    try k_fold
    (k_steps; repeat' (refine stop_out ?_; first | ((k_dflt (refine' s_if1 (slf := Str.ofString "self") (ns := tokNames) (gl_ok _) (cl451 _) ?F ?X ?T ?hs ?I ?hk ?hsk ?hsd ?ht ?_; (case F => k_asm); (case X => k_asm); (case T => k_asm); (case hs => rfl); (case I => k_inst); (case hk => rfl); (case hsk => rfl); (case hsd => rfl); (case ht => rfl); k_whole); intro _); k_steps) | ((first | (refine ite_t (by with_reducible assumption) ?_) | (refine ite_f (by with_reducible assumption) ?_) | (refine ite_f (Bool.and_false _) ?_) | (refine ite_f rfl ?_) | (refine ite_t rfl ?_)); k_steps) | (refine wpAny_If ?_; k_steps)))
    (refine stop_out ?_; k_dflt (first | (refine' getc_use (uc := none) (tuc := 0) ?gn1 ?gn2 ?gn3 ?gO ?kB ?kF ?kX ?kN ?kT ?kA ?kf ?ke ?kd ?ku ?kh ?h1 ?_; (case kB => k_asm); (case kF => k_asm); (case kX => k_asm); (case kN => k_asm); (case kT => k_asm); (case kA => exact rfl); (case kf => exact rfl); (case ke => exact rfl); (case kd => exact Nat.le_of_ble_eq_true rfl); (case ku => exact Nat.le_of_ble_eq_true rfl); (case kh => exact rfl); (case h1 => first | exact fun _ h => h | exact fm4 (by k_mem) (by k_mem) (by k_mem) (by k_mem)); (case gn1 => assumption); (case gn2 => assumption); (case gn3 => assumption); (case gO => first | assumption | exact ok_ml (by assumption) | exact ok_q (by assumption)); k_whole) | (refine' getc_use ?gn1 ?gn2 ?gn3 ?gO ?kB ?kF ?kX ?kN ?kT ?kA ?kf ?ke ?kd ?ku ?kh ?h1 ?_; (case kB => k_asm); (case kF => k_asm); (case kX => k_asm); (case kN => k_asm); (case kT => k_asm); (case kA => exact rfl); (case kf => exact rfl); (case ke => exact rfl); (case kd => exact Nat.le_of_ble_eq_true rfl); (case ku => exact Nat.le_of_ble_eq_true rfl); (case kh => exact rfl); (case h1 => first | exact fun _ h => h | exact fm4 (by k_mem) (by k_mem) (by k_mem) (by k_mem)); (case gn1 => assumption); (case gn2 => assumption); (case gn3 => assumption); (case gO => first | assumption | exact ok_ml (by assumption) | exact ok_q (by assumption)); k_whole)); intro c kn en an nn tcn tlnn tatn hpn tkn hg hO2 Fn Nn; (try dsimp only))
    (k_steps; repeat' (refine stop_out ?_; first | ((k_dflt (refine' s_if1 (slf := Str.ofString "self") (ns := tokNames) (gl_ok _) (cl451 _) ?F ?X ?T ?hs ?I ?hk ?hsk ?hsd ?ht ?_; (case F => k_asm); (case X => k_asm); (case T => k_asm); (case hs => rfl); (case I => k_inst); (case hk => rfl); (case hsk => rfl); (case hsd => rfl); (case ht => rfl); k_whole); intro _); k_steps) | ((first | (refine ite_t (by with_reducible assumption) ?_) | (refine ite_f (by with_reducible assumption) ?_) | (refine ite_f (Bool.and_false _) ?_) | (refine ite_f rfl ?_) | (refine ite_t rfl ?_)); k_steps) | (refine wpAny_If ?_; k_steps)))
    refine stop_out (ite_s ?_ ?_)
    · intro t1
      (k_steps; repeat' (refine stop_out ?_; first | ((k_dflt (refine' s_if1 (slf := Str.ofString "self") (ns := tokNames) (gl_ok _) (cl451 _) ?F ?X ?T ?hs ?I ?hk ?hsk ?hsd ?ht ?_; (case F => k_asm); (case X => k_asm); (case T => k_asm); (case hs => rfl); (case I => k_inst); (case hk => rfl); (case hsk => rfl); (case hsd => rfl); (case ht => rfl); k_whole); intro _); k_steps) | ((first | (refine ite_t (by with_reducible assumption) ?_) | (refine ite_f (by with_reducible assumption) ?_) | (refine ite_f (Bool.and_false _) ?_) | (refine ite_f rfl ?_) | (refine ite_t rfl ?_)); k_steps) | (refine wpAny_If ?_; k_steps)))
      refine stop_out (ite_s ?_ ?_)
      · intro t3
        (k_steps; repeat' (refine stop_out ?_; first | ((k_dflt (refine' s_if1 (slf := Str.ofString "self") (ns := tokNames) (gl_ok _) (cl451 _) ?F ?X ?T ?hs ?I ?hk ?hsk ?hsd ?ht ?_; (case F => k_asm); (case X => k_asm); (case T => k_asm); (case hs => rfl); (case I => k_inst); (case hk => rfl); (case hsk => rfl); (case hsd => rfl); (case ht => rfl); k_whole); intro _); k_steps) | ((first | (refine ite_t (by with_reducible assumption) ?_) | (refine ite_f (by with_reducible assumption) ?_) | (refine ite_f (Bool.and_false _) ?_) | (refine ite_f rfl ?_) | (refine ite_t rfl ?_)); k_steps) | (refine wpAny_If ?_; k_steps)))
        refine stop_out (ite_s ?_ ?_)
        · intro a1
          (k_steps; repeat' (refine stop_out ?_; first | ((k_dflt (refine' s_if1 (slf := Str.ofString "self") (ns := tokNames) (gl_ok _) (cl451 _) ?F ?X ?T ?hs ?I ?hk ?hsk ?hsd ?ht ?_; (case F => k_asm); (case X => k_asm); (case T => k_asm); (case hs => rfl); (case I => k_inst); (case hk => rfl); (case hsk => rfl); (case hsd => rfl); (case ht => rfl); k_whole); intro _); k_steps) | ((first | (refine ite_t (by with_reducible assumption) ?_) | (refine ite_f (by with_reducible assumption) ?_) | (refine ite_f (Bool.and_false _) ?_) | (refine ite_f rfl ?_) | (refine ite_t rfl ?_)); k_steps) | (refine wpAny_If ?_; k_steps)))
          (refine stop_out ?_; k_dflt (first | (refine' skip_use (uc := none) (tuc := 0) ?gn1 ?gn2 ?gn3 ?gO ?kB ?kF ?kX ?kN ?kT ?kA ?kf ?ke ?kd ?ku ?kh ?h1 ?_; (case kB => k_asm); (case kF => k_asm); (case kX => k_asm); (case kN => k_asm); (case kT => k_asm); (case kA => exact rfl); (case kf => exact rfl); (case ke => exact rfl); (case kd => exact Nat.le_of_ble_eq_true rfl); (case ku => exact Nat.le_of_ble_eq_true rfl); (case kh => exact rfl); (case h1 => first | exact fun _ h => h | exact fm4 (by k_mem) (by k_mem) (by k_mem) (by k_mem)); (case gn1 => assumption); (case gn2 => assumption); (case gn3 => assumption); (case gO => first | assumption | exact ok_ml (by assumption) | exact ok_q (by assumption)); k_whole) | (refine' skip_use ?gn1 ?gn2 ?gn3 ?gO ?kB ?kF ?kX ?kN ?kT ?kA ?kf ?ke ?kd ?ku ?kh ?h1 ?_; (case kB => k_asm); (case kF => k_asm); (case kX => k_asm); (case kN => k_asm); (case kT => k_asm); (case kA => exact rfl); (case kf => exact rfl); (case ke => exact rfl); (case kd => exact Nat.le_of_ble_eq_true rfl); (case ku => exact Nat.le_of_ble_eq_true rfl); (case kh => exact rfl); (case h1 => first | exact fun _ h => h | exact fm4 (by k_mem) (by k_mem) (by k_mem) (by k_mem)); (case gn1 => assumption); (case gn2 => assumption); (case gn3 => assumption); (case gO => first | assumption | exact ok_ml (by assumption) | exact ok_q (by assumption)); k_whole)); intro rs cs ks es as_ ns trs tcs tlns tats hps tks hs hO9 F9 N9; (try dsimp only at N9); (try dsimp only))
          (k_steps; repeat' (refine stop_out ?_; first | ((k_dflt (refine' s_if1 (slf := Str.ofString "self") (ns := tokNames) (gl_ok _) (cl451 _) ?F ?X ?T ?hs ?I ?hk ?hsk ?hsd ?ht ?_; (case F => k_asm); (case X => k_asm); (case T => k_asm); (case hs => rfl); (case I => k_inst); (case hk => rfl); (case hsk => rfl); (case hsd => rfl); (case ht => rfl); k_whole); intro _); k_steps) | ((first | (refine ite_t (by with_reducible assumption) ?_) | (refine ite_f (by with_reducible assumption) ?_) | (refine ite_f (Bool.and_false _) ?_) | (refine ite_f rfl ?_) | (refine ite_t rfl ?_)); k_steps) | (refine wpAny_If ?_; k_steps)))
          ((try dsimp only); (with_reducible rename News _ _ _ _ => nE); first | refine wpost_next (⟨(some _), _, _, _, _, _, _, _, _, _, _, _, _, _, _, _⟩ : GtS) (by k_asm) nE (by exact fun _ h => h) (by exact (fc rfl (fc rfl (fc rfl (fc rfl (fc rfl fz)))))) (by exact ⟨(m_lp hM hg rfl t3 a1 hs), by (first | assumption | exact ok_ml (by assumption) | exact ok_q (by assumption))⟩) (by exact Nat.lt_succ_self _) (by exact rfl) (by exact rfl) (by exact rfl) | refine wpost_cont (⟨(some _), _, _, _, _, _, _, _, _, _, _, _, _, _, _, _⟩ : GtS) (by k_asm) nE (by exact fun _ h => h) (by exact (fc rfl (fc rfl (fc rfl (fc rfl (fc rfl fz)))))) (by exact ⟨(m_lp hM hg rfl t3 a1 hs), by (first | assumption | exact ok_ml (by assumption) | exact ok_q (by assumption))⟩) (by exact Nat.lt_succ_self _) (by exact rfl) (by exact rfl) (by exact rfl))
        · intro a1
          (k_steps; repeat' (refine stop_out ?_; first | ((k_dflt (refine' s_if1 (slf := Str.ofString "self") (ns := tokNames) (gl_ok _) (cl451 _) ?F ?X ?T ?hs ?I ?hk ?hsk ?hsd ?ht ?_; (case F => k_asm); (case X => k_asm); (case T => k_asm); (case hs => rfl); (case I => k_inst); (case hk => rfl); (case hsk => rfl); (case hsd => rfl); (case ht => rfl); k_whole); intro _); k_steps) | ((first | (refine ite_t (by with_reducible assumption) ?_) | (refine ite_f (by with_reducible assumption) ?_) | (refine ite_f (Bool.and_false _) ?_) | (refine ite_f rfl ?_) | (refine ite_t rfl ?_)); k_steps) | (refine wpAny_If ?_; k_steps)))
          refine stop_out (ite_s ?_ ?_)
          · intro a2
            (k_steps; repeat' (refine stop_out ?_; first | ((k_dflt (refine' s_if1 (slf := Str.ofString "self") (ns := tokNames) (gl_ok _) (cl451 _) ?F ?X ?T ?hs ?I ?hk ?hsk ?hsd ?ht ?_; (case F => k_asm); (case X => k_asm); (case T => k_asm); (case hs => rfl); (case I => k_inst); (case hk => rfl); (case hsk => rfl); (case hsd => rfl); (case ht => rfl); k_whole); intro _); k_steps) | ((first | (refine ite_t (by with_reducible assumption) ?_) | (refine ite_f (by with_reducible assumption) ?_) | (refine ite_f (Bool.and_false _) ?_) | (refine ite_f rfl ?_) | (refine ite_t rfl ?_)); k_steps) | (refine wpAny_If ?_; k_steps)))
            refine stop_out (ite_s ?_ ?_)
            · intro hm
              (k_steps; repeat' (refine stop_out ?_; first | ((k_dflt (refine' s_if1 (slf := Str.ofString "self") (ns := tokNames) (gl_ok _) (cl451 _) ?F ?X ?T ?hs ?I ?hk ?hsk ?hsd ?ht ?_; (case F => k_asm); (case X => k_asm); (case T => k_asm); (case hs => rfl); (case I => k_inst); (case hk => rfl); (case hsk => rfl); (case hsd => rfl); (case ht => rfl); k_whole); intro _); k_steps) | ((first | (refine ite_t (by with_reducible assumption) ?_) | (refine ite_f (by with_reducible assumption) ?_) | (refine ite_f (Bool.and_false _) ?_) | (refine ite_f rfl ?_) | (refine ite_t rfl ?_)); k_steps) | (refine wpAny_If ?_; k_steps)))
              (try (refine stop_out ?_; k_dflt (refine' Raise_classO ?F ?g ?O PySem.F.excBase_Exception ?h ?_ ?c ?d ?e; (case F => k_asm); (case g => exact TopRead.g (by k_asm)); (case O => exact own_of_in (by k_asm) (by k_asm) (by k_is) (by k_exc)); (case h => exact rfl); (case c => exact rfl); (case d => exact rfl); (case e => decide); k_whole); (try k_steps)))
              ((repeat (first | (with_reducible show Mine.Fw _ _ _ _; constructor) | k_unfold | (dsimp only [WPost]) | dsimp only)); refine' exc_of hexc ?kR ?kU ?kX ?kg ?kd ?ko; (case kg => exact rfl); (case kd => exact rfl); (case ko => exact rfl); (case kR => assumption); (case kU => assumption); (case kX => exact (getX_syn (m_rp1 hM hg rfl t3 a2 hm))))
            · intro hm
              (k_steps; repeat' (refine stop_out ?_; first | ((k_dflt (refine' s_if1 (slf := Str.ofString "self") (ns := tokNames) (gl_ok _) (cl451 _) ?F ?X ?T ?hs ?I ?hk ?hsk ?hsd ?ht ?_; (case F => k_asm); (case X => k_asm); (case T => k_asm); (case hs => rfl); (case I => k_inst); (case hk => rfl); (case hsk => rfl); (case hsd => rfl); (case ht => rfl); k_whole); intro _); k_steps) | ((first | (refine ite_t (by with_reducible assumption) ?_) | (refine ite_f (by with_reducible assumption) ?_) | (refine ite_f (Bool.and_false _) ?_) | (refine ite_f rfl ?_) | (refine ite_t rfl ?_)); k_steps) | (refine wpAny_If ?_; k_steps)))
              (refine stop_out ?_; k_dflt (first | (refine' skip_use (uc := none) (tuc := 0) ?gn1 ?gn2 ?gn3 ?gO ?kB ?kF ?kX ?kN ?kT ?kA ?kf ?ke ?kd ?ku ?kh ?h1 ?_; (case kB => k_asm); (case kF => k_asm); (case kX => k_asm); (case kN => k_asm); (case kT => k_asm); (case kA => exact rfl); (case kf => exact rfl); (case ke => exact rfl); (case kd => exact Nat.le_of_ble_eq_true rfl); (case ku => exact Nat.le_of_ble_eq_true rfl); (case kh => exact rfl); (case h1 => first | exact fun _ h => h | exact fm4 (by k_mem) (by k_mem) (by k_mem) (by k_mem)); (case gn1 => assumption); (case gn2 => assumption); (case gn3 => assumption); (case gO => first | assumption | exact ok_ml (by assumption) | exact ok_q (by assumption)); k_whole) | (refine' skip_use ?gn1 ?gn2 ?gn3 ?gO ?kB ?kF ?kX ?kN ?kT ?kA ?kf ?ke ?kd ?ku ?kh ?h1 ?_; (case kB => k_asm); (case kF => k_asm); (case kX => k_asm); (case kN => k_asm); (case kT => k_asm); (case kA => exact rfl); (case kf => exact rfl); (case ke => exact rfl); (case kd => exact Nat.le_of_ble_eq_true rfl); (case ku => exact Nat.le_of_ble_eq_true rfl); (case kh => exact rfl); (case h1 => first | exact fun _ h => h | exact fm4 (by k_mem) (by k_mem) (by k_mem) (by k_mem)); (case gn1 => assumption); (case gn2 => assumption); (case gn3 => assumption); (case gO => first | assumption | exact ok_ml (by assumption) | exact ok_q (by assumption)); k_whole)); intro rs cs ks es as_ ns trs tcs tlns tats hps tks hs hO9 F9 N9; (try dsimp only at N9); (try dsimp only))
              (k_steps; repeat' (refine stop_out ?_; first | ((k_dflt (refine' s_if1 (slf := Str.ofString "self") (ns := tokNames) (gl_ok _) (cl451 _) ?F ?X ?T ?hs ?I ?hk ?hsk ?hsd ?ht ?_; (case F => k_asm); (case X => k_asm); (case T => k_asm); (case hs => rfl); (case I => k_inst); (case hk => rfl); (case hsk => rfl); (case hsd => rfl); (case ht => rfl); k_whole); intro _); k_steps) | ((first | (refine ite_t (by with_reducible assumption) ?_) | (refine ite_f (by with_reducible assumption) ?_) | (refine ite_f (Bool.and_false _) ?_) | (refine ite_f rfl ?_) | (refine ite_t rfl ?_)); k_steps) | (refine wpAny_If ?_; k_steps)))
              ((try dsimp only); (with_reducible rename News _ _ _ _ => nE); first | refine wpost_next (⟨(some _), _, _, _, _, _, _, _, _, _, _, _, _, _, _, _⟩ : GtS) (by k_asm) nE (by exact fun _ h => h) (by exact (fc rfl (fc rfl (fc rfl (fc rfl (fc rfl fz)))))) (by exact ⟨(m_rp2 hM hg rfl t3 a2 hm hs), by (first | assumption | exact ok_ml (by assumption) | exact ok_q (by assumption))⟩) (by exact Nat.lt_succ_self _) (by exact rfl) (by exact rfl) (by exact rfl) | refine wpost_cont (⟨(some _), _, _, _, _, _, _, _, _, _, _, _, _, _, _, _⟩ : GtS) (by k_asm) nE (by exact fun _ h => h) (by exact (fc rfl (fc rfl (fc rfl (fc rfl (fc rfl fz)))))) (by exact ⟨(m_rp2 hM hg rfl t3 a2 hm hs), by (first | assumption | exact ok_ml (by assumption) | exact ok_q (by assumption))⟩) (by exact Nat.lt_succ_self _) (by exact rfl) (by exact rfl) (by exact rfl))
          · intro a2
            (k_steps; repeat' (refine stop_out ?_; first | ((k_dflt (refine' s_if1 (slf := Str.ofString "self") (ns := tokNames) (gl_ok _) (cl451 _) ?F ?X ?T ?hs ?I ?hk ?hsk ?hsd ?ht ?_; (case F => k_asm); (case X => k_asm); (case T => k_asm); (case hs => rfl); (case I => k_inst); (case hk => rfl); (case hsk => rfl); (case hsd => rfl); (case ht => rfl); k_whole); intro _); k_steps) | ((first | (refine ite_t (by with_reducible assumption) ?_) | (refine ite_f (by with_reducible assumption) ?_) | (refine ite_f (Bool.and_false _) ?_) | (refine ite_f rfl ?_) | (refine ite_t rfl ?_)); k_steps) | (refine wpAny_If ?_; k_steps)))
            refine stop_out (ite_s ?_ ?_)
            · intro a3
              (k_steps; repeat' (refine stop_out ?_; first | ((k_dflt (refine' s_if1 (slf := Str.ofString "self") (ns := tokNames) (gl_ok _) (cl451 _) ?F ?X ?T ?hs ?I ?hk ?hsk ?hsd ?ht ?_; (case F => k_asm); (case X => k_asm); (case T => k_asm); (case hs => rfl); (case I => k_inst); (case hk => rfl); (case hsk => rfl); (case hsd => rfl); (case ht => rfl); k_whole); intro _); k_steps) | ((first | (refine ite_t (by with_reducible assumption) ?_) | (refine ite_f (by with_reducible assumption) ?_) | (refine ite_f (Bool.and_false _) ?_) | (refine ite_f rfl ?_) | (refine ite_t rfl ?_)); k_steps) | (refine wpAny_If ?_; k_steps)))
              ((try dsimp only); (with_reducible rename News _ _ _ _ => nE); first | refine wpost_next (⟨none, 0, _, _, _, _, _, _, _, _, _, _, _, _, _, _⟩ : GtS) (by k_asm) nE (by exact fun _ h => h) (by exact (fc rfl (fc rfl (fc rfl (fc rfl (fc rfl fz)))))) (by exact ⟨(m_dq hM hg rfl t3 a3), by (first | assumption | exact ok_ml (by assumption) | exact ok_q (by assumption))⟩) (by exact Nat.lt_succ_self _) (by exact rfl) (by exact rfl) (by exact rfl) | refine wpost_cont (⟨none, 0, _, _, _, _, _, _, _, _, _, _, _, _, _, _⟩ : GtS) (by k_asm) nE (by exact fun _ h => h) (by exact (fc rfl (fc rfl (fc rfl (fc rfl (fc rfl fz)))))) (by exact ⟨(m_dq hM hg rfl t3 a3), by (first | assumption | exact ok_ml (by assumption) | exact ok_q (by assumption))⟩) (by exact Nat.lt_succ_self _) (by exact rfl) (by exact rfl) (by exact rfl))
            · intro a3
              (k_steps; repeat' (refine stop_out ?_; first | ((k_dflt (refine' s_if1 (slf := Str.ofString "self") (ns := tokNames) (gl_ok _) (cl451 _) ?F ?X ?T ?hs ?I ?hk ?hsk ?hsd ?ht ?_; (case F => k_asm); (case X => k_asm); (case T => k_asm); (case hs => rfl); (case I => k_inst); (case hk => rfl); (case hsk => rfl); (case hsd => rfl); (case ht => rfl); k_whole); intro _); k_steps) | ((first | (refine ite_t (by with_reducible assumption) ?_) | (refine ite_f (by with_reducible assumption) ?_) | (refine ite_f (Bool.and_false _) ?_) | (refine ite_f rfl ?_) | (refine ite_t rfl ?_)); k_steps) | (refine wpAny_If ?_; k_steps)))
              refine stop_out (ite_s ?_ ?_)
              · intro a4
                (k_steps; repeat' (refine stop_out ?_; first | ((k_dflt (refine' s_if1 (slf := Str.ofString "self") (ns := tokNames) (gl_ok _) (cl451 _) ?F ?X ?T ?hs ?I ?hk ?hsk ?hsd ?ht ?_; (case F => k_asm); (case X => k_asm); (case T => k_asm); (case hs => rfl); (case I => k_inst); (case hk => rfl); (case hsk => rfl); (case hsd => rfl); (case ht => rfl); k_whole); intro _); k_steps) | ((first | (refine ite_t (by with_reducible assumption) ?_) | (refine ite_f (by with_reducible assumption) ?_) | (refine ite_f (Bool.and_false _) ?_) | (refine ite_f rfl ?_) | (refine ite_t rfl ?_)); k_steps) | (refine wpAny_If ?_; k_steps)))
                ((refine stop_out ?_; k_dflt (refine' tok_use ?hb ?kB ?kF ?kX ?kN ?kT ?kA ?kf ?ke ?kd ?ku ?kh ?_; (case hb => exact tb2); (case kB => k_asm); (case kF => k_asm); (case kX => k_asm); (case kN => k_asm); (case kT => k_asm); (case kA => exact rfl); (case kf => exact rfl); (case ke => exact rfl); (case kd => exact Nat.le_of_ble_eq_true rfl); (case ku => exact Nat.le_of_ble_eq_true rfl); (case kh => exact rfl); k_whole); intro x9 d9 t90 t91 t92 t93 h9 tk9 l91 l92 F9 N9; (try dsimp only)); k_steps; ((repeat (first | (with_reducible show Mine.Fw _ _ _ _; constructor) | k_unfold | (dsimp only [WPost]) | dsimp only)); refine' con_ret hret ?kF ?kN ?kz ?kr ?kg ?kd ?ko; (case kg => exact rfl); (case kd => exact rfl); (case ko => exact rfl); (case kF => with_reducible assumption); (case kN => with_reducible assumption); (case kz => with_reducible assumption); (case kr => (exact getR_tok (m_nl hM hg rfl t3 a4) (tokOrd l91) l92 (by exact ⟨0, rfl⟩) (by first | exact ⟨_, rfl⟩ | exact ⟨0, rfl⟩)))))
              · intro a4
                (k_steps; repeat' (refine stop_out ?_; first | ((k_dflt (refine' s_if1 (slf := Str.ofString "self") (ns := tokNames) (gl_ok _) (cl451 _) ?F ?X ?T ?hs ?I ?hk ?hsk ?hsd ?ht ?_; (case F => k_asm); (case X => k_asm); (case T => k_asm); (case hs => rfl); (case I => k_inst); (case hk => rfl); (case hsk => rfl); (case hsd => rfl); (case ht => rfl); k_whole); intro _); k_steps) | ((first | (refine ite_t (by with_reducible assumption) ?_) | (refine ite_f (by with_reducible assumption) ?_) | (refine ite_f (Bool.and_false _) ?_) | (refine ite_f rfl ?_) | (refine ite_t rfl ?_)); k_steps) | (refine wpAny_If ?_; k_steps)))
                refine stop_out (ite_s ?_ ?_)
                · intro a5
                  have hsc := m_sc hM hg rfl t3 a5
                  obtain ⟨v2, c2, σ2, hn, hc⟩ := hsc
                  (k_steps; repeat' (refine stop_out ?_; first | ((k_dflt (refine' s_if1 (slf := Str.ofString "self") (ns := tokNames) (gl_ok _) (cl451 _) ?F ?X ?T ?hs ?I ?hk ?hsk ?hsd ?ht ?_; (case F => k_asm); (case X => k_asm); (case T => k_asm); (case hs => rfl); (case I => k_inst); (case hk => rfl); (case hsk => rfl); (case hsd => rfl); (case ht => rfl); k_whole); intro _); k_steps) | ((first | (refine ite_t (by with_reducible assumption) ?_) | (refine ite_f (by with_reducible assumption) ?_) | (refine ite_f (Bool.and_false _) ?_) | (refine ite_f rfl ?_) | (refine ite_t rfl ?_)); k_steps) | (refine wpAny_If ?_; k_steps)))
                  refine stop_out ?_
                  refine my_while (σ := NtS) (fun c => tokLed w T D FA FD k0 k1 k2 k3 k4 k5 k6 k7 k8 k9 f0 f1 .none .none (.int ml tml) false c.e c.a (.ref 59) (.int c.n c.tln) fn (.str tx ttx) (.int c.k c.tat))
                    (fun c => [(Str.ofString "self", .ref T), (Str.ofString "want_comment", .bool note), (Str.ofString "token", .str c.tk c.ttk), (Str.ofString "ttype", .int ty tty), (Str.ofString "has_escape", .bool esc)])
                    (fun m c => noteM m ⟨tx, c.k, none, false, c.e, c.a, ml, c.n⟩ c.tk = some (v2, c2, σ2) ∧ Ok ⟨tx, c.k, none, false, c.e, c.a, ml, c.n⟩) (n₀ := 3000)
                    ⟨_, _, _, _, _, _, tv, _⟩ (by k_asm) (by k_asm) (by exact fun _ h => h) (by exact fc rfl (fc rfl (fc rfl (fc rfl (fc rfl fz))))) (by exact ⟨hn, by assumption⟩) ?_ (by passes_own)
                  clear hn hO hO2 hg
                  rintro m' ⟨k, e, a, n, tln, tat, tk, ttk⟩ u' h' tkk' ⟨hN, hO⟩ F' N'
                  dsimp only at hN hO F' N'
                  obtain _ | m' := m'
                  · cases hN
                  try k_fold
                  (k_steps; repeat' (refine stop_out ?_; first | ((k_dflt (refine' s_if1 (slf := Str.ofString "self") (ns := tokNames) (gl_ok _) (cl451 _) ?F ?X ?T ?hs ?I ?hk ?hsk ?hsd ?ht ?_; (case F => k_asm); (case X => k_asm); (case T => k_asm); (case hs => rfl); (case I => k_inst); (case hk => rfl); (case hsk => rfl); (case hsd => rfl); (case ht => rfl); k_whole); intro _); k_steps) | ((first | (refine ite_t (by with_reducible assumption) ?_) | (refine ite_f (by with_reducible assumption) ?_) | (refine ite_f (Bool.and_false _) ?_) | (refine ite_f rfl ?_) | (refine ite_t rfl ?_)); k_steps) | (refine wpAny_If ?_; k_steps)))
                  (refine stop_out ?_; k_dflt (first | (refine' getc_use (uc := none) (tuc := 0) ?gn1 ?gn2 ?gn3 ?gO ?kB ?kF ?kX ?kN ?kT ?kA ?kf ?ke ?kd ?ku ?kh ?h1 ?_; (case kB => k_asm); (case kF => k_asm); (case kX => k_asm); (case kN => k_asm); (case kT => k_asm); (case kA => exact rfl); (case kf => exact rfl); (case ke => exact rfl); (case kd => exact Nat.le_of_ble_eq_true rfl); (case ku => exact Nat.le_of_ble_eq_true rfl); (case kh => exact rfl); (case h1 => first | exact fun _ h => h | exact fm4 (by k_mem) (by k_mem) (by k_mem) (by k_mem)); (case gn1 => assumption); (case gn2 => assumption); (case gn3 => assumption); (case gO => first | assumption | exact ok_ml (by assumption) | exact ok_q (by assumption)); k_whole) | (refine' getc_use ?gn1 ?gn2 ?gn3 ?gO ?kB ?kF ?kX ?kN ?kT ?kA ?kf ?ke ?kd ?ku ?kh ?h1 ?_; (case kB => k_asm); (case kF => k_asm); (case kX => k_asm); (case kN => k_asm); (case kT => k_asm); (case kA => exact rfl); (case kf => exact rfl); (case ke => exact rfl); (case kd => exact Nat.le_of_ble_eq_true rfl); (case ku => exact Nat.le_of_ble_eq_true rfl); (case kh => exact rfl); (case h1 => first | exact fun _ h => h | exact fm4 (by k_mem) (by k_mem) (by k_mem) (by k_mem)); (case gn1 => assumption); (case gn2 => assumption); (case gn3 => assumption); (case gO => first | assumption | exact ok_ml (by assumption) | exact ok_q (by assumption)); k_whole)); intro c kn en an nn tcn tlnn tatn hpn tkn hg hO2 Fn Nn; (try dsimp only))
                  (k_steps; repeat' (refine stop_out ?_; first | ((k_dflt (refine' s_if1 (slf := Str.ofString "self") (ns := tokNames) (gl_ok _) (cl451 _) ?F ?X ?T ?hs ?I ?hk ?hsk ?hsd ?ht ?_; (case F => k_asm); (case X => k_asm); (case T => k_asm); (case hs => rfl); (case I => k_inst); (case hk => rfl); (case hsk => rfl); (case hsd => rfl); (case ht => rfl); k_whole); intro _); k_steps) | ((first | (refine ite_t (by with_reducible assumption) ?_) | (refine ite_f (by with_reducible assumption) ?_) | (refine ite_f (Bool.and_false _) ?_) | (refine ite_f rfl ?_) | (refine ite_t rfl ?_)); k_steps) | (refine wpAny_If ?_; k_steps)))
                  refine stop_out (ite_s ?_ ?_)
                  · intro b1
                    have hc := nt_brk hN hg b1 hc
                    (k_steps; repeat' (refine stop_out ?_; first | ((k_dflt (refine' s_if1 (slf := Str.ofString "self") (ns := tokNames) (gl_ok _) (cl451 _) ?F ?X ?T ?hs ?I ?hk ?hsk ?hsd ?ht ?_; (case F => k_asm); (case X => k_asm); (case T => k_asm); (case hs => rfl); (case I => k_inst); (case hk => rfl); (case hsk => rfl); (case hsd => rfl); (case ht => rfl); k_whole); intro _); k_steps) | ((first | (refine ite_t (by with_reducible assumption) ?_) | (refine ite_f (by with_reducible assumption) ?_) | (refine ite_f (Bool.and_false _) ?_) | (refine ite_f rfl ?_) | (refine ite_t rfl ?_)); k_steps) | (refine wpAny_If ?_; k_steps)))
                    refine stop_out (ite_s ?_ ?_)
                    · intro hn
                      (k_steps; repeat' (refine stop_out ?_; first | ((k_dflt (refine' s_if1 (slf := Str.ofString "self") (ns := tokNames) (gl_ok _) (cl451 _) ?F ?X ?T ?hs ?I ?hk ?hsk ?hsd ?ht ?_; (case F => k_asm); (case X => k_asm); (case T => k_asm); (case hs => rfl); (case I => k_inst); (case hk => rfl); (case hsk => rfl); (case hsd => rfl); (case ht => rfl); k_whole); intro _); k_steps) | ((first | (refine ite_t (by with_reducible assumption) ?_) | (refine ite_f (by with_reducible assumption) ?_) | (refine ite_f (Bool.and_false _) ?_) | (refine ite_f rfl ?_) | (refine ite_t rfl ?_)); k_steps) | (refine wpAny_If ?_; k_steps)))
                      (refine stop_out ?_; k_dflt (refine' ung_use ?gn1 ?gn2 ?gn3 ?kB ?kF ?kX ?kN ?kT ?kA ?kf ?ke ?kd ?ku ?kh ?h1 ?_; (case kB => k_asm); (case kF => k_asm); (case kX => k_asm); (case kN => k_asm); (case kT => k_asm); (case kA => exact rfl); (case kf => exact rfl); (case ke => exact rfl); (case kd => exact Nat.le_of_ble_eq_true rfl); (case ku => exact Nat.le_of_ble_eq_true rfl); (case kh => exact rfl); (case h1 => first | exact fun _ h => h | exact fm4 (by k_mem) (by k_mem) (by k_mem) (by k_mem)); (case gn1 => assumption); (case gn2 => assumption); (case gn3 => assumption); k_whole); intro h9 tk9 F9 N9; (try dsimp only))
                      (k_steps; repeat' (refine stop_out ?_; first | ((k_dflt (refine' s_if1 (slf := Str.ofString "self") (ns := tokNames) (gl_ok _) (cl451 _) ?F ?X ?T ?hs ?I ?hk ?hsk ?hsd ?ht ?_; (case F => k_asm); (case X => k_asm); (case T => k_asm); (case hs => rfl); (case I => k_inst); (case hk => rfl); (case hsk => rfl); (case hsd => rfl); (case ht => rfl); k_whole); intro _); k_steps) | ((first | (refine ite_t (by with_reducible assumption) ?_) | (refine ite_f (by with_reducible assumption) ?_) | (refine ite_f (Bool.and_false _) ?_) | (refine ite_f rfl ?_) | (refine ite_t rfl ?_)); k_steps) | (refine wpAny_If ?_; k_steps)))
                      ((refine stop_out ?_; k_dflt (refine' tok_use ?hb ?kB ?kF ?kX ?kN ?kT ?kA ?kf ?ke ?kd ?ku ?kh ?_; (case hb => exact tb2); (case kB => k_asm); (case kF => k_asm); (case kX => k_asm); (case kN => k_asm); (case kT => k_asm); (case kA => exact rfl); (case kf => exact rfl); (case ke => exact rfl); (case kd => exact Nat.le_of_ble_eq_true rfl); (case ku => exact Nat.le_of_ble_eq_true rfl); (case kh => exact rfl); k_whole); intro x9 d9 t90 t91 t92 t93 h9 tk9 l91 l92 F9 N9; (try dsimp only)); k_steps; ((repeat (first | (with_reducible show Mine.Fw _ _ _ _; constructor) | k_unfold | (dsimp only [WPost]) | dsimp only)); refine' con_ret hret ?kF ?kN ?kz ?kr ?kg ?kd ?ko; (case kg => exact rfl); (case kd => exact rfl); (case ko => exact rfl); (case kF => with_reducible assumption); (case kN => with_reducible assumption); (case kz => with_reducible assumption); (case kr => (exact getR_tok (cm_note hc hn) (tokOrd l91) l92 (by exact ⟨_, rfl⟩) (by first | exact ⟨_, rfl⟩ | exact ⟨0, rfl⟩)))))
                    · intro hn
                      (k_steps; repeat' (refine stop_out ?_; first | ((k_dflt (refine' s_if1 (slf := Str.ofString "self") (ns := tokNames) (gl_ok _) (cl451 _) ?F ?X ?T ?hs ?I ?hk ?hsk ?hsd ?ht ?_; (case F => k_asm); (case X => k_asm); (case T => k_asm); (case hs => rfl); (case I => k_inst); (case hk => rfl); (case hsk => rfl); (case hsd => rfl); (case ht => rfl); k_whole); intro _); k_steps) | ((first | (refine ite_t (by with_reducible assumption) ?_) | (refine ite_f (by with_reducible assumption) ?_) | (refine ite_f (Bool.and_false _) ?_) | (refine ite_f rfl ?_) | (refine ite_t rfl ?_)); k_steps) | (refine wpAny_If ?_; k_steps)))
                      refine stop_out (ite_s ?_ ?_)
                      · intro h1
                        (k_steps; repeat' (refine stop_out ?_; first | ((k_dflt (refine' s_if1 (slf := Str.ofString "self") (ns := tokNames) (gl_ok _) (cl451 _) ?F ?X ?T ?hs ?I ?hk ?hsk ?hsd ?ht ?_; (case F => k_asm); (case X => k_asm); (case T => k_asm); (case hs => rfl); (case I => k_inst); (case hk => rfl); (case hsk => rfl); (case hsd => rfl); (case ht => rfl); k_whole); intro _); k_steps) | ((first | (refine ite_t (by with_reducible assumption) ?_) | (refine ite_f (by with_reducible assumption) ?_) | (refine ite_f (Bool.and_false _) ?_) | (refine ite_f rfl ?_) | (refine ite_t rfl ?_)); k_steps) | (refine wpAny_If ?_; k_steps)))
                        refine stop_out (ite_s ?_ ?_)
                        · intro h2
                          (k_steps; repeat' (refine stop_out ?_; first | ((k_dflt (refine' s_if1 (slf := Str.ofString "self") (ns := tokNames) (gl_ok _) (cl451 _) ?F ?X ?T ?hs ?I ?hk ?hsk ?hsd ?ht ?_; (case F => k_asm); (case X => k_asm); (case T => k_asm); (case hs => rfl); (case I => k_inst); (case hk => rfl); (case hsk => rfl); (case hsd => rfl); (case ht => rfl); k_whole); intro _); k_steps) | ((first | (refine ite_t (by with_reducible assumption) ?_) | (refine ite_f (by with_reducible assumption) ?_) | (refine ite_f (Bool.and_false _) ?_) | (refine ite_f rfl ?_) | (refine ite_t rfl ?_)); k_steps) | (refine wpAny_If ?_; k_steps)))
                          (try (refine stop_out ?_; k_dflt (refine' Raise_classO ?F ?g ?O PySem.F.excBase_Exception ?h ?_ ?c ?d ?e; (case F => k_asm); (case g => exact TopRead.g (by k_asm)); (case O => exact own_of_in (by k_asm) (by k_asm) (by k_is) (by k_exc)); (case h => exact rfl); (case c => exact rfl); (case d => exact rfl); (case e => decide); k_whole); (try k_steps)))
                          ((repeat (first | (with_reducible show Mine.Fw _ _ _ _; constructor) | k_unfold | (dsimp only [WPost]) | dsimp only)); refine' exc_of hexc ?kR ?kU ?kX ?kg ?kd ?ko; (case kg => exact rfl); (case kd => exact rfl); (case ko => exact rfl); (case kR => assumption); (case kU => assumption); (case kX => exact (getX_syn (cm_syn hc hn h1 h2))))
                        · intro h2
                          (k_steps; repeat' (refine stop_out ?_; first | ((k_dflt (refine' s_if1 (slf := Str.ofString "self") (ns := tokNames) (gl_ok _) (cl451 _) ?F ?X ?T ?hs ?I ?hk ?hsk ?hsd ?ht ?_; (case F => k_asm); (case X => k_asm); (case T => k_asm); (case hs => rfl); (case I => k_inst); (case hk => rfl); (case hsk => rfl); (case hsd => rfl); (case ht => rfl); k_whole); intro _); k_steps) | ((first | (refine ite_t (by with_reducible assumption) ?_) | (refine ite_f (by with_reducible assumption) ?_) | (refine ite_f (Bool.and_false _) ?_) | (refine ite_f rfl ?_) | (refine ite_t rfl ?_)); k_steps) | (refine wpAny_If ?_; k_steps)))
                          ((refine stop_out ?_; k_dflt (refine' tok_use ?hb ?kB ?kF ?kX ?kN ?kT ?kA ?kf ?ke ?kd ?ku ?kh ?_; (case hb => exact tbk1); (case kB => k_asm); (case kF => k_asm); (case kX => k_asm); (case kN => k_asm); (case kT => k_asm); (case kA => exact rfl); (case kf => exact rfl); (case ke => exact rfl); (case kd => exact Nat.le_of_ble_eq_true rfl); (case ku => exact Nat.le_of_ble_eq_true rfl); (case kh => exact rfl); k_whole); intro x9 d9 t90 t91 t92 t93 h9 tk9 l91 l92 F9 N9; (try dsimp only)); k_steps; ((repeat (first | (with_reducible show Mine.Fw _ _ _ _; constructor) | k_unfold | (dsimp only [WPost]) | dsimp only)); refine' con_ret hret ?kF ?kN ?kz ?kr ?kg ?kd ?ko; (case kg => exact rfl); (case kd => exact rfl); (case ko => exact rfl); (case kF => with_reducible assumption); (case kN => with_reducible assumption); (case kz => with_reducible assumption); (case kr => (exact getR_tok (cm_eof hc hn h1 h2) (tokOrd l91) l92 (by exact ⟨0, rfl⟩) (by first | exact ⟨_, rfl⟩ | exact ⟨0, rfl⟩)))))
                      · intro h1
                        (k_steps; repeat' (refine stop_out ?_; first | ((k_dflt (refine' s_if1 (slf := Str.ofString "self") (ns := tokNames) (gl_ok _) (cl451 _) ?F ?X ?T ?hs ?I ?hk ?hsk ?hsd ?ht ?_; (case F => k_asm); (case X => k_asm); (case T => k_asm); (case hs => rfl); (case I => k_inst); (case hk => rfl); (case hsk => rfl); (case hsd => rfl); (case ht => rfl); k_whole); intro _); k_steps) | ((first | (refine ite_t (by with_reducible assumption) ?_) | (refine ite_f (by with_reducible assumption) ?_) | (refine ite_f (Bool.and_false _) ?_) | (refine ite_f rfl ?_) | (refine ite_t rfl ?_)); k_steps) | (refine wpAny_If ?_; k_steps)))
                        refine stop_out (ite_s ?_ ?_)
                        · intro h2
                          (k_steps; repeat' (refine stop_out ?_; first | ((k_dflt (refine' s_if1 (slf := Str.ofString "self") (ns := tokNames) (gl_ok _) (cl451 _) ?F ?X ?T ?hs ?I ?hk ?hsk ?hsd ?ht ?_; (case F => k_asm); (case X => k_asm); (case T => k_asm); (case hs => rfl); (case I => k_inst); (case hk => rfl); (case hsk => rfl); (case hsd => rfl); (case ht => rfl); k_whole); intro _); k_steps) | ((first | (refine ite_t (by with_reducible assumption) ?_) | (refine ite_f (by with_reducible assumption) ?_) | (refine ite_f (Bool.and_false _) ?_) | (refine ite_f rfl ?_) | (refine ite_t rfl ?_)); k_steps) | (refine wpAny_If ?_; k_steps)))
                          (refine stop_out ?_; k_dflt (first | (refine' skip_use (uc := none) (tuc := 0) ?gn1 ?gn2 ?gn3 ?gO ?kB ?kF ?kX ?kN ?kT ?kA ?kf ?ke ?kd ?ku ?kh ?h1 ?_; (case kB => k_asm); (case kF => k_asm); (case kX => k_asm); (case kN => k_asm); (case kT => k_asm); (case kA => exact rfl); (case kf => exact rfl); (case ke => exact rfl); (case kd => exact Nat.le_of_ble_eq_true rfl); (case ku => exact Nat.le_of_ble_eq_true rfl); (case kh => exact rfl); (case h1 => first | exact fun _ h => h | exact fm4 (by k_mem) (by k_mem) (by k_mem) (by k_mem)); (case gn1 => assumption); (case gn2 => assumption); (case gn3 => assumption); (case gO => first | assumption | exact ok_ml (by assumption) | exact ok_q (by assumption)); k_whole) | (refine' skip_use ?gn1 ?gn2 ?gn3 ?gO ?kB ?kF ?kX ?kN ?kT ?kA ?kf ?ke ?kd ?ku ?kh ?h1 ?_; (case kB => k_asm); (case kF => k_asm); (case kX => k_asm); (case kN => k_asm); (case kT => k_asm); (case kA => exact rfl); (case kf => exact rfl); (case ke => exact rfl); (case kd => exact Nat.le_of_ble_eq_true rfl); (case ku => exact Nat.le_of_ble_eq_true rfl); (case kh => exact rfl); (case h1 => first | exact fun _ h => h | exact fm4 (by k_mem) (by k_mem) (by k_mem) (by k_mem)); (case gn1 => assumption); (case gn2 => assumption); (case gn3 => assumption); (case gO => first | assumption | exact ok_ml (by assumption) | exact ok_q (by assumption)); k_whole)); intro rs cs ks es as_ ns trs tcs tlns tats hps tks hs hO9 F9 N9; (try dsimp only at N9); (try dsimp only))
                          (k_steps; repeat' (refine stop_out ?_; first | ((k_dflt (refine' s_if1 (slf := Str.ofString "self") (ns := tokNames) (gl_ok _) (cl451 _) ?F ?X ?T ?hs ?I ?hk ?hsk ?hsd ?ht ?_; (case F => k_asm); (case X => k_asm); (case T => k_asm); (case hs => rfl); (case I => k_inst); (case hk => rfl); (case hsk => rfl); (case hsd => rfl); (case ht => rfl); k_whole); intro _); k_steps) | ((first | (refine ite_t (by with_reducible assumption) ?_) | (refine ite_f (by with_reducible assumption) ?_) | (refine ite_f (Bool.and_false _) ?_) | (refine ite_f rfl ?_) | (refine ite_t rfl ?_)); k_steps) | (refine wpAny_If ?_; k_steps)))
                          ((try dsimp only); (with_reducible rename News _ _ _ _ => nE); first | refine wpost_next (⟨(some _), _, _, _, _, _, _, _, _, _, _, _, _, _, _, _⟩ : GtS) (by k_asm) nE (by exact fun _ h => h) (by exact (fc rfl (fc rfl (fc rfl (fc rfl (fc rfl fz)))))) (by exact ⟨(cm_go hc hn h1 h2 hs), by (first | assumption | exact ok_ml (by assumption) | exact ok_q (by assumption))⟩) (by exact Nat.lt_succ_self _) (by exact rfl) (by exact rfl) (by exact rfl) | refine wpost_cont (⟨(some _), _, _, _, _, _, _, _, _, _, _, _, _, _, _, _⟩ : GtS) (by k_asm) nE (by exact fun _ h => h) (by exact (fc rfl (fc rfl (fc rfl (fc rfl (fc rfl fz)))))) (by exact ⟨(cm_go hc hn h1 h2 hs), by (first | assumption | exact ok_ml (by assumption) | exact ok_q (by assumption))⟩) (by exact Nat.lt_succ_self _) (by exact rfl) (by exact rfl) (by exact rfl))
                        · intro h2
                          (k_steps; repeat' (refine stop_out ?_; first | ((k_dflt (refine' s_if1 (slf := Str.ofString "self") (ns := tokNames) (gl_ok _) (cl451 _) ?F ?X ?T ?hs ?I ?hk ?hsk ?hsd ?ht ?_; (case F => k_asm); (case X => k_asm); (case T => k_asm); (case hs => rfl); (case I => k_inst); (case hk => rfl); (case hsk => rfl); (case hsd => rfl); (case ht => rfl); k_whole); intro _); k_steps) | ((first | (refine ite_t (by with_reducible assumption) ?_) | (refine ite_f (by with_reducible assumption) ?_) | (refine ite_f (Bool.and_false _) ?_) | (refine ite_f rfl ?_) | (refine ite_t rfl ?_)); k_steps) | (refine wpAny_If ?_; k_steps)))
                          ((refine stop_out ?_; k_dflt (refine' tok_use ?hb ?kB ?kF ?kX ?kN ?kT ?kA ?kf ?ke ?kd ?ku ?kh ?_; (case hb => exact tbk2); (case kB => k_asm); (case kF => k_asm); (case kX => k_asm); (case kN => k_asm); (case kT => k_asm); (case kA => exact rfl); (case kf => exact rfl); (case ke => exact rfl); (case kd => exact Nat.le_of_ble_eq_true rfl); (case ku => exact Nat.le_of_ble_eq_true rfl); (case kh => exact rfl); k_whole); intro x9 d9 t90 t91 t92 t93 h9 tk9 l91 l92 F9 N9; (try dsimp only)); k_steps; ((repeat (first | (with_reducible show Mine.Fw _ _ _ _; constructor) | k_unfold | (dsimp only [WPost]) | dsimp only)); refine' con_ret hret ?kF ?kN ?kz ?kr ?kg ?kd ?ko; (case kg => exact rfl); (case kd => exact rfl); (case ko => exact rfl); (case kF => with_reducible assumption); (case kN => with_reducible assumption); (case kz => with_reducible assumption); (case kr => (exact getR_tok (cm_eol hc hn h1 h2) (tokOrd l91) l92 (by exact ⟨0, rfl⟩) (by first | exact ⟨_, rfl⟩ | exact ⟨0, rfl⟩)))))
                  · intro b1
                    have hln := getc_len hO hg
                    obtain ⟨hl, hN⟩ := nt_go hN hg b1
                    (k_steps; repeat' (refine stop_out ?_; first | ((k_dflt (refine' s_if1 (slf := Str.ofString "self") (ns := tokNames) (gl_ok _) (cl451 _) ?F ?X ?T ?hs ?I ?hk ?hsk ?hsd ?ht ?_; (case F => k_asm); (case X => k_asm); (case T => k_asm); (case hs => rfl); (case I => k_inst); (case hk => rfl); (case hsk => rfl); (case hsd => rfl); (case ht => rfl); k_whole); intro _); k_steps) | ((first | (refine ite_t (by with_reducible assumption) ?_) | (refine ite_f (by with_reducible assumption) ?_) | (refine ite_f (Bool.and_false _) ?_) | (refine ite_f rfl ?_) | (refine ite_t rfl ?_)); k_steps) | (refine wpAny_If ?_; k_steps)))
                    ((with_reducible rename News _ _ _ _ => nE); refine wpost_next (⟨_, _, _, _, _, _, _, _⟩ : NtS) (by k_asm) nE (by exact fun _ h => h) (by exact (fc rfl (fc rfl (fc rfl (fc rfl (fc rfl fz)))))) (by exact ⟨hN, by assumption⟩) (by exact Nat.lt_succ_self _) (by exact rfl) (by exact rfl) (by exact rfl))
                · intro a5
                  have hf := m_else hM hg rfl t1 t3 a1 a2 a3 a4 a5
                  (k_steps; repeat' (refine stop_out ?_; first | ((k_dflt (refine' s_if1 (slf := Str.ofString "self") (ns := tokNames) (gl_ok _) (cl451 _) ?F ?X ?T ?hs ?I ?hk ?hsk ?hsd ?ht ?_; (case F => k_asm); (case X => k_asm); (case T => k_asm); (case hs => rfl); (case I => k_inst); (case hk => rfl); (case hsk => rfl); (case hsd => rfl); (case ht => rfl); k_whole); intro _); k_steps) | ((first | (refine ite_t (by with_reducible assumption) ?_) | (refine ite_f (by with_reducible assumption) ?_) | (refine ite_f (Bool.and_false _) ?_) | (refine ite_f rfl ?_) | (refine ite_t rfl ?_)); k_steps) | (refine wpAny_If ?_; k_steps)))
                  refine stop_out (ite_s ?_ ?_)
                  · intro t4
                    (k_steps; repeat' (refine stop_out ?_; first | ((k_dflt (refine' s_if1 (slf := Str.ofString "self") (ns := tokNames) (gl_ok _) (cl451 _) ?F ?X ?T ?hs ?I ?hk ?hsk ?hsd ?ht ?_; (case F => k_asm); (case X => k_asm); (case T => k_asm); (case hs => rfl); (case I => k_inst); (case hk => rfl); (case hsk => rfl); (case hsd => rfl); (case ht => rfl); k_whole); intro _); k_steps) | ((first | (refine ite_t (by with_reducible assumption) ?_) | (refine ite_f (by with_reducible assumption) ?_) | (refine ite_f (Bool.and_false _) ?_) | (refine ite_f rfl ?_) | (refine ite_t rfl ?_)); k_steps) | (refine wpAny_If ?_; k_steps)))
                    refine stop_out (ite_s ?_ ?_)
                    · intro hm
                      (k_steps; repeat' (refine stop_out ?_; first | ((k_dflt (refine' s_if1 (slf := Str.ofString "self") (ns := tokNames) (gl_ok _) (cl451 _) ?F ?X ?T ?hs ?I ?hk ?hsk ?hsd ?ht ?_; (case F => k_asm); (case X => k_asm); (case T => k_asm); (case hs => rfl); (case I => k_inst); (case hk => rfl); (case hsk => rfl); (case hsd => rfl); (case ht => rfl); k_whole); intro _); k_steps) | ((first | (refine ite_t (by with_reducible assumption) ?_) | (refine ite_f (by with_reducible assumption) ?_) | (refine ite_f (Bool.and_false _) ?_) | (refine ite_f rfl ?_) | (refine ite_t rfl ?_)); k_steps) | (refine wpAny_If ?_; k_steps)))
                      (try (refine stop_out ?_; k_dflt (refine' Raise_classO ?F ?g ?O PySem.F.excBase_Exception ?h ?_ ?c ?d ?e; (case F => k_asm); (case g => exact TopRead.g (by k_asm)); (case O => exact own_of_in (by k_asm) (by k_asm) (by k_is) (by k_exc)); (case h => exact rfl); (case c => exact rfl); (case d => exact rfl); (case e => decide); k_whole); (try k_steps)))
                      ((repeat (first | (with_reducible show Mine.Fw _ _ _ _; constructor) | k_unfold | (dsimp only [WPost]) | dsimp only)); refine' exc_of hexc ?kR ?kU ?kX ?kg ?kd ?ko; (case kg => exact rfl); (case kd => exact rfl); (case ko => exact rfl); (case kR => assumption); (case kU => assumption); (case kX => exact (getX_syn (fin_syn hf t4 hm))))
                    · intro hm
                      (k_steps; repeat' (refine stop_out ?_; first | ((k_dflt (refine' s_if1 (slf := Str.ofString "self") (ns := tokNames) (gl_ok _) (cl451 _) ?F ?X ?T ?hs ?I ?hk ?hsk ?hsd ?ht ?_; (case F => k_asm); (case X => k_asm); (case T => k_asm); (case hs => rfl); (case I => k_inst); (case hk => rfl); (case hsk => rfl); (case hsd => rfl); (case ht => rfl); k_whole); intro _); k_steps) | ((first | (refine ite_t (by with_reducible assumption) ?_) | (refine ite_f (by with_reducible assumption) ?_) | (refine ite_f (Bool.and_false _) ?_) | (refine ite_f rfl ?_) | (refine ite_t rfl ?_)); k_steps) | (refine wpAny_If ?_; k_steps)))
                      ((refine stop_out ?_; k_dflt (refine' tok_use ?hb ?kB ?kF ?kX ?kN ?kT ?kA ?kf ?ke ?kd ?ku ?kh ?_; (case hb => exact tb3); (case kB => k_asm); (case kF => k_asm); (case kX => k_asm); (case kN => k_asm); (case kT => k_asm); (case kA => exact rfl); (case kf => exact rfl); (case ke => exact rfl); (case kd => exact Nat.le_of_ble_eq_true rfl); (case ku => exact Nat.le_of_ble_eq_true rfl); (case kh => exact rfl); k_whole); intro x9 d9 t90 t91 t92 t93 h9 tk9 l91 l92 F9 N9; (try dsimp only)); k_steps; ((repeat (first | (with_reducible show Mine.Fw _ _ _ _; constructor) | k_unfold | (dsimp only [WPost]) | dsimp only)); refine' con_ret hret ?kF ?kN ?kz ?kr ?kg ?kd ?ko; (case kg => exact rfl); (case kd => exact rfl); (case ko => exact rfl); (case kF => with_reducible assumption); (case kN => with_reducible assumption); (case kz => with_reducible assumption); (case kr => (exact getR_tok (fin_eof hf t4 hm) (tokOrd l91) l92 (by exact ⟨0, rfl⟩) (by first | exact ⟨_, rfl⟩ | exact ⟨0, rfl⟩)))))
                  · intro t4
                    (k_steps; repeat' (refine stop_out ?_; first | ((k_dflt (refine' s_if1 (slf := Str.ofString "self") (ns := tokNames) (gl_ok _) (cl451 _) ?F ?X ?T ?hs ?I ?hk ?hsk ?hsd ?ht ?_; (case F => k_asm); (case X => k_asm); (case T => k_asm); (case hs => rfl); (case I => k_inst); (case hk => rfl); (case hsk => rfl); (case hsd => rfl); (case ht => rfl); k_whole); intro _); k_steps) | ((first | (refine ite_t (by with_reducible assumption) ?_) | (refine ite_f (by with_reducible assumption) ?_) | (refine ite_f (Bool.and_false _) ?_) | (refine ite_f rfl ?_) | (refine ite_t rfl ?_)); k_steps) | (refine wpAny_If ?_; k_steps)))
                    ((refine stop_out ?_; k_dflt (refine' tok_use ?hb ?kB ?kF ?kX ?kN ?kT ?kA ?kf ?ke ?kd ?ku ?kh ?_; (case hb => exact tb3); (case kB => k_asm); (case kF => k_asm); (case kX => k_asm); (case kN => k_asm); (case kT => k_asm); (case kA => exact rfl); (case kf => exact rfl); (case ke => exact rfl); (case kd => exact Nat.le_of_ble_eq_true rfl); (case ku => exact Nat.le_of_ble_eq_true rfl); (case kh => exact rfl); k_whole); intro x9 d9 t90 t91 t92 t93 h9 tk9 l91 l92 F9 N9; (try dsimp only)); k_steps; ((repeat (first | (with_reducible show Mine.Fw _ _ _ _; constructor) | k_unfold | (dsimp only [WPost]) | dsimp only)); refine' con_ret hret ?kF ?kN ?kz ?kr ?kg ?kd ?ko; (case kg => exact rfl); (case kd => exact rfl); (case ko => exact rfl); (case kF => with_reducible assumption); (case kN => with_reducible assumption); (case kz => with_reducible assumption); (case kr => (exact getR_tok (fin_tok hf t4) (tokOrd l91) l92 (by exact ⟨0, rfl⟩) (by first | exact ⟨_, rfl⟩ | exact ⟨0, rfl⟩)))))
      · intro t3
        (k_steps; repeat' (refine stop_out ?_; first | ((k_dflt (refine' s_if1 (slf := Str.ofString "self") (ns := tokNames) (gl_ok _) (cl451 _) ?F ?X ?T ?hs ?I ?hk ?hsk ?hsd ?ht ?_; (case F => k_asm); (case X => k_asm); (case T => k_asm); (case hs => rfl); (case I => k_inst); (case hk => rfl); (case hsk => rfl); (case hsd => rfl); (case ht => rfl); k_whole); intro _); k_steps) | ((first | (refine ite_t (by with_reducible assumption) ?_) | (refine ite_f (by with_reducible assumption) ?_) | (refine ite_f (Bool.and_false _) ?_) | (refine ite_f rfl ?_) | (refine ite_t rfl ?_)); k_steps) | (refine wpAny_If ?_; k_steps)))
        (refine stop_out ?_; k_dflt (refine' ung_use ?gn1 ?gn2 ?gn3 ?kB ?kF ?kX ?kN ?kT ?kA ?kf ?ke ?kd ?ku ?kh ?h1 ?_; (case kB => k_asm); (case kF => k_asm); (case kX => k_asm); (case kN => k_asm); (case kT => k_asm); (case kA => exact rfl); (case kf => exact rfl); (case ke => exact rfl); (case kd => exact Nat.le_of_ble_eq_true rfl); (case ku => exact Nat.le_of_ble_eq_true rfl); (case kh => exact rfl); (case h1 => first | exact fun _ h => h | exact fm4 (by k_mem) (by k_mem) (by k_mem) (by k_mem)); (case gn1 => assumption); (case gn2 => assumption); (case gn3 => assumption); k_whole); intro h9 tk9 F9 N9; (try dsimp only))
        (k_steps; repeat' (refine stop_out ?_; first | ((k_dflt (refine' s_if1 (slf := Str.ofString "self") (ns := tokNames) (gl_ok _) (cl451 _) ?F ?X ?T ?hs ?I ?hk ?hsk ?hsd ?ht ?_; (case F => k_asm); (case X => k_asm); (case T => k_asm); (case hs => rfl); (case I => k_inst); (case hk => rfl); (case hsk => rfl); (case hsd => rfl); (case ht => rfl); k_whole); intro _); k_steps) | ((first | (refine ite_t (by with_reducible assumption) ?_) | (refine ite_f (by with_reducible assumption) ?_) | (refine ite_f (Bool.and_false _) ?_) | (refine ite_f rfl ?_) | (refine ite_t rfl ?_)); k_steps) | (refine wpAny_If ?_; k_steps)))
        ((refine stop_out ?_; k_dflt (refine' tok_use ?hb ?kB ?kF ?kX ?kN ?kT ?kA ?kf ?ke ?kd ?ku ?kh ?_; (case hb => exact tb3); (case kB => k_asm); (case kF => k_asm); (case kX => k_asm); (case kN => k_asm); (case kT => k_asm); (case kA => exact rfl); (case kf => exact rfl); (case ke => exact rfl); (case kd => exact Nat.le_of_ble_eq_true rfl); (case ku => exact Nat.le_of_ble_eq_true rfl); (case kh => exact rfl); k_whole); intro x9 d9 t90 t91 t92 t93 h9 tk9 l91 l92 F9 N9; (try dsimp only)); k_steps; ((repeat (first | (with_reducible show Mine.Fw _ _ _ _; constructor) | k_unfold | (dsimp only [WPost]) | dsimp only)); refine' con_ret hret ?kF ?kN ?kz ?kr ?kg ?kd ?ko; (case kg => exact rfl); (case kd => exact rfl); (case ko => exact rfl); (case kF => with_reducible assumption); (case kN => with_reducible assumption); (case kz => with_reducible assumption); (case kr => (exact getR_tok (m_back hM hg rfl t1 t3) (tokOrd l91) l92 (by exact ⟨_, rfl⟩) (by first | exact ⟨_, rfl⟩ | exact ⟨0, rfl⟩)))))
    · intro t1
      (k_steps; repeat' (refine stop_out ?_; first | ((k_dflt (refine' s_if1 (slf := Str.ofString "self") (ns := tokNames) (gl_ok _) (cl451 _) ?F ?X ?T ?hs ?I ?hk ?hsk ?hsd ?ht ?_; (case F => k_asm); (case X => k_asm); (case T => k_asm); (case hs => rfl); (case I => k_inst); (case hk => rfl); (case hsk => rfl); (case hsd => rfl); (case ht => rfl); k_whole); intro _); k_steps) | ((first | (refine ite_t (by with_reducible assumption) ?_) | (refine ite_f (by with_reducible assumption) ?_) | (refine ite_f (Bool.and_false _) ?_) | (refine ite_f rfl ?_) | (refine ite_t rfl ?_)); k_steps) | (refine wpAny_If ?_; k_steps)))
      refine stop_out (ite_s ?_ ?_)
      · intro hb
        obtain ⟨hl1, hl2⟩ := mb_len2 hM hg hb
        (k_steps; repeat' (refine stop_out ?_; first | ((k_dflt (refine' s_if1 (slf := Str.ofString "self") (ns := tokNames) (gl_ok _) (cl451 _) ?F ?X ?T ?hs ?I ?hk ?hsk ?hsd ?ht ?_; (case F => k_asm); (case X => k_asm); (case T => k_asm); (case hs => rfl); (case I => k_inst); (case hk => rfl); (case hsk => rfl); (case hsd => rfl); (case ht => rfl); k_whole); intro _); k_steps) | ((first | (refine ite_t (by with_reducible assumption) ?_) | (refine ite_f (by with_reducible assumption) ?_) | (refine ite_f (Bool.and_false _) ?_) | (refine ite_f rfl ?_) | (refine ite_t rfl ?_)); k_steps) | (refine wpAny_If ?_; k_steps)))
        (refine stop_out ?_; k_dflt (first | (refine' getc_use (uc := none) (tuc := 0) ?gn1 ?gn2 ?gn3 ?gO ?kB ?kF ?kX ?kN ?kT ?kA ?kf ?ke ?kd ?ku ?kh ?h1 ?_; (case kB => k_asm); (case kF => k_asm); (case kX => k_asm); (case kN => k_asm); (case kT => k_asm); (case kA => exact rfl); (case kf => exact rfl); (case ke => exact rfl); (case kd => exact Nat.le_of_ble_eq_true rfl); (case ku => exact Nat.le_of_ble_eq_true rfl); (case kh => exact rfl); (case h1 => first | exact fun _ h => h | exact fm4 (by k_mem) (by k_mem) (by k_mem) (by k_mem)); (case gn1 => assumption); (case gn2 => assumption); (case gn3 => assumption); (case gO => first | assumption | exact ok_ml (by assumption) | exact ok_q (by assumption)); k_whole) | (refine' getc_use ?gn1 ?gn2 ?gn3 ?gO ?kB ?kF ?kX ?kN ?kT ?kA ?kf ?ke ?kd ?ku ?kh ?h1 ?_; (case kB => k_asm); (case kF => k_asm); (case kX => k_asm); (case kN => k_asm); (case kT => k_asm); (case kA => exact rfl); (case kf => exact rfl); (case ke => exact rfl); (case kd => exact Nat.le_of_ble_eq_true rfl); (case ku => exact Nat.le_of_ble_eq_true rfl); (case kh => exact rfl); (case h1 => first | exact fun _ h => h | exact fm4 (by k_mem) (by k_mem) (by k_mem) (by k_mem)); (case gn1 => assumption); (case gn2 => assumption); (case gn3 => assumption); (case gO => first | assumption | exact ok_ml (by assumption) | exact ok_q (by assumption)); k_whole)); intro cc kn en an nn tcn tlnn tatn hpn tkn hg2 hO3 Fn Nn; (try dsimp only))
        have hln := getc_len hO2 hg2
        (k_steps; repeat' (refine stop_out ?_; first | ((k_dflt (refine' s_if1 (slf := Str.ofString "self") (ns := tokNames) (gl_ok _) (cl451 _) ?F ?X ?T ?hs ?I ?hk ?hsk ?hsd ?ht ?_; (case F => k_asm); (case X => k_asm); (case T => k_asm); (case hs => rfl); (case I => k_inst); (case hk => rfl); (case hsk => rfl); (case hsd => rfl); (case ht => rfl); k_whole); intro _); k_steps) | ((first | (refine ite_t (by with_reducible assumption) ?_) | (refine ite_f (by with_reducible assumption) ?_) | (refine ite_f (Bool.and_false _) ?_) | (refine ite_f rfl ?_) | (refine ite_t rfl ?_)); k_steps) | (refine wpAny_If ?_; k_steps)))
        refine stop_out (ite_s ?_ ?_)
        · intro b2
          (k_steps; repeat' (refine stop_out ?_; first | ((k_dflt (refine' s_if1 (slf := Str.ofString "self") (ns := tokNames) (gl_ok _) (cl451 _) ?F ?X ?T ?hs ?I ?hk ?hsk ?hsd ?ht ?_; (case F => k_asm); (case X => k_asm); (case T => k_asm); (case hs => rfl); (case I => k_inst); (case hk => rfl); (case hsk => rfl); (case hsd => rfl); (case ht => rfl); k_whole); intro _); k_steps) | ((first | (refine ite_t (by with_reducible assumption) ?_) | (refine ite_f (by with_reducible assumption) ?_) | (refine ite_f (Bool.and_false _) ?_) | (refine ite_f rfl ?_) | (refine ite_t rfl ?_)); k_steps) | (refine wpAny_If ?_; k_steps)))
          (try (refine stop_out ?_; k_dflt (refine' Raise_classO ?F ?g ?O PySem.F.excBase_Exception ?h ?_ ?c ?d ?e; (case F => k_asm); (case g => exact TopRead.g (by k_asm)); (case O => exact own_of_in (by k_asm) (by k_asm) (by k_is) (by k_exc)); (case h => exact rfl); (case c => exact rfl); (case d => exact rfl); (case e => decide); k_whole); (try k_steps)))
          ((repeat (first | (with_reducible show Mine.Fw _ _ _ _; constructor) | k_unfold | (dsimp only [WPost]) | dsimp only)); refine' exc_of hexc ?kR ?kU ?kX ?kg ?kd ?ko; (case kg => exact rfl); (case kd => exact rfl); (case ko => exact rfl); (case kR => assumption); (case kU => assumption); (case kX => exact (getX_fin (mb_fin hM hg hb hg2 b2))))
        · intro b2
          (k_steps; repeat' (refine stop_out ?_; first | ((k_dflt (refine' s_if1 (slf := Str.ofString "self") (ns := tokNames) (gl_ok _) (cl451 _) ?F ?X ?T ?hs ?I ?hk ?hsk ?hsd ?ht ?_; (case F => k_asm); (case X => k_asm); (case T => k_asm); (case hs => rfl); (case I => k_inst); (case hk => rfl); (case hsk => rfl); (case hsd => rfl); (case ht => rfl); k_whole); intro _); k_steps) | ((first | (refine ite_t (by with_reducible assumption) ?_) | (refine ite_f (by with_reducible assumption) ?_) | (refine ite_f (Bool.and_false _) ?_) | (refine ite_f rfl ?_) | (refine ite_t rfl ?_)); k_steps) | (refine wpAny_If ?_; k_steps)))
          ((try dsimp only); (with_reducible rename News _ _ _ _ => nE); first | refine wpost_next (⟨none, 0, _, _, _, _, _, _, _, _, _, _, _, _, _, _⟩ : GtS) (by k_asm) nE (by exact fun _ h => h) (by exact (fc rfl (fc rfl (fc rfl (fc rfl (fc rfl fz)))))) (by exact ⟨(mb_go hM hg hb hg2 b2), by (first | assumption | exact ok_ml (by assumption) | exact ok_q (by assumption))⟩) (by exact Nat.lt_succ_self _) (by exact rfl) (by exact rfl) (by exact rfl) | refine wpost_cont (⟨none, 0, _, _, _, _, _, _, _, _, _, _, _, _, _, _⟩ : GtS) (by k_asm) nE (by exact fun _ h => h) (by exact (fc rfl (fc rfl (fc rfl (fc rfl (fc rfl fz)))))) (by exact ⟨(mb_go hM hg hb hg2 b2), by (first | assumption | exact ok_ml (by assumption) | exact ok_q (by assumption))⟩) (by exact Nat.lt_succ_self _) (by exact rfl) (by exact rfl) (by exact rfl))
      · intro hb
        obtain ⟨⟨hl1, hl2⟩, hM2⟩ := mo hM hg rfl t1 hb
        (k_steps; repeat' (refine stop_out ?_; first | ((k_dflt (refine' s_if1 (slf := Str.ofString "self") (ns := tokNames) (gl_ok _) (cl451 _) ?F ?X ?T ?hs ?I ?hk ?hsk ?hsd ?ht ?_; (case F => k_asm); (case X => k_asm); (case T => k_asm); (case hs => rfl); (case I => k_inst); (case hk => rfl); (case hsk => rfl); (case hsd => rfl); (case ht => rfl); k_whole); intro _); k_steps) | ((first | (refine ite_t (by with_reducible assumption) ?_) | (refine ite_f (by with_reducible assumption) ?_) | (refine ite_f (Bool.and_false _) ?_) | (refine ite_f rfl ?_) | (refine ite_t rfl ?_)); k_steps) | (refine wpAny_If ?_; k_steps)))
        ((try dsimp only); (with_reducible rename News _ _ _ _ => nE); first | refine wpost_next (⟨none, 0, _, _, _, _, _, _, _, _, _, _, _, _, _, _⟩ : GtS) (by k_asm) nE (by exact fun _ h => h) (by exact (fc rfl (fc rfl (fc rfl (fc rfl (fc rfl fz)))))) (by exact ⟨hM2, by (first | assumption | exact ok_ml (by assumption) | exact ok_q (by assumption))⟩) (by exact Nat.lt_succ_self _) (by exact rfl) (by exact rfl) (by exact rfl) | refine wpost_cont (⟨none, 0, _, _, _, _, _, _, _, _, _, _, _, _, _, _⟩ : GtS) (by k_asm) nE (by exact fun _ h => h) (by exact (fc rfl (fc rfl (fc rfl (fc rfl (fc rfl fz)))))) (by exact ⟨hM2, by (first | assumption | exact ok_ml (by assumption) | exact ok_q (by assumption))⟩) (by exact Nat.lt_succ_self _) (by exact rfl) (by exact rfl) (by exact rfl))
  · dsimp only [cond] at N
    try k_fold
    (k_steps; repeat' (refine stop_out ?_; first | ((k_dflt (refine' s_if1 (slf := Str.ofString "self") (ns := tokNames) (gl_ok _) (cl451 _) ?F ?X ?T ?hs ?I ?hk ?hsk ?hsd ?ht ?_; (case F => k_asm); (case X => k_asm); (case T => k_asm); (case hs => rfl); (case I => k_inst); (case hk => rfl); (case hsk => rfl); (case hsd => rfl); (case ht => rfl); k_whole); intro _); k_steps) | ((first | (refine ite_t (by with_reducible assumption) ?_) | (refine ite_f (by with_reducible assumption) ?_) | (refine ite_f (Bool.and_false _) ?_) | (refine ite_f rfl ?_) | (refine ite_t rfl ?_)); k_steps) | (refine wpAny_If ?_; k_steps)))
    (refine stop_out ?_; k_dflt (first | (refine' getc_use (uc := none) (tuc := 0) ?gn1 ?gn2 ?gn3 ?gO ?kB ?kF ?kX ?kN ?kT ?kA ?kf ?ke ?kd ?ku ?kh ?h1 ?_; (case kB => k_asm); (case kF => k_asm); (case kX => k_asm); (case kN => k_asm); (case kT => k_asm); (case kA => exact rfl); (case kf => exact rfl); (case ke => exact rfl); (case kd => exact Nat.le_of_ble_eq_true rfl); (case ku => exact Nat.le_of_ble_eq_true rfl); (case kh => exact rfl); (case h1 => first | exact fun _ h => h | exact fm4 (by k_mem) (by k_mem) (by k_mem) (by k_mem)); (case gn1 => assumption); (case gn2 => assumption); (case gn3 => assumption); (case gO => first | assumption | exact ok_ml (by assumption) | exact ok_q (by assumption)); k_whole) | (refine' getc_use ?gn1 ?gn2 ?gn3 ?gO ?kB ?kF ?kX ?kN ?kT ?kA ?kf ?ke ?kd ?ku ?kh ?h1 ?_; (case kB => k_asm); (case kF => k_asm); (case kX => k_asm); (case kN => k_asm); (case kT => k_asm); (case kA => exact rfl); (case kf => exact rfl); (case ke => exact rfl); (case kd => exact Nat.le_of_ble_eq_true rfl); (case ku => exact Nat.le_of_ble_eq_true rfl); (case kh => exact rfl); (case h1 => first | exact fun _ h => h | exact fm4 (by k_mem) (by k_mem) (by k_mem) (by k_mem)); (case gn1 => assumption); (case gn2 => assumption); (case gn3 => assumption); (case gO => first | assumption | exact ok_ml (by assumption) | exact ok_q (by assumption)); k_whole)); intro c kn en an nn tcn tlnn tatn hpn tkn hg hO2 Fn Nn; (try dsimp only))
    (k_steps; repeat' (refine stop_out ?_; first | ((k_dflt (refine' s_if1 (slf := Str.ofString "self") (ns := tokNames) (gl_ok _) (cl451 _) ?F ?X ?T ?hs ?I ?hk ?hsk ?hsd ?ht ?_; (case F => k_asm); (case X => k_asm); (case T => k_asm); (case hs => rfl); (case I => k_inst); (case hk => rfl); (case hsk => rfl); (case hsd => rfl); (case ht => rfl); k_whole); intro _); k_steps) | ((first | (refine ite_t (by with_reducible assumption) ?_) | (refine ite_f (by with_reducible assumption) ?_) | (refine ite_f (Bool.and_false _) ?_) | (refine ite_f rfl ?_) | (refine ite_t rfl ?_)); k_steps) | (refine wpAny_If ?_; k_steps)))
    refine stop_out (ite_s ?_ ?_)
    · intro t1
      (k_steps; repeat' (refine stop_out ?_; first | ((k_dflt (refine' s_if1 (slf := Str.ofString "self") (ns := tokNames) (gl_ok _) (cl451 _) ?F ?X ?T ?hs ?I ?hk ?hsk ?hsd ?ht ?_; (case F => k_asm); (case X => k_asm); (case T => k_asm); (case hs => rfl); (case I => k_inst); (case hk => rfl); (case hsk => rfl); (case hsd => rfl); (case ht => rfl); k_whole); intro _); k_steps) | ((first | (refine ite_t (by with_reducible assumption) ?_) | (refine ite_f (by with_reducible assumption) ?_) | (refine ite_f (Bool.and_false _) ?_) | (refine ite_f rfl ?_) | (refine ite_t rfl ?_)); k_steps) | (refine wpAny_If ?_; k_steps)))
      refine stop_out (ite_s ?_ ?_)
      · intro hn
        have hn := (Bool.and_true _).symm.trans hn
        (k_steps; repeat' (refine stop_out ?_; first | ((k_dflt (refine' s_if1 (slf := Str.ofString "self") (ns := tokNames) (gl_ok _) (cl451 _) ?F ?X ?T ?hs ?I ?hk ?hsk ?hsd ?ht ?_; (case F => k_asm); (case X => k_asm); (case T => k_asm); (case hs => rfl); (case I => k_inst); (case hk => rfl); (case hsk => rfl); (case hsd => rfl); (case ht => rfl); k_whole); intro _); k_steps) | ((first | (refine ite_t (by with_reducible assumption) ?_) | (refine ite_f (by with_reducible assumption) ?_) | (refine ite_f (Bool.and_false _) ?_) | (refine ite_f rfl ?_) | (refine ite_t rfl ?_)); k_steps) | (refine wpAny_If ?_; k_steps)))
        (try (refine stop_out ?_; k_dflt (refine' Raise_classO ?F ?g ?O PySem.F.excBase_Exception ?h ?_ ?c ?d ?e; (case F => k_asm); (case g => exact TopRead.g (by k_asm)); (case O => exact own_of_in (by k_asm) (by k_asm) (by k_is) (by k_exc)); (case h => exact rfl); (case c => exact rfl); (case d => exact rfl); (case e => decide); k_whole); (try k_steps)))
        ((repeat (first | (with_reducible show Mine.Fw _ _ _ _; constructor) | k_unfold | (dsimp only [WPost]) | dsimp only)); refine' exc_of hexc ?kR ?kU ?kX ?kg ?kd ?ko; (case kg => exact rfl); (case kd => exact rfl); (case ko => exact rfl); (case kR => assumption); (case kU => assumption); (case kX => exact (getX_fin (mq_nil hM hg rfl hn))))
      · intro hn
        have hn := (Bool.and_true _).symm.trans hn
        (k_steps; repeat' (refine stop_out ?_; first | ((k_dflt (refine' s_if1 (slf := Str.ofString "self") (ns := tokNames) (gl_ok _) (cl451 _) ?F ?X ?T ?hs ?I ?hk ?hsk ?hsd ?ht ?_; (case F => k_asm); (case X => k_asm); (case T => k_asm); (case hs => rfl); (case I => k_inst); (case hk => rfl); (case hsk => rfl); (case hsd => rfl); (case ht => rfl); k_whole); intro _); k_steps) | ((first | (refine ite_t (by with_reducible assumption) ?_) | (refine ite_f (by with_reducible assumption) ?_) | (refine ite_f (Bool.and_false _) ?_) | (refine ite_f rfl ?_) | (refine ite_t rfl ?_)); k_steps) | (refine wpAny_If ?_; k_steps)))
        refine stop_out (ite_s ?_ ?_)
        · intro t3
          obtain ⟨a1, a2, a3⟩ := mq_ne t1 hn
          (k_steps; repeat' (refine stop_out ?_; first | ((k_dflt (refine' s_if1 (slf := Str.ofString "self") (ns := tokNames) (gl_ok _) (cl451 _) ?F ?X ?T ?hs ?I ?hk ?hsk ?hsd ?ht ?_; (case F => k_asm); (case X => k_asm); (case T => k_asm); (case hs => rfl); (case I => k_inst); (case hk => rfl); (case hsk => rfl); (case hsd => rfl); (case ht => rfl); k_whole); intro _); k_steps) | ((first | (refine ite_t (by with_reducible assumption) ?_) | (refine ite_f (by with_reducible assumption) ?_) | (refine ite_f (Bool.and_false _) ?_) | (refine ite_f rfl ?_) | (refine ite_t rfl ?_)); k_steps) | (refine wpAny_If ?_; k_steps)))
          (refine stop_out ?_; k_dflt (first | (refine' skip_use (uc := none) (tuc := 0) ?gn1 ?gn2 ?gn3 ?gO ?kB ?kF ?kX ?kN ?kT ?kA ?kf ?ke ?kd ?ku ?kh ?h1 ?_; (case kB => k_asm); (case kF => k_asm); (case kX => k_asm); (case kN => k_asm); (case kT => k_asm); (case kA => exact rfl); (case kf => exact rfl); (case ke => exact rfl); (case kd => exact Nat.le_of_ble_eq_true rfl); (case ku => exact Nat.le_of_ble_eq_true rfl); (case kh => exact rfl); (case h1 => first | exact fun _ h => h | exact fm4 (by k_mem) (by k_mem) (by k_mem) (by k_mem)); (case gn1 => assumption); (case gn2 => assumption); (case gn3 => assumption); (case gO => first | assumption | exact ok_ml (by assumption) | exact ok_q (by assumption)); k_whole) | (refine' skip_use ?gn1 ?gn2 ?gn3 ?gO ?kB ?kF ?kX ?kN ?kT ?kA ?kf ?ke ?kd ?ku ?kh ?h1 ?_; (case kB => k_asm); (case kF => k_asm); (case kX => k_asm); (case kN => k_asm); (case kT => k_asm); (case kA => exact rfl); (case kf => exact rfl); (case ke => exact rfl); (case kd => exact Nat.le_of_ble_eq_true rfl); (case ku => exact Nat.le_of_ble_eq_true rfl); (case kh => exact rfl); (case h1 => first | exact fun _ h => h | exact fm4 (by k_mem) (by k_mem) (by k_mem) (by k_mem)); (case gn1 => assumption); (case gn2 => assumption); (case gn3 => assumption); (case gO => first | assumption | exact ok_ml (by assumption) | exact ok_q (by assumption)); k_whole)); intro rs cs ks es as_ ns trs tcs tlns tats hps tks hs hO9 F9 N9; (try dsimp only at N9); (try dsimp only))
          (k_steps; repeat' (refine stop_out ?_; first | ((k_dflt (refine' s_if1 (slf := Str.ofString "self") (ns := tokNames) (gl_ok _) (cl451 _) ?F ?X ?T ?hs ?I ?hk ?hsk ?hsd ?ht ?_; (case F => k_asm); (case X => k_asm); (case T => k_asm); (case hs => rfl); (case I => k_inst); (case hk => rfl); (case hsk => rfl); (case hsd => rfl); (case ht => rfl); k_whole); intro _); k_steps) | ((first | (refine ite_t (by with_reducible assumption) ?_) | (refine ite_f (by with_reducible assumption) ?_) | (refine ite_f (Bool.and_false _) ?_) | (refine ite_f rfl ?_) | (refine ite_t rfl ?_)); k_steps) | (refine wpAny_If ?_; k_steps)))
          ((try dsimp only); (with_reducible rename News _ _ _ _ => nE); first | refine wpost_next (⟨(some _), _, _, _, _, _, _, _, _, _, _, _, _, _, _, _⟩ : GtS) (by k_asm) nE (by exact fun _ h => h) (by exact (fc rfl (fc rfl (fc rfl (fc rfl (fc rfl fz)))))) (by exact ⟨(mq_dq hM hg rfl t1 hn t3 hs), by (first | assumption | exact ok_ml (by assumption) | exact ok_q (by assumption))⟩) (by exact Nat.lt_succ_self _) (by exact rfl) (by exact rfl) (by exact rfl) | refine wpost_cont (⟨(some _), _, _, _, _, _, _, _, _, _, _, _, _, _, _, _⟩ : GtS) (by k_asm) nE (by exact fun _ h => h) (by exact (fc rfl (fc rfl (fc rfl (fc rfl (fc rfl fz)))))) (by exact ⟨(mq_dq hM hg rfl t1 hn t3 hs), by (first | assumption | exact ok_ml (by assumption) | exact ok_q (by assumption))⟩) (by exact Nat.lt_succ_self _) (by exact rfl) (by exact rfl) (by exact rfl))
        · intro t3
          (k_steps; repeat' (refine stop_out ?_; first | ((k_dflt (refine' s_if1 (slf := Str.ofString "self") (ns := tokNames) (gl_ok _) (cl451 _) ?F ?X ?T ?hs ?I ?hk ?hsk ?hsd ?ht ?_; (case F => k_asm); (case X => k_asm); (case T => k_asm); (case hs => rfl); (case I => k_inst); (case hk => rfl); (case hsk => rfl); (case hsd => rfl); (case ht => rfl); k_whole); intro _); k_steps) | ((first | (refine ite_t (by with_reducible assumption) ?_) | (refine ite_f (by with_reducible assumption) ?_) | (refine ite_f (Bool.and_false _) ?_) | (refine ite_f rfl ?_) | (refine ite_t rfl ?_)); k_steps) | (refine wpAny_If ?_; k_steps)))
          (refine stop_out ?_; k_dflt (refine' ung_use ?gn1 ?gn2 ?gn3 ?kB ?kF ?kX ?kN ?kT ?kA ?kf ?ke ?kd ?ku ?kh ?h1 ?_; (case kB => k_asm); (case kF => k_asm); (case kX => k_asm); (case kN => k_asm); (case kT => k_asm); (case kA => exact rfl); (case kf => exact rfl); (case ke => exact rfl); (case kd => exact Nat.le_of_ble_eq_true rfl); (case ku => exact Nat.le_of_ble_eq_true rfl); (case kh => exact rfl); (case h1 => first | exact fun _ h => h | exact fm4 (by k_mem) (by k_mem) (by k_mem) (by k_mem)); (case gn1 => assumption); (case gn2 => assumption); (case gn3 => assumption); k_whole); intro h9 tk9 F9 N9; (try dsimp only))
          (k_steps; repeat' (refine stop_out ?_; first | ((k_dflt (refine' s_if1 (slf := Str.ofString "self") (ns := tokNames) (gl_ok _) (cl451 _) ?F ?X ?T ?hs ?I ?hk ?hsk ?hsd ?ht ?_; (case F => k_asm); (case X => k_asm); (case T => k_asm); (case hs => rfl); (case I => k_inst); (case hk => rfl); (case hsk => rfl); (case hsd => rfl); (case ht => rfl); k_whole); intro _); k_steps) | ((first | (refine ite_t (by with_reducible assumption) ?_) | (refine ite_f (by with_reducible assumption) ?_) | (refine ite_f (Bool.and_false _) ?_) | (refine ite_f rfl ?_) | (refine ite_t rfl ?_)); k_steps) | (refine wpAny_If ?_; k_steps)))
          ((refine stop_out ?_; k_dflt (refine' tok_use ?hb ?kB ?kF ?kX ?kN ?kT ?kA ?kf ?ke ?kd ?ku ?kh ?_; (case hb => exact tb3); (case kB => k_asm); (case kF => k_asm); (case kX => k_asm); (case kN => k_asm); (case kT => k_asm); (case kA => exact rfl); (case kf => exact rfl); (case ke => exact rfl); (case kd => exact Nat.le_of_ble_eq_true rfl); (case ku => exact Nat.le_of_ble_eq_true rfl); (case kh => exact rfl); k_whole); intro x9 d9 t90 t91 t92 t93 h9 tk9 l91 l92 F9 N9; (try dsimp only)); k_steps; ((repeat (first | (with_reducible show Mine.Fw _ _ _ _; constructor) | k_unfold | (dsimp only [WPost]) | dsimp only)); refine' con_ret hret ?kF ?kN ?kz ?kr ?kg ?kd ?ko; (case kg => exact rfl); (case kd => exact rfl); (case ko => exact rfl); (case kF => with_reducible assumption); (case kN => with_reducible assumption); (case kz => with_reducible assumption); (case kr => (exact getR_tok (mq_back hM hg rfl t1 hn t3) (tokOrd l91) l92 (by exact ⟨_, rfl⟩) (by first | exact ⟨_, rfl⟩ | exact ⟨0, rfl⟩)))))
    · intro t1
      (k_steps; repeat' (refine stop_out ?_; first | ((k_dflt (refine' s_if1 (slf := Str.ofString "self") (ns := tokNames) (gl_ok _) (cl451 _) ?F ?X ?T ?hs ?I ?hk ?hsk ?hsd ?ht ?_; (case F => k_asm); (case X => k_asm); (case T => k_asm); (case hs => rfl); (case I => k_inst); (case hk => rfl); (case hsk => rfl); (case hsd => rfl); (case ht => rfl); k_whole); intro _); k_steps) | ((first | (refine ite_t (by with_reducible assumption) ?_) | (refine ite_f (by with_reducible assumption) ?_) | (refine ite_f (Bool.and_false _) ?_) | (refine ite_f rfl ?_) | (refine ite_t rfl ?_)); k_steps) | (refine wpAny_If ?_; k_steps)))
      refine stop_out (ite_s ?_ ?_)
      · intro hn
        (k_steps; repeat' (refine stop_out ?_; first | ((k_dflt (refine' s_if1 (slf := Str.ofString "self") (ns := tokNames) (gl_ok _) (cl451 _) ?F ?X ?T ?hs ?I ?hk ?hsk ?hsd ?ht ?_; (case F => k_asm); (case X => k_asm); (case T => k_asm); (case hs => rfl); (case I => k_inst); (case hk => rfl); (case hsk => rfl); (case hsd => rfl); (case ht => rfl); k_whole); intro _); k_steps) | ((first | (refine ite_t (by with_reducible assumption) ?_) | (refine ite_f (by with_reducible assumption) ?_) | (refine ite_f (Bool.and_false _) ?_) | (refine ite_f rfl ?_) | (refine ite_t rfl ?_)); k_steps) | (refine wpAny_If ?_; k_steps)))
        (try (refine stop_out ?_; k_dflt (refine' Raise_classO ?F ?g ?O PySem.F.excBase_Exception ?h ?_ ?c ?d ?e; (case F => k_asm); (case g => exact TopRead.g (by k_asm)); (case O => exact own_of_in (by k_asm) (by k_asm) (by k_is) (by k_exc)); (case h => exact rfl); (case c => exact rfl); (case d => exact rfl); (case e => decide); k_whole); (try k_steps)))
        ((repeat (first | (with_reducible show Mine.Fw _ _ _ _; constructor) | k_unfold | (dsimp only [WPost]) | dsimp only)); refine' exc_of hexc ?kR ?kU ?kX ?kg ?kd ?ko; (case kg => exact rfl); (case kd => exact rfl); (case ko => exact rfl); (case kR => assumption); (case kU => assumption); (case kX => exact (getX_syn (mq_nl hM hg rfl hn))))
      · intro hn
        (k_steps; repeat' (refine stop_out ?_; first | ((k_dflt (refine' s_if1 (slf := Str.ofString "self") (ns := tokNames) (gl_ok _) (cl451 _) ?F ?X ?T ?hs ?I ?hk ?hsk ?hsd ?ht ?_; (case F => k_asm); (case X => k_asm); (case T => k_asm); (case hs => rfl); (case I => k_inst); (case hk => rfl); (case hsk => rfl); (case hsd => rfl); (case ht => rfl); k_whole); intro _); k_steps) | ((first | (refine ite_t (by with_reducible assumption) ?_) | (refine ite_f (by with_reducible assumption) ?_) | (refine ite_f (Bool.and_false _) ?_) | (refine ite_f rfl ?_) | (refine ite_t rfl ?_)); k_steps) | (refine wpAny_If ?_; k_steps)))
        refine stop_out (ite_s ?_ ?_)
        · intro hb
          obtain ⟨hl1, hl2⟩ := mb_len2 hM hg hb
          (k_steps; repeat' (refine stop_out ?_; first | ((k_dflt (refine' s_if1 (slf := Str.ofString "self") (ns := tokNames) (gl_ok _) (cl451 _) ?F ?X ?T ?hs ?I ?hk ?hsk ?hsd ?ht ?_; (case F => k_asm); (case X => k_asm); (case T => k_asm); (case hs => rfl); (case I => k_inst); (case hk => rfl); (case hsk => rfl); (case hsd => rfl); (case ht => rfl); k_whole); intro _); k_steps) | ((first | (refine ite_t (by with_reducible assumption) ?_) | (refine ite_f (by with_reducible assumption) ?_) | (refine ite_f (Bool.and_false _) ?_) | (refine ite_f rfl ?_) | (refine ite_t rfl ?_)); k_steps) | (refine wpAny_If ?_; k_steps)))
          (refine stop_out ?_; k_dflt (first | (refine' getc_use (uc := none) (tuc := 0) ?gn1 ?gn2 ?gn3 ?gO ?kB ?kF ?kX ?kN ?kT ?kA ?kf ?ke ?kd ?ku ?kh ?h1 ?_; (case kB => k_asm); (case kF => k_asm); (case kX => k_asm); (case kN => k_asm); (case kT => k_asm); (case kA => exact rfl); (case kf => exact rfl); (case ke => exact rfl); (case kd => exact Nat.le_of_ble_eq_true rfl); (case ku => exact Nat.le_of_ble_eq_true rfl); (case kh => exact rfl); (case h1 => first | exact fun _ h => h | exact fm4 (by k_mem) (by k_mem) (by k_mem) (by k_mem)); (case gn1 => assumption); (case gn2 => assumption); (case gn3 => assumption); (case gO => first | assumption | exact ok_ml (by assumption) | exact ok_q (by assumption)); k_whole) | (refine' getc_use ?gn1 ?gn2 ?gn3 ?gO ?kB ?kF ?kX ?kN ?kT ?kA ?kf ?ke ?kd ?ku ?kh ?h1 ?_; (case kB => k_asm); (case kF => k_asm); (case kX => k_asm); (case kN => k_asm); (case kT => k_asm); (case kA => exact rfl); (case kf => exact rfl); (case ke => exact rfl); (case kd => exact Nat.le_of_ble_eq_true rfl); (case ku => exact Nat.le_of_ble_eq_true rfl); (case kh => exact rfl); (case h1 => first | exact fun _ h => h | exact fm4 (by k_mem) (by k_mem) (by k_mem) (by k_mem)); (case gn1 => assumption); (case gn2 => assumption); (case gn3 => assumption); (case gO => first | assumption | exact ok_ml (by assumption) | exact ok_q (by assumption)); k_whole)); intro cc kn en an nn tcn tlnn tatn hpn tkn hg2 hO3 Fn Nn; (try dsimp only))
          have hln := getc_len hO2 hg2
          (k_steps; repeat' (refine stop_out ?_; first | ((k_dflt (refine' s_if1 (slf := Str.ofString "self") (ns := tokNames) (gl_ok _) (cl451 _) ?F ?X ?T ?hs ?I ?hk ?hsk ?hsd ?ht ?_; (case F => k_asm); (case X => k_asm); (case T => k_asm); (case hs => rfl); (case I => k_inst); (case hk => rfl); (case hsk => rfl); (case hsd => rfl); (case ht => rfl); k_whole); intro _); k_steps) | ((first | (refine ite_t (by with_reducible assumption) ?_) | (refine ite_f (by with_reducible assumption) ?_) | (refine ite_f (Bool.and_false _) ?_) | (refine ite_f rfl ?_) | (refine ite_t rfl ?_)); k_steps) | (refine wpAny_If ?_; k_steps)))
          refine stop_out (ite_s ?_ ?_)
          · intro b2
            (k_steps; repeat' (refine stop_out ?_; first | ((k_dflt (refine' s_if1 (slf := Str.ofString "self") (ns := tokNames) (gl_ok _) (cl451 _) ?F ?X ?T ?hs ?I ?hk ?hsk ?hsd ?ht ?_; (case F => k_asm); (case X => k_asm); (case T => k_asm); (case hs => rfl); (case I => k_inst); (case hk => rfl); (case hsk => rfl); (case hsd => rfl); (case ht => rfl); k_whole); intro _); k_steps) | ((first | (refine ite_t (by with_reducible assumption) ?_) | (refine ite_f (by with_reducible assumption) ?_) | (refine ite_f (Bool.and_false _) ?_) | (refine ite_f rfl ?_) | (refine ite_t rfl ?_)); k_steps) | (refine wpAny_If ?_; k_steps)))
            (try (refine stop_out ?_; k_dflt (refine' Raise_classO ?F ?g ?O PySem.F.excBase_Exception ?h ?_ ?c ?d ?e; (case F => k_asm); (case g => exact TopRead.g (by k_asm)); (case O => exact own_of_in (by k_asm) (by k_asm) (by k_is) (by k_exc)); (case h => exact rfl); (case c => exact rfl); (case d => exact rfl); (case e => decide); k_whole); (try k_steps)))
            ((repeat (first | (with_reducible show Mine.Fw _ _ _ _; constructor) | k_unfold | (dsimp only [WPost]) | dsimp only)); refine' exc_of hexc ?kR ?kU ?kX ?kg ?kd ?ko; (case kg => exact rfl); (case kd => exact rfl); (case ko => exact rfl); (case kR => assumption); (case kU => assumption); (case kX => exact (getX_fin (mb_fin hM hg hb hg2 b2))))
          · intro b2
            (k_steps; repeat' (refine stop_out ?_; first | ((k_dflt (refine' s_if1 (slf := Str.ofString "self") (ns := tokNames) (gl_ok _) (cl451 _) ?F ?X ?T ?hs ?I ?hk ?hsk ?hsd ?ht ?_; (case F => k_asm); (case X => k_asm); (case T => k_asm); (case hs => rfl); (case I => k_inst); (case hk => rfl); (case hsk => rfl); (case hsd => rfl); (case ht => rfl); k_whole); intro _); k_steps) | ((first | (refine ite_t (by with_reducible assumption) ?_) | (refine ite_f (by with_reducible assumption) ?_) | (refine ite_f (Bool.and_false _) ?_) | (refine ite_f rfl ?_) | (refine ite_t rfl ?_)); k_steps) | (refine wpAny_If ?_; k_steps)))
            ((try dsimp only); (with_reducible rename News _ _ _ _ => nE); first | refine wpost_next (⟨none, 0, _, _, _, _, _, _, _, _, _, _, _, _, _, _⟩ : GtS) (by k_asm) nE (by exact fun _ h => h) (by exact (fc rfl (fc rfl (fc rfl (fc rfl (fc rfl fz)))))) (by exact ⟨(mb_go hM hg hb hg2 b2), by (first | assumption | exact ok_ml (by assumption) | exact ok_q (by assumption))⟩) (by exact Nat.lt_succ_self _) (by exact rfl) (by exact rfl) (by exact rfl) | refine wpost_cont (⟨none, 0, _, _, _, _, _, _, _, _, _, _, _, _, _, _⟩ : GtS) (by k_asm) nE (by exact fun _ h => h) (by exact (fc rfl (fc rfl (fc rfl (fc rfl (fc rfl fz)))))) (by exact ⟨(mb_go hM hg hb hg2 b2), by (first | assumption | exact ok_ml (by assumption) | exact ok_q (by assumption))⟩) (by exact Nat.lt_succ_self _) (by exact rfl) (by exact rfl) (by exact rfl))
        · intro hb
          obtain ⟨⟨hl1, hl2⟩, hM2⟩ := mq_ot hM hg rfl t1 hn hb
          (k_steps; repeat' (refine stop_out ?_; first | ((k_dflt (refine' s_if1 (slf := Str.ofString "self") (ns := tokNames) (gl_ok _) (cl451 _) ?F ?X ?T ?hs ?I ?hk ?hsk ?hsd ?ht ?_; (case F => k_asm); (case X => k_asm); (case T => k_asm); (case hs => rfl); (case I => k_inst); (case hk => rfl); (case hsk => rfl); (case hsd => rfl); (case ht => rfl); k_whole); intro _); k_steps) | ((first | (refine ite_t (by with_reducible assumption) ?_) | (refine ite_f (by with_reducible assumption) ?_) | (refine ite_f (Bool.and_false _) ?_) | (refine ite_f rfl ?_) | (refine ite_t rfl ?_)); k_steps) | (refine wpAny_If ?_; k_steps)))
          ((try dsimp only); (with_reducible rename News _ _ _ _ => nE); first | refine wpost_next (⟨none, 0, _, _, _, _, _, _, _, _, _, _, _, _, _, _⟩ : GtS) (by k_asm) nE (by exact fun _ h => h) (by exact (fc rfl (fc rfl (fc rfl (fc rfl (fc rfl fz)))))) (by exact ⟨hM2, by (first | assumption | exact ok_ml (by assumption) | exact ok_q (by assumption))⟩) (by exact Nat.lt_succ_self _) (by exact rfl) (by exact rfl) (by exact rfl) | refine wpost_cont (⟨none, 0, _, _, _, _, _, _, _, _, _, _, _, _, _, _⟩ : GtS) (by k_asm) nE (by exact fun _ h => h) (by exact (fc rfl (fc rfl (fc rfl (fc rfl (fc rfl fz)))))) (by exact ⟨hM2, by (first | assumption | exact ok_ml (by assumption) | exact ok_q (by assumption))⟩) (by exact Nat.lt_succ_self _) (by exact rfl) (by exact rfl) (by exact rfl))
theorem over (v : VV) : PP v := by
  with_unfolding_all exact bad_all (hn := NN) (P := PP) core v
end turn
theorem core : get_con2_.core_S.a CC.1 note CC.2.2.1 h2 CC.2.2.2.2.1 CC.2.2.2.2.2 := core_S.h (fun hp8 tk8 uc tuc k q e a ml tml n tln tat tv ttv ty tty esc u h tkk m => turn.over (hp8, tk8, uc, tuc, k, e, a, ml, tml, n, tln, tat, tv, ttv, ty, tty, esc, u, h, tkk, m) q)
theorem over (v : VV) : PP v := by
  with_unfolding_all exact bad_all (hn := NN) (P := PP) core v
end rest
theorem core : SS w mean mg mb T D FA FD k0 k1 k2 k3 k4 k5 k6 k7 k8 k9 f0 f1 uc tuc q e a fn tml tln ttx tat ml n tx k res σ' outer base g s Q E := core_S.h (fun lead note pt h2 tk2 u2 => rest.over (lead, note, pt, h2, tk2, u2) )
theorem over (v : VV) : PP v := by
  with_unfolding_all exact bad_all (hn := NN) (P := PP) core v
end get_con2_
theorem get_con2 {w : World} {mean : ExcName → Option Value} {mg mb : Str → Option Value} {T D FA FD : Nat} {k0 k1 k2 k3 k4 k5 k6 k7 k8 k9 f0 f1 : Tok} {uc : Option Str} {tuc : Tok} {q e a lead note : Bool} {fn : Value} {tml tln ttx tat : Tok} {ml n : Int} {tx : Str} {k : Int} {res : Res} {σ' : TS} {pt : Option PutS}
   (hn1 : D < T) (hn2 : T < FD) (hn3 : FD < FA) (hO : Ok ⟨tx, k, uc, q, e, a, ml, n⟩) (hpt : Drops FA lead note pt) (hG : getT lead note ⟨tx, k, uc, q, e, a, ml, n⟩ = some (res, σ')) :
    ConE w mean mg mb 500 (.ref 264) [.ref T, .bool lead, .bool note] (putLed w pt ++ tokLed w T D FA FD k0 k1 k2 k3 k4 k5 k6 k7 k8 k9 f0 f1 (vUC uc tuc) (putV pt) (.int ml tml) q e a (.ref (cond q 60 59)) (.int n tln) fn (.str tx ttx) (.int k tat))
      (GetR w T D FA FD k0 k1 k2 k3 k4 k5 k6 k7 k8 k9 f0 f1 fn res σ') (GetX res) := fun outer base g s Q E => get_con2_.over (w, mean, mg, mb, T, D, FA, FD, k0, k1, k2, k3, k4, k5, k6, k7, k8, k9, f0, f1, uc, tuc, q, e, a, fn, tml, tln, ttx, tat, ml, n, tx, k, res, σ', outer, base, g, s, Q, E) lead note pt hn1 hn2 hn3 hO hpt hG
end
end Mine
end

section
local macro_rules | `(tactic| walk_at $_) => Lean.Macro.throwUnsupported
local macro_rules | `(tactic| walk_at $_) => Lean.Macro.throwUnsupported
local macro_rules | `(tactic| walk_at $_) => Lean.Macro.throwUnsupported
local macro_rules | `(tactic| walk_at $_) => Lean.Macro.throwUnsupported
local macro_rules | `(tactic| walk_at $_) => Lean.Macro.throwUnsupported
open PySem PySem.W PySem.Calls PyProof.Rows
set_option genInjectivity false
set_option genSizeOf false
namespace Mine
set_option maxHeartbeats 8000000 in
theorem fill4b : PySem.Challenge.rw_jf0021_01 = PySem.Challenge.rw_jf0021_01 ∧ Mine.hd.heap_1 = Mine.hd.heap_1 := by
  k_fill
  exact ⟨rfl, rfl⟩

theorem fm6 {α : Type} {a b c d e f : α} {l : List α} (h1 : a ∈ l) (h2 : b ∈ l) (h3 : c ∈ l) (h4 : d ∈ l) (h5 : e ∈ l) (h6 : f ∈ l) : ∀ p ∈ [a, b, c, d, e, f], p ∈ l :=
  fc h1 (fc h2 (fc h3 (fc h4 (fc h5 (fc h6 fz)))))
/-- what told hands back -/
noncomputable def ToldR (w : World) (T D FA FD : Addr) (k0 k1 k2 k3 k4 k5 k6 k7 k8 k9 f0 f1 : Tok) (fn : Value) (res : Res) (σ' : TS) : Nat → Value → List (Addr × Obj) → Prop := fun _ v led' =>
  match res with
  | .fin => ∃ (r : Nat) (t : Tok), v = .ref r ∧ led' = [(r, tupO [.str (Str.ofString "end") t, .none])]
  | .syn => ∃ (r : Nat) (t : Tok), v = .ref r ∧ led' = [(r, tupO [.str (Str.ofString "syntax") t, .none])]
  | .tok ty vv esc cm => ∃ (r r2 X DX : Nat) (tuc tml tln ttx tat t0 t1 t2 t3 tty tv tcm : Tok), v = .ref r ∧
      led' = (r, tupO [.ref r2, .ref X]) :: (r2, tupO [.int ty tty, .str vv tv, .bool esc, vUC cm tcm]) :: (X, instObj 209 DX) :: (DX, tokenO w t0 t1 t2 t3 ty tty vv tv esc (vUC cm tcm)) ::
        tokLed w T D FA FD k0 k1 k2 k3 k4 k5 k6 k7 k8 k9 f0 f1 (vUC σ'.uc tuc) .none (.int σ'.ml tml) σ'.q σ'.e σ'.a (.ref (cond σ'.q 60 59)) (.int σ'.ln tln) fn (.str σ'.tx ttx) (.int σ'.k tat) ∧
      ((T : Nat) < DX ∧ (D : Nat) < DX ∧ (FA : Nat) < DX ∧ (FD : Nat) < DX) ∧ DX < X ∧ X < r2 ∧ r2 < r
theorem vUC_handed (c : Option Str) (t : Tok) : handedIn (vUC c t) = true := by cases c <;> rfl
section
local macro_rules | `(tactic| k_handed) => `(tactic| exact vUC_handed _ _)
local macro_rules | `(tactic| walk_at "call ref") => `(tactic| refine stop_call [264] rfl ?_)
theorem news_flip {g h : Heap} {L : Addr} {a b : List (Addr × Obj)} (N : News g L h (a ++ b)) : News g L h (b ++ a) := fun p hp => N p (List.mem_append.mpr (List.mem_append.mp hp).symm)
theorem flip_sub {a b : List (Addr × Obj)} : ∀ p ∈ a ++ b, p ∈ b ++ a := fun _ hp => List.mem_append.mpr (List.mem_append.mp hp).symm
namespace told_con2_
noncomputable abbrev VV := (World) × (ExcName → Option Value) × (Str → Option Value) × (Str → Option Value) × (Nat) × (Nat) × (Nat) × (Nat) × (Tok) × (Tok) × (Tok) × (Tok) × (Tok) × (Tok) × (Tok) × (Tok) × (Tok) × (Tok) × (Tok) × (Tok) × (Option Str) × (Tok) × (Bool) × (Bool) × (Bool) × (Bool) × (Bool) × (Value) × (Tok) × (Tok) × (Tok) × (Tok) × (Int) × (Int) × (Str) × (Int) × (TS) × (Option PutS) × (List Env) × (Heap) × (Heap) × (Shared) × (Value → Shared → Prop) × (Value → Shared → Prop)
noncomputable def SS (w : World) (mean : ExcName → Option Value) (mg : Str → Option Value) (mb : Str → Option Value) (T : Nat) (D : Nat) (FA : Nat) (FD : Nat) (k0 : Tok) (k1 : Tok) (k2 : Tok) (k3 : Tok) (k4 : Tok) (k5 : Tok) (k6 : Tok) (k7 : Tok) (k8 : Tok) (k9 : Tok) (f0 : Tok) (f1 : Tok) (uc : Option Str) (tuc : Tok) (q : Bool) (e : Bool) (a : Bool) (lead : Bool) (note : Bool) (fn : Value) (tml : Tok) (tln : Tok) (ttx : Tok) (tat : Tok) (ml : Int) (n : Int) (tx : Str) (k : Int) (σ' : TS) (pt : Option PutS) (outer : List Env) (base : Heap) (g : Heap) (s : Shared) (Q : Value → Shared → Prop) (E : Value → Shared → Prop) : Prop := ∀ (res : Res), (D < T) → (T < FD) → (FD < FA) → (Ok ⟨tx, k, uc, q, e, a, ml, n⟩) → (Drops FA lead note pt) → (getT lead note ⟨tx, k, uc, q, e, a, ml, n⟩ = some (res, σ')) → ConS1 w mean mg mb 400 (.ref 505) [.ref T, .bool lead, .bool note] (putLed w pt ++ tokLed w T D FA FD k0 k1 k2 k3 k4 k5 k6 k7 k8 k9 f0 f1 (vUC uc tuc) (putV pt) (.int ml tml) q e a (.ref (cond q 60 59)) (.int n tln) fn (.str tx ttx) (.int k tat))
      (ToldR w T D FA FD k0 k1 k2 k3 k4 k5 k6 k7 k8 k9 f0 f1 fn res σ') outer base g s Q E
noncomputable def PP (v : VV) : Prop := SS v.1 v.2.1 v.2.2.1 v.2.2.2.1 v.2.2.2.2.1 v.2.2.2.2.2.1 v.2.2.2.2.2.2.1 v.2.2.2.2.2.2.2.1 v.2.2.2.2.2.2.2.2.1 v.2.2.2.2.2.2.2.2.2.1 v.2.2.2.2.2.2.2.2.2.2.1 v.2.2.2.2.2.2.2.2.2.2.2.1 v.2.2.2.2.2.2.2.2.2.2.2.2.1 v.2.2.2.2.2.2.2.2.2.2.2.2.2.1 v.2.2.2.2.2.2.2.2.2.2.2.2.2.2.1 v.2.2.2.2.2.2.2.2.2.2.2.2.2.2.2.1 v.2.2.2.2.2.2.2.2.2.2.2.2.2.2.2.2.1 v.2.2.2.2.2.2.2.2.2.2.2.2.2.2.2.2.2.1 v.2.2.2.2.2.2.2.2.2.2.2.2.2.2.2.2.2.2.1 v.2.2.2.2.2.2.2.2.2.2.2.2.2.2.2.2.2.2.2.1 v.2.2.2.2.2.2.2.2.2.2.2.2.2.2.2.2.2.2.2.2.1 v.2.2.2.2.2.2.2.2.2.2.2.2.2.2.2.2.2.2.2.2.2.1 v.2.2.2.2.2.2.2.2.2.2.2.2.2.2.2.2.2.2.2.2.2.2.1 v.2.2.2.2.2.2.2.2.2.2.2.2.2.2.2.2.2.2.2.2.2.2.2.1 v.2.2.2.2.2.2.2.2.2.2.2.2.2.2.2.2.2.2.2.2.2.2.2.2.1 v.2.2.2.2.2.2.2.2.2.2.2.2.2.2.2.2.2.2.2.2.2.2.2.2.2.1 v.2.2.2.2.2.2.2.2.2.2.2.2.2.2.2.2.2.2.2.2.2.2.2.2.2.2.1 v.2.2.2.2.2.2.2.2.2.2.2.2.2.2.2.2.2.2.2.2.2.2.2.2.2.2.2.1 v.2.2.2.2.2.2.2.2.2.2.2.2.2.2.2.2.2.2.2.2.2.2.2.2.2.2.2.2.1 v.2.2.2.2.2.2.2.2.2.2.2.2.2.2.2.2.2.2.2.2.2.2.2.2.2.2.2.2.2.1 v.2.2.2.2.2.2.2.2.2.2.2.2.2.2.2.2.2.2.2.2.2.2.2.2.2.2.2.2.2.2.1 v.2.2.2.2.2.2.2.2.2.2.2.2.2.2.2.2.2.2.2.2.2.2.2.2.2.2.2.2.2.2.2.1 v.2.2.2.2.2.2.2.2.2.2.2.2.2.2.2.2.2.2.2.2.2.2.2.2.2.2.2.2.2.2.2.2.1 v.2.2.2.2.2.2.2.2.2.2.2.2.2.2.2.2.2.2.2.2.2.2.2.2.2.2.2.2.2.2.2.2.2.1 v.2.2.2.2.2.2.2.2.2.2.2.2.2.2.2.2.2.2.2.2.2.2.2.2.2.2.2.2.2.2.2.2.2.2.1 v.2.2.2.2.2.2.2.2.2.2.2.2.2.2.2.2.2.2.2.2.2.2.2.2.2.2.2.2.2.2.2.2.2.2.2.1 v.2.2.2.2.2.2.2.2.2.2.2.2.2.2.2.2.2.2.2.2.2.2.2.2.2.2.2.2.2.2.2.2.2.2.2.2.1 v.2.2.2.2.2.2.2.2.2.2.2.2.2.2.2.2.2.2.2.2.2.2.2.2.2.2.2.2.2.2.2.2.2.2.2.2.2.1 v.2.2.2.2.2.2.2.2.2.2.2.2.2.2.2.2.2.2.2.2.2.2.2.2.2.2.2.2.2.2.2.2.2.2.2.2.2.2.1 v.2.2.2.2.2.2.2.2.2.2.2.2.2.2.2.2.2.2.2.2.2.2.2.2.2.2.2.2.2.2.2.2.2.2.2.2.2.2.2.1 v.2.2.2.2.2.2.2.2.2.2.2.2.2.2.2.2.2.2.2.2.2.2.2.2.2.2.2.2.2.2.2.2.2.2.2.2.2.2.2.2.1 v.2.2.2.2.2.2.2.2.2.2.2.2.2.2.2.2.2.2.2.2.2.2.2.2.2.2.2.2.2.2.2.2.2.2.2.2.2.2.2.2.2.1 v.2.2.2.2.2.2.2.2.2.2.2.2.2.2.2.2.2.2.2.2.2.2.2.2.2.2.2.2.2.2.2.2.2.2.2.2.2.2.2.2.2.2.1 v.2.2.2.2.2.2.2.2.2.2.2.2.2.2.2.2.2.2.2.2.2.2.2.2.2.2.2.2.2.2.2.2.2.2.2.2.2.2.2.2.2.2.2
theorem NN : Nonempty VV := ⟨(aWorld 0, fun _ => none, fun _ => none, fun _ => none, 0, 0, 0, 0, 0, 0, 0, 0, 0, 0, 0, 0, 0, 0, 0, 0, none, 0, false, false, false, false, false, default, 0, 0, 0, 0, 0, 0, default, 0, ⟨default, 0, none, false, false, false, 0, 0⟩, none, [], default, default, ⟨default, #[], boot_drawn, 0, default⟩, fun _ _ => True, fun _ _ => True)⟩
@[irreducible] noncomputable def CC : VV := bad NN PP
@[irreducible] noncomputable def w : World := CC.1
@[irreducible] noncomputable def mean : ExcName → Option Value := CC.2.1
@[irreducible] noncomputable def mg : Str → Option Value := CC.2.2.1
@[irreducible] noncomputable def mb : Str → Option Value := CC.2.2.2.1
@[irreducible] noncomputable def T : Nat := CC.2.2.2.2.1
@[irreducible] noncomputable def D : Nat := CC.2.2.2.2.2.1
@[irreducible] noncomputable def FA : Nat := CC.2.2.2.2.2.2.1
@[irreducible] noncomputable def FD : Nat := CC.2.2.2.2.2.2.2.1
@[irreducible] noncomputable def k0 : Tok := CC.2.2.2.2.2.2.2.2.1
@[irreducible] noncomputable def k1 : Tok := CC.2.2.2.2.2.2.2.2.2.1
@[irreducible] noncomputable def k2 : Tok := CC.2.2.2.2.2.2.2.2.2.2.1
@[irreducible] noncomputable def k3 : Tok := CC.2.2.2.2.2.2.2.2.2.2.2.1
@[irreducible] noncomputable def k4 : Tok := CC.2.2.2.2.2.2.2.2.2.2.2.2.1
@[irreducible] noncomputable def k5 : Tok := CC.2.2.2.2.2.2.2.2.2.2.2.2.2.1
@[irreducible] noncomputable def k6 : Tok := CC.2.2.2.2.2.2.2.2.2.2.2.2.2.2.1
@[irreducible] noncomputable def k7 : Tok := CC.2.2.2.2.2.2.2.2.2.2.2.2.2.2.2.1
@[irreducible] noncomputable def k8 : Tok := CC.2.2.2.2.2.2.2.2.2.2.2.2.2.2.2.2.1
@[irreducible] noncomputable def k9 : Tok := CC.2.2.2.2.2.2.2.2.2.2.2.2.2.2.2.2.2.1
@[irreducible] noncomputable def f0 : Tok := CC.2.2.2.2.2.2.2.2.2.2.2.2.2.2.2.2.2.2.1
@[irreducible] noncomputable def f1 : Tok := CC.2.2.2.2.2.2.2.2.2.2.2.2.2.2.2.2.2.2.2.1
@[irreducible] noncomputable def uc : Option Str := CC.2.2.2.2.2.2.2.2.2.2.2.2.2.2.2.2.2.2.2.2.1
@[irreducible] noncomputable def tuc : Tok := CC.2.2.2.2.2.2.2.2.2.2.2.2.2.2.2.2.2.2.2.2.2.1
@[irreducible] noncomputable def q : Bool := CC.2.2.2.2.2.2.2.2.2.2.2.2.2.2.2.2.2.2.2.2.2.2.1
@[irreducible] noncomputable def e : Bool := CC.2.2.2.2.2.2.2.2.2.2.2.2.2.2.2.2.2.2.2.2.2.2.2.1
@[irreducible] noncomputable def a : Bool := CC.2.2.2.2.2.2.2.2.2.2.2.2.2.2.2.2.2.2.2.2.2.2.2.2.1
@[irreducible] noncomputable def lead : Bool := CC.2.2.2.2.2.2.2.2.2.2.2.2.2.2.2.2.2.2.2.2.2.2.2.2.2.1
@[irreducible] noncomputable def note : Bool := CC.2.2.2.2.2.2.2.2.2.2.2.2.2.2.2.2.2.2.2.2.2.2.2.2.2.2.1
@[irreducible] noncomputable def fn : Value := CC.2.2.2.2.2.2.2.2.2.2.2.2.2.2.2.2.2.2.2.2.2.2.2.2.2.2.2.1
@[irreducible] noncomputable def tml : Tok := CC.2.2.2.2.2.2.2.2.2.2.2.2.2.2.2.2.2.2.2.2.2.2.2.2.2.2.2.2.1
@[irreducible] noncomputable def tln : Tok := CC.2.2.2.2.2.2.2.2.2.2.2.2.2.2.2.2.2.2.2.2.2.2.2.2.2.2.2.2.2.1
@[irreducible] noncomputable def ttx : Tok := CC.2.2.2.2.2.2.2.2.2.2.2.2.2.2.2.2.2.2.2.2.2.2.2.2.2.2.2.2.2.2.1
@[irreducible] noncomputable def tat : Tok := CC.2.2.2.2.2.2.2.2.2.2.2.2.2.2.2.2.2.2.2.2.2.2.2.2.2.2.2.2.2.2.2.1
@[irreducible] noncomputable def ml : Int := CC.2.2.2.2.2.2.2.2.2.2.2.2.2.2.2.2.2.2.2.2.2.2.2.2.2.2.2.2.2.2.2.2.1
@[irreducible] noncomputable def n : Int := CC.2.2.2.2.2.2.2.2.2.2.2.2.2.2.2.2.2.2.2.2.2.2.2.2.2.2.2.2.2.2.2.2.2.1
@[irreducible] noncomputable def tx : Str := CC.2.2.2.2.2.2.2.2.2.2.2.2.2.2.2.2.2.2.2.2.2.2.2.2.2.2.2.2.2.2.2.2.2.2.1
@[irreducible] noncomputable def k : Int := CC.2.2.2.2.2.2.2.2.2.2.2.2.2.2.2.2.2.2.2.2.2.2.2.2.2.2.2.2.2.2.2.2.2.2.2.1
@[irreducible] noncomputable def σ' : TS := CC.2.2.2.2.2.2.2.2.2.2.2.2.2.2.2.2.2.2.2.2.2.2.2.2.2.2.2.2.2.2.2.2.2.2.2.2.1
@[irreducible] noncomputable def pt : Option PutS := CC.2.2.2.2.2.2.2.2.2.2.2.2.2.2.2.2.2.2.2.2.2.2.2.2.2.2.2.2.2.2.2.2.2.2.2.2.2.1
@[irreducible] noncomputable def outer : List Env := CC.2.2.2.2.2.2.2.2.2.2.2.2.2.2.2.2.2.2.2.2.2.2.2.2.2.2.2.2.2.2.2.2.2.2.2.2.2.2.1
@[irreducible] noncomputable def base : Heap := CC.2.2.2.2.2.2.2.2.2.2.2.2.2.2.2.2.2.2.2.2.2.2.2.2.2.2.2.2.2.2.2.2.2.2.2.2.2.2.2.1
@[irreducible] noncomputable def g : Heap := CC.2.2.2.2.2.2.2.2.2.2.2.2.2.2.2.2.2.2.2.2.2.2.2.2.2.2.2.2.2.2.2.2.2.2.2.2.2.2.2.2.1
@[irreducible] noncomputable def s : Shared := CC.2.2.2.2.2.2.2.2.2.2.2.2.2.2.2.2.2.2.2.2.2.2.2.2.2.2.2.2.2.2.2.2.2.2.2.2.2.2.2.2.2.1
@[irreducible] noncomputable def Q : Value → Shared → Prop := CC.2.2.2.2.2.2.2.2.2.2.2.2.2.2.2.2.2.2.2.2.2.2.2.2.2.2.2.2.2.2.2.2.2.2.2.2.2.2.2.2.2.2.1
@[irreducible] noncomputable def E : Value → Shared → Prop := CC.2.2.2.2.2.2.2.2.2.2.2.2.2.2.2.2.2.2.2.2.2.2.2.2.2.2.2.2.2.2.2.2.2.2.2.2.2.2.2.2.2.2.2
set_option maxHeartbeats 20000000 in
theorem core : SS w mean mg mb T D FA FD k0 k1 k2 k3 k4 k5 k6 k7 k8 k9 f0 f1 uc tuc q e a lead note fn tml tln ttx tat ml n tx k σ' pt outer base g s Q E := by
  intro res hn1 hn2 hn3 hO hpt hG H XB TB hD hret
  (refine wpAny_call ?_; k_dflt (refine' con_enter0 ?kH ?k1 ?k2 ?k3 ?k4 ?k5 ?_ ?c1 ?c2 ?c3 ?c4; (case kH => with_reducible assumption); (case k1 => k_is); (case k2 => k_is); (case k3 => k_room); (case k4 => first | exact BindsTo.of_eq rfl | exact binds_K (H.k.keeps H.st) rfl (by k_is) rfl rfl rfl); (case k5 => exact locs rfl); (case c1 => exact rfl); (case c2 => exact rfl); (case c3 => exact rfl); (case c4 => decide); intro h' tk' F' N' B' X' T' hz' hl'; (try dsimp only)))
  replace N' := news_flip N'
  dsimp only [tokLed, List.cons_append, List.nil_append] at N'
  k_steps
  (refine stop_out ?_; k_dflt ((show wpAny _ _ (call (Value.ref 264) _) _ _ _); (refine' ConE.use (get_con2 ?gn1 ?gn2 ?gn3 ?gO ?gP ?gG) ?kB ?kF ?kX ?kN ?kT ?kD ?kA ?kf ?ke ?kd ?ku ?kh ?h1 ?ret ?exc; (case gP => assumption); (case kB => k_asm); (case kF => k_asm); (case kX => k_asm); (case kN => k_asm); (case kT => k_asm); (case kD => k_asm); (case kA => exact rfl); (case kf => exact rfl); (case ke => exact rfl); (case kd => exact Nat.le_of_ble_eq_true rfl); (case ku => exact Nat.le_of_ble_eq_true rfl); (case kh => exact rfl)); (case h1 => exact flip_sub); (case gG => assumption); (case gn1 => assumption); (case gn2 => assumption); (case gn3 => assumption); (case gO => assumption); k_whole))
  · intro z9 v9 led9 h9 tk9 hz9 F9 N9 R9
    cases res with
    | tok ty vv esc cm =>
      dsimp only [GetR] at R9
      obtain ⟨X, DX, tuc', tml', tln', ttx', tat', t0, t1, t2, t3, tty, tv, tcm, hv9, hl9, hlt, hX⟩ := R9
      subst hv9
      subst hl9
      obtain ⟨hlt1, hlt2, hlt3, hlt4⟩ := hlt
      try dsimp only
      try k_fold
      k_steps
      ((repeat (first | (with_reducible show Mine.Fw _ _ _ _; constructor) | k_unfold | (dsimp only [WPost]) | dsimp only)); refine' con_retS hret ?kF ?kN ?kT ?kz ?kr ?kg ?kd ?ko; (case kg => exact rfl); (case kd => exact rfl); (case ko => exact rfl); (case kF => with_reducible assumption); (case kN => with_reducible assumption); (case kz => with_reducible assumption); (case kT => exact KtsTurn.refl); (case kr => ((dsimp only [ToldR]); (exact ⟨_, _, _, _, _, _, _, _, _, _, _, _, _, _, _, _, rfl, rfl, ⟨hlt1, hlt2, hlt3, hlt4⟩, hX, by (first | lia | omega), by (first | lia | omega)⟩))))
    | syn => exact absurd R9 id
    | fin => exact absurd R9 id
  · intro G c e9 t9 vs9 h9 tk9 hX9 F9 RS RK U
    cases res with
    | tok ty vv esc cm => exact absurd hX9 id
    | syn =>
      have hX9' : c = 44 := hX9
      subst hX9'
      try dsimp only
      try k_fold
      k_steps
      ((repeat (first | (with_reducible show Mine.Fw _ _ _ _; constructor) | k_unfold | (dsimp only [WPost]) | dsimp only)); refine' con_retS hret ?kF ?kN ?kT ?kz ?kr ?kg ?kd ?ko; (case kg => exact rfl); (case kd => exact rfl); (case ko => exact rfl); (case kF => with_reducible assumption); (case kN => with_reducible assumption); (case kz => with_reducible assumption); (case kT => assumption); (case kr => ((dsimp only [ToldR]); (exact ⟨_, _, rfl, rfl⟩))))
    | fin =>
      have hX9' : c = 56 := hX9
      subst hX9'
      try dsimp only
      try k_fold
      k_steps
      ((repeat (first | (with_reducible show Mine.Fw _ _ _ _; constructor) | k_unfold | (dsimp only [WPost]) | dsimp only)); refine' con_retS hret ?kF ?kN ?kT ?kz ?kr ?kg ?kd ?ko; (case kg => exact rfl); (case kd => exact rfl); (case ko => exact rfl); (case kF => with_reducible assumption); (case kN => with_reducible assumption); (case kz => with_reducible assumption); (case kT => assumption); (case kr => ((dsimp only [ToldR]); (exact ⟨_, _, rfl, rfl⟩))))
theorem over (v : VV) : PP v := by
  with_unfolding_all exact bad_all (hn := NN) (P := PP) core v
end told_con2_
theorem told_con2 {w : World} {mean : ExcName → Option Value} {mg mb : Str → Option Value} {T D FA FD : Nat} {k0 k1 k2 k3 k4 k5 k6 k7 k8 k9 f0 f1 : Tok} {uc : Option Str} {tuc : Tok} {q e a lead note : Bool} {fn : Value} {tml tln ttx tat : Tok} {ml n : Int} {tx : Str} {k : Int} {res : Res} {σ' : TS} {pt : Option PutS}
   (hn1 : D < T) (hn2 : T < FD) (hn3 : FD < FA) (hO : Ok ⟨tx, k, uc, q, e, a, ml, n⟩) (hpt : Drops FA lead note pt) (hG : getT lead note ⟨tx, k, uc, q, e, a, ml, n⟩ = some (res, σ')) :
    ConS w mean mg mb 400 (.ref 505) [.ref T, .bool lead, .bool note] (putLed w pt ++ tokLed w T D FA FD k0 k1 k2 k3 k4 k5 k6 k7 k8 k9 f0 f1 (vUC uc tuc) (putV pt) (.int ml tml) q e a (.ref (cond q 60 59)) (.int n tln) fn (.str tx ttx) (.int k tat))
      (ToldR w T D FA FD k0 k1 k2 k3 k4 k5 k6 k7 k8 k9 f0 f1 fn res σ') := fun outer base g s Q E => told_con2_.over (w, mean, mg, mb, T, D, FA, FD, k0, k1, k2, k3, k4, k5, k6, k7, k8, k9, f0, f1, uc, tuc, q, e, a, lead, note, fn, tml, tln, ttx, tat, ml, n, tx, k, σ', pt, outer, base, g, s, Q, E) res hn1 hn2 hn3 hO hpt hG
theorem told_none {w : World} {mean : ExcName → Option Value} {mg mb : Str → Option Value} {T D FA FD : Nat} {k0 k1 k2 k3 k4 k5 k6 k7 k8 k9 f0 f1 : Tok} {uc : Option Str} {tuc : Tok} {q e a lead note : Bool} {fn : Value} {tml tln ttx tat : Tok} {ml n : Int} {tx : Str} {k : Int} {res : Res} {σ' : TS}
   (hn1 : D < T) (hn2 : T < FD) (hn3 : FD < FA) (hO : Ok ⟨tx, k, uc, q, e, a, ml, n⟩) (hG : getT lead note ⟨tx, k, uc, q, e, a, ml, n⟩ = some (res, σ')) :
    ConS w mean mg mb 400 (.ref 505) [.ref T, .bool lead, .bool note] (tokLed w T D FA FD k0 k1 k2 k3 k4 k5 k6 k7 k8 k9 f0 f1 (vUC uc tuc) .none (.int ml tml) q e a (.ref (cond q 60 59)) (.int n tln) fn (.str tx ttx) (.int k tat))
      (ToldR w T D FA FD k0 k1 k2 k3 k4 k5 k6 k7 k8 k9 f0 f1 fn res σ') :=
  told_con2 (pt := none) hn1 hn2 hn3 hO trivial hG
theorem told_some {w : World} {mean : ExcName → Option Value} {mg mb : Str → Option Value} {T D FA FD : Nat} {k0 k1 k2 k3 k4 k5 k6 k7 k8 k9 f0 f1 : Tok} {uc : Option Str} {tuc : Tok} {q e a lead note : Bool} {fn : Value} {tml tln ttx tat : Tok} {ml n : Int} {tx : Str} {k : Int} {res : Res} {σ' : TS} {p : PutS}
   (hn1 : D < T) (hn2 : T < FD) (hn3 : FD < FA) (hO : Ok ⟨tx, k, uc, q, e, a, ml, n⟩) (hpt : Drops FA lead note (some p)) (hG : getT lead note ⟨tx, k, uc, q, e, a, ml, n⟩ = some (res, σ')) :
    ConS w mean mg mb 400 (.ref 505) [.ref T, .bool lead, .bool note] (putLed w (some p) ++ tokLed w T D FA FD k0 k1 k2 k3 k4 k5 k6 k7 k8 k9 f0 f1 (vUC uc tuc) (putV (some p)) (.int ml tml) q e a (.ref (cond q 60 59)) (.int n tln) fn (.str tx ttx) (.int k tat))
      (ToldR w T D FA FD k0 k1 k2 k3 k4 k5 k6 k7 k8 k9 f0 f1 fn res σ') :=
  told_con2 hn1 hn2 hn3 hO hpt hG
end
end Mine
end

section
local macro_rules | `(tactic| walk_at $_) => Lean.Macro.throwUnsupported
local macro_rules | `(tactic| walk_at $_) => Lean.Macro.throwUnsupported
local macro_rules | `(tactic| walk_at $_) => Lean.Macro.throwUnsupported
local macro_rules | `(tactic| walk_at $_) => Lean.Macro.throwUnsupported
local macro_rules | `(tactic| walk_at $_) => Lean.Macro.throwUnsupported
local macro_rules | `(tactic| walk_at $_) => Lean.Macro.throwUnsupported
local macro_rules | `(tactic| walk_at $_) => Lean.Macro.throwUnsupported
open PySem PySem.W PySem.Calls PyProof.Rows
set_option genInjectivity false
set_option genSizeOf false
namespace Mine
set_option maxHeartbeats 8000000 in
theorem fill9 : PySem.Challenge.rw_jf0021_01 = PySem.Challenge.rw_jf0021_01 ∧ Mine.hd.heap_1 = Mine.hd.heap_1 := by
  k_fill
  exact ⟨rfl, rfl⟩

section
local macro_rules | `(tactic| walk_at "exec Raise some none") => `(tactic| refine stop_raise ?_)
namespace put_con_
noncomputable abbrev VV := (World) × (ExcName → Option Value) × (Str → Option Value) × (Str → Option Value) × (Nat) × (Nat) × (Nat) × (Nat) × (Nat) × (Nat) × (Tok) × (Tok) × (Tok) × (Tok) × (Tok) × (Tok) × (Tok) × (Tok) × (Tok) × (Tok) × (Tok) × (Tok) × (Tok) × (Tok) × (Tok) × (Tok) × (Tok) × (Tok) × (Option Str) × (Option Str) × (Tok) × (Tok) × (Bool) × (Bool) × (Bool) × (Bool) × (Value) × (Tok) × (Tok) × (Tok) × (Tok) × (Int) × (Int) × (Int) × (Str) × (Str) × (Int) × (List Env) × (Heap) × (Heap) × (Shared) × (Value → Shared → Prop) × (Value → Shared → Prop)
noncomputable def SS (w : World) (mean : ExcName → Option Value) (mg : Str → Option Value) (mb : Str → Option Value) (T : Nat) (D : Nat) (FA : Nat) (FD : Nat) (X : Nat) (DX : Nat) (k0 : Tok) (k1 : Tok) (k2 : Tok) (k3 : Tok) (k4 : Tok) (k5 : Tok) (k6 : Tok) (k7 : Tok) (k8 : Tok) (k9 : Tok) (f0 : Tok) (f1 : Tok) (t0 : Tok) (t1 : Tok) (t2 : Tok) (t3 : Tok) (tty : Tok) (tv : Tok) (uc : Option Str) (cm : Option Str) (tuc : Tok) (tcm : Tok) (q : Bool) (e : Bool) (a : Bool) (esc : Bool) (fn : Value) (tml : Tok) (tln : Tok) (ttx : Tok) (tat : Tok) (ml : Int) (n : Int) (ty : Int) (tx : Str) (vv : Str) (k : Int) (outer : List Env) (base : Heap) (g : Heap) (s : Shared) (Q : Value → Shared → Prop) (E : Value → Shared → Prop) : Prop := (D < T) → (T < FD) → (FD < FA) → (FA < DX) → (DX < X) → ConS1 w mean mg mb 400 (.ref 512) [.ref T, .ref X] ((X, instObj 209 DX) :: (DX, tokenO w t0 t1 t2 t3 ty tty vv tv esc (vUC cm tcm)) :: tokLed w T D FA FD k0 k1 k2 k3 k4 k5 k6 k7 k8 k9 f0 f1 (vUC uc tuc) .none (.int ml tml) q e a (.ref (cond q 60 59)) (.int n tln) fn (.str tx ttx) (.int k tat))
      (fun _ v led' => v = .bool true ∧ led' = ((X, instObj 209 DX) :: (DX, tokenO w t0 t1 t2 t3 ty tty vv tv esc (vUC cm tcm)) :: tokLed w T D FA FD k0 k1 k2 k3 k4 k5 k6 k7 k8 k9 f0 f1 (vUC uc tuc) (.ref X) (.int ml tml) q e a (.ref (cond q 60 59)) (.int n tln) fn (.str tx ttx) (.int k tat))) outer base g s Q E
noncomputable def PP (v : VV) : Prop := SS v.1 v.2.1 v.2.2.1 v.2.2.2.1 v.2.2.2.2.1 v.2.2.2.2.2.1 v.2.2.2.2.2.2.1 v.2.2.2.2.2.2.2.1 v.2.2.2.2.2.2.2.2.1 v.2.2.2.2.2.2.2.2.2.1 v.2.2.2.2.2.2.2.2.2.2.1 v.2.2.2.2.2.2.2.2.2.2.2.1 v.2.2.2.2.2.2.2.2.2.2.2.2.1 v.2.2.2.2.2.2.2.2.2.2.2.2.2.1 v.2.2.2.2.2.2.2.2.2.2.2.2.2.2.1 v.2.2.2.2.2.2.2.2.2.2.2.2.2.2.2.1 v.2.2.2.2.2.2.2.2.2.2.2.2.2.2.2.2.1 v.2.2.2.2.2.2.2.2.2.2.2.2.2.2.2.2.2.1 v.2.2.2.2.2.2.2.2.2.2.2.2.2.2.2.2.2.2.1 v.2.2.2.2.2.2.2.2.2.2.2.2.2.2.2.2.2.2.2.1 v.2.2.2.2.2.2.2.2.2.2.2.2.2.2.2.2.2.2.2.2.1 v.2.2.2.2.2.2.2.2.2.2.2.2.2.2.2.2.2.2.2.2.2.1 v.2.2.2.2.2.2.2.2.2.2.2.2.2.2.2.2.2.2.2.2.2.2.1 v.2.2.2.2.2.2.2.2.2.2.2.2.2.2.2.2.2.2.2.2.2.2.2.1 v.2.2.2.2.2.2.2.2.2.2.2.2.2.2.2.2.2.2.2.2.2.2.2.2.1 v.2.2.2.2.2.2.2.2.2.2.2.2.2.2.2.2.2.2.2.2.2.2.2.2.2.1 v.2.2.2.2.2.2.2.2.2.2.2.2.2.2.2.2.2.2.2.2.2.2.2.2.2.2.1 v.2.2.2.2.2.2.2.2.2.2.2.2.2.2.2.2.2.2.2.2.2.2.2.2.2.2.2.1 v.2.2.2.2.2.2.2.2.2.2.2.2.2.2.2.2.2.2.2.2.2.2.2.2.2.2.2.2.1 v.2.2.2.2.2.2.2.2.2.2.2.2.2.2.2.2.2.2.2.2.2.2.2.2.2.2.2.2.2.1 v.2.2.2.2.2.2.2.2.2.2.2.2.2.2.2.2.2.2.2.2.2.2.2.2.2.2.2.2.2.2.1 v.2.2.2.2.2.2.2.2.2.2.2.2.2.2.2.2.2.2.2.2.2.2.2.2.2.2.2.2.2.2.2.1 v.2.2.2.2.2.2.2.2.2.2.2.2.2.2.2.2.2.2.2.2.2.2.2.2.2.2.2.2.2.2.2.2.1 v.2.2.2.2.2.2.2.2.2.2.2.2.2.2.2.2.2.2.2.2.2.2.2.2.2.2.2.2.2.2.2.2.2.1 v.2.2.2.2.2.2.2.2.2.2.2.2.2.2.2.2.2.2.2.2.2.2.2.2.2.2.2.2.2.2.2.2.2.2.1 v.2.2.2.2.2.2.2.2.2.2.2.2.2.2.2.2.2.2.2.2.2.2.2.2.2.2.2.2.2.2.2.2.2.2.2.1 v.2.2.2.2.2.2.2.2.2.2.2.2.2.2.2.2.2.2.2.2.2.2.2.2.2.2.2.2.2.2.2.2.2.2.2.2.1 v.2.2.2.2.2.2.2.2.2.2.2.2.2.2.2.2.2.2.2.2.2.2.2.2.2.2.2.2.2.2.2.2.2.2.2.2.2.1 v.2.2.2.2.2.2.2.2.2.2.2.2.2.2.2.2.2.2.2.2.2.2.2.2.2.2.2.2.2.2.2.2.2.2.2.2.2.2.1 v.2.2.2.2.2.2.2.2.2.2.2.2.2.2.2.2.2.2.2.2.2.2.2.2.2.2.2.2.2.2.2.2.2.2.2.2.2.2.2.1 v.2.2.2.2.2.2.2.2.2.2.2.2.2.2.2.2.2.2.2.2.2.2.2.2.2.2.2.2.2.2.2.2.2.2.2.2.2.2.2.2.1 v.2.2.2.2.2.2.2.2.2.2.2.2.2.2.2.2.2.2.2.2.2.2.2.2.2.2.2.2.2.2.2.2.2.2.2.2.2.2.2.2.2.1 v.2.2.2.2.2.2.2.2.2.2.2.2.2.2.2.2.2.2.2.2.2.2.2.2.2.2.2.2.2.2.2.2.2.2.2.2.2.2.2.2.2.2.1 v.2.2.2.2.2.2.2.2.2.2.2.2.2.2.2.2.2.2.2.2.2.2.2.2.2.2.2.2.2.2.2.2.2.2.2.2.2.2.2.2.2.2.2.1 v.2.2.2.2.2.2.2.2.2.2.2.2.2.2.2.2.2.2.2.2.2.2.2.2.2.2.2.2.2.2.2.2.2.2.2.2.2.2.2.2.2.2.2.2.1 v.2.2.2.2.2.2.2.2.2.2.2.2.2.2.2.2.2.2.2.2.2.2.2.2.2.2.2.2.2.2.2.2.2.2.2.2.2.2.2.2.2.2.2.2.2.1 v.2.2.2.2.2.2.2.2.2.2.2.2.2.2.2.2.2.2.2.2.2.2.2.2.2.2.2.2.2.2.2.2.2.2.2.2.2.2.2.2.2.2.2.2.2.2.1 v.2.2.2.2.2.2.2.2.2.2.2.2.2.2.2.2.2.2.2.2.2.2.2.2.2.2.2.2.2.2.2.2.2.2.2.2.2.2.2.2.2.2.2.2.2.2.2.1 v.2.2.2.2.2.2.2.2.2.2.2.2.2.2.2.2.2.2.2.2.2.2.2.2.2.2.2.2.2.2.2.2.2.2.2.2.2.2.2.2.2.2.2.2.2.2.2.2.1 v.2.2.2.2.2.2.2.2.2.2.2.2.2.2.2.2.2.2.2.2.2.2.2.2.2.2.2.2.2.2.2.2.2.2.2.2.2.2.2.2.2.2.2.2.2.2.2.2.2.1 v.2.2.2.2.2.2.2.2.2.2.2.2.2.2.2.2.2.2.2.2.2.2.2.2.2.2.2.2.2.2.2.2.2.2.2.2.2.2.2.2.2.2.2.2.2.2.2.2.2.2.1 v.2.2.2.2.2.2.2.2.2.2.2.2.2.2.2.2.2.2.2.2.2.2.2.2.2.2.2.2.2.2.2.2.2.2.2.2.2.2.2.2.2.2.2.2.2.2.2.2.2.2.2.1 v.2.2.2.2.2.2.2.2.2.2.2.2.2.2.2.2.2.2.2.2.2.2.2.2.2.2.2.2.2.2.2.2.2.2.2.2.2.2.2.2.2.2.2.2.2.2.2.2.2.2.2.2
theorem NN : Nonempty VV := ⟨(aWorld 0, fun _ => none, fun _ => none, fun _ => none, 0, 0, 0, 0, 0, 0, 0, 0, 0, 0, 0, 0, 0, 0, 0, 0, 0, 0, 0, 0, 0, 0, 0, 0, none, none, 0, 0, false, false, false, false, default, 0, 0, 0, 0, 0, 0, 0, default, default, 0, [], default, default, ⟨default, #[], boot_drawn, 0, default⟩, fun _ _ => True, fun _ _ => True)⟩
@[irreducible] noncomputable def CC : VV := bad NN PP
@[irreducible] noncomputable def w : World := CC.1
@[irreducible] noncomputable def mean : ExcName → Option Value := CC.2.1
@[irreducible] noncomputable def mg : Str → Option Value := CC.2.2.1
@[irreducible] noncomputable def mb : Str → Option Value := CC.2.2.2.1
@[irreducible] noncomputable def T : Nat := CC.2.2.2.2.1
@[irreducible] noncomputable def D : Nat := CC.2.2.2.2.2.1
@[irreducible] noncomputable def FA : Nat := CC.2.2.2.2.2.2.1
@[irreducible] noncomputable def FD : Nat := CC.2.2.2.2.2.2.2.1
@[irreducible] noncomputable def X : Nat := CC.2.2.2.2.2.2.2.2.1
@[irreducible] noncomputable def DX : Nat := CC.2.2.2.2.2.2.2.2.2.1
@[irreducible] noncomputable def k0 : Tok := CC.2.2.2.2.2.2.2.2.2.2.1
@[irreducible] noncomputable def k1 : Tok := CC.2.2.2.2.2.2.2.2.2.2.2.1
@[irreducible] noncomputable def k2 : Tok := CC.2.2.2.2.2.2.2.2.2.2.2.2.1
@[irreducible] noncomputable def k3 : Tok := CC.2.2.2.2.2.2.2.2.2.2.2.2.2.1
@[irreducible] noncomputable def k4 : Tok := CC.2.2.2.2.2.2.2.2.2.2.2.2.2.2.1
@[irreducible] noncomputable def k5 : Tok := CC.2.2.2.2.2.2.2.2.2.2.2.2.2.2.2.1
@[irreducible] noncomputable def k6 : Tok := CC.2.2.2.2.2.2.2.2.2.2.2.2.2.2.2.2.1
@[irreducible] noncomputable def k7 : Tok := CC.2.2.2.2.2.2.2.2.2.2.2.2.2.2.2.2.2.1
@[irreducible] noncomputable def k8 : Tok := CC.2.2.2.2.2.2.2.2.2.2.2.2.2.2.2.2.2.2.1
@[irreducible] noncomputable def k9 : Tok := CC.2.2.2.2.2.2.2.2.2.2.2.2.2.2.2.2.2.2.2.1
@[irreducible] noncomputable def f0 : Tok := CC.2.2.2.2.2.2.2.2.2.2.2.2.2.2.2.2.2.2.2.2.1
@[irreducible] noncomputable def f1 : Tok := CC.2.2.2.2.2.2.2.2.2.2.2.2.2.2.2.2.2.2.2.2.2.1
@[irreducible] noncomputable def t0 : Tok := CC.2.2.2.2.2.2.2.2.2.2.2.2.2.2.2.2.2.2.2.2.2.2.1
@[irreducible] noncomputable def t1 : Tok := CC.2.2.2.2.2.2.2.2.2.2.2.2.2.2.2.2.2.2.2.2.2.2.2.1
@[irreducible] noncomputable def t2 : Tok := CC.2.2.2.2.2.2.2.2.2.2.2.2.2.2.2.2.2.2.2.2.2.2.2.2.1
@[irreducible] noncomputable def t3 : Tok := CC.2.2.2.2.2.2.2.2.2.2.2.2.2.2.2.2.2.2.2.2.2.2.2.2.2.1
@[irreducible] noncomputable def tty : Tok := CC.2.2.2.2.2.2.2.2.2.2.2.2.2.2.2.2.2.2.2.2.2.2.2.2.2.2.1
@[irreducible] noncomputable def tv : Tok := CC.2.2.2.2.2.2.2.2.2.2.2.2.2.2.2.2.2.2.2.2.2.2.2.2.2.2.2.1
@[irreducible] noncomputable def uc : Option Str := CC.2.2.2.2.2.2.2.2.2.2.2.2.2.2.2.2.2.2.2.2.2.2.2.2.2.2.2.2.1
@[irreducible] noncomputable def cm : Option Str := CC.2.2.2.2.2.2.2.2.2.2.2.2.2.2.2.2.2.2.2.2.2.2.2.2.2.2.2.2.2.1
@[irreducible] noncomputable def tuc : Tok := CC.2.2.2.2.2.2.2.2.2.2.2.2.2.2.2.2.2.2.2.2.2.2.2.2.2.2.2.2.2.2.1
@[irreducible] noncomputable def tcm : Tok := CC.2.2.2.2.2.2.2.2.2.2.2.2.2.2.2.2.2.2.2.2.2.2.2.2.2.2.2.2.2.2.2.1
@[irreducible] noncomputable def q : Bool := CC.2.2.2.2.2.2.2.2.2.2.2.2.2.2.2.2.2.2.2.2.2.2.2.2.2.2.2.2.2.2.2.2.1
@[irreducible] noncomputable def e : Bool := CC.2.2.2.2.2.2.2.2.2.2.2.2.2.2.2.2.2.2.2.2.2.2.2.2.2.2.2.2.2.2.2.2.2.1
@[irreducible] noncomputable def a : Bool := CC.2.2.2.2.2.2.2.2.2.2.2.2.2.2.2.2.2.2.2.2.2.2.2.2.2.2.2.2.2.2.2.2.2.2.1
@[irreducible] noncomputable def esc : Bool := CC.2.2.2.2.2.2.2.2.2.2.2.2.2.2.2.2.2.2.2.2.2.2.2.2.2.2.2.2.2.2.2.2.2.2.2.1
@[irreducible] noncomputable def fn : Value := CC.2.2.2.2.2.2.2.2.2.2.2.2.2.2.2.2.2.2.2.2.2.2.2.2.2.2.2.2.2.2.2.2.2.2.2.2.1
@[irreducible] noncomputable def tml : Tok := CC.2.2.2.2.2.2.2.2.2.2.2.2.2.2.2.2.2.2.2.2.2.2.2.2.2.2.2.2.2.2.2.2.2.2.2.2.2.1
@[irreducible] noncomputable def tln : Tok := CC.2.2.2.2.2.2.2.2.2.2.2.2.2.2.2.2.2.2.2.2.2.2.2.2.2.2.2.2.2.2.2.2.2.2.2.2.2.2.1
@[irreducible] noncomputable def ttx : Tok := CC.2.2.2.2.2.2.2.2.2.2.2.2.2.2.2.2.2.2.2.2.2.2.2.2.2.2.2.2.2.2.2.2.2.2.2.2.2.2.2.1
@[irreducible] noncomputable def tat : Tok := CC.2.2.2.2.2.2.2.2.2.2.2.2.2.2.2.2.2.2.2.2.2.2.2.2.2.2.2.2.2.2.2.2.2.2.2.2.2.2.2.2.1
@[irreducible] noncomputable def ml : Int := CC.2.2.2.2.2.2.2.2.2.2.2.2.2.2.2.2.2.2.2.2.2.2.2.2.2.2.2.2.2.2.2.2.2.2.2.2.2.2.2.2.2.1
@[irreducible] noncomputable def n : Int := CC.2.2.2.2.2.2.2.2.2.2.2.2.2.2.2.2.2.2.2.2.2.2.2.2.2.2.2.2.2.2.2.2.2.2.2.2.2.2.2.2.2.2.1
@[irreducible] noncomputable def ty : Int := CC.2.2.2.2.2.2.2.2.2.2.2.2.2.2.2.2.2.2.2.2.2.2.2.2.2.2.2.2.2.2.2.2.2.2.2.2.2.2.2.2.2.2.2.1
@[irreducible] noncomputable def tx : Str := CC.2.2.2.2.2.2.2.2.2.2.2.2.2.2.2.2.2.2.2.2.2.2.2.2.2.2.2.2.2.2.2.2.2.2.2.2.2.2.2.2.2.2.2.2.1
@[irreducible] noncomputable def vv : Str := CC.2.2.2.2.2.2.2.2.2.2.2.2.2.2.2.2.2.2.2.2.2.2.2.2.2.2.2.2.2.2.2.2.2.2.2.2.2.2.2.2.2.2.2.2.2.1
@[irreducible] noncomputable def k : Int := CC.2.2.2.2.2.2.2.2.2.2.2.2.2.2.2.2.2.2.2.2.2.2.2.2.2.2.2.2.2.2.2.2.2.2.2.2.2.2.2.2.2.2.2.2.2.2.1
@[irreducible] noncomputable def outer : List Env := CC.2.2.2.2.2.2.2.2.2.2.2.2.2.2.2.2.2.2.2.2.2.2.2.2.2.2.2.2.2.2.2.2.2.2.2.2.2.2.2.2.2.2.2.2.2.2.2.1
@[irreducible] noncomputable def base : Heap := CC.2.2.2.2.2.2.2.2.2.2.2.2.2.2.2.2.2.2.2.2.2.2.2.2.2.2.2.2.2.2.2.2.2.2.2.2.2.2.2.2.2.2.2.2.2.2.2.2.1
@[irreducible] noncomputable def g : Heap := CC.2.2.2.2.2.2.2.2.2.2.2.2.2.2.2.2.2.2.2.2.2.2.2.2.2.2.2.2.2.2.2.2.2.2.2.2.2.2.2.2.2.2.2.2.2.2.2.2.2.1
@[irreducible] noncomputable def s : Shared := CC.2.2.2.2.2.2.2.2.2.2.2.2.2.2.2.2.2.2.2.2.2.2.2.2.2.2.2.2.2.2.2.2.2.2.2.2.2.2.2.2.2.2.2.2.2.2.2.2.2.2.1
@[irreducible] noncomputable def Q : Value → Shared → Prop := CC.2.2.2.2.2.2.2.2.2.2.2.2.2.2.2.2.2.2.2.2.2.2.2.2.2.2.2.2.2.2.2.2.2.2.2.2.2.2.2.2.2.2.2.2.2.2.2.2.2.2.2.1
@[irreducible] noncomputable def E : Value → Shared → Prop := CC.2.2.2.2.2.2.2.2.2.2.2.2.2.2.2.2.2.2.2.2.2.2.2.2.2.2.2.2.2.2.2.2.2.2.2.2.2.2.2.2.2.2.2.2.2.2.2.2.2.2.2.2
set_option maxHeartbeats 20000000 in
theorem core : SS w mean mg mb T D FA FD X DX k0 k1 k2 k3 k4 k5 k6 k7 k8 k9 f0 f1 t0 t1 t2 t3 tty tv uc cm tuc tcm q e a esc fn tml tln ttx tat ml n ty tx vv k outer base g s Q E := by
  intro hn1 hn2 hn3 hd1 hX H XB TB hD hret
  have hd2 : T < DX := by (first | lia | omega)
  have hd3 : D < DX := by (first | lia | omega)
  have hd4 : FD < DX := by (first | lia | omega)
  (refine wpAny_call ?_; k_dflt (refine' con_enter0 ?kH ?k1 ?k2 ?k3 ?k4 ?k5 ?_ ?c1 ?c2 ?c3 ?c4; (case kH => with_reducible assumption); (case k1 => k_is); (case k2 => k_is); (case k3 => k_room); (case k4 => first | exact BindsTo.of_eq rfl | exact binds_K (H.k.keeps H.st) rfl (by k_is) rfl rfl rfl); (case k5 => exact locs rfl); (case c1 => exact rfl); (case c2 => exact rfl); (case c3 => exact rfl); (case c4 => decide); intro h' tk' F' N' B' X' T' hz' hl'; (try dsimp only)))
  k_steps
  (refine stop_out ?_; k_dflt (refine' Raise_classO ?F ?g ?O PySem.F.excBase_Exception ?h ?_ ?c ?d ?e; (case F => k_asm); (case g => exact TopRead.g (by k_asm)); (case O => exact own_of_in (by k_asm) (by k_asm) (by k_is) (by k_exc)); (case h => exact rfl); (case c => exact rfl); (case d => exact rfl); (case e => decide); k_whole); (try k_steps))
  ((repeat (first | (with_reducible show Mine.Fw _ _ _ _; constructor) | k_unfold | (dsimp only [WPost]) | dsimp only)); refine' con_retS hret ?kF ?kN ?kT ?kz ?kr ?kg ?kd ?ko; (case kg => exact rfl); (case kd => exact rfl); (case ko => exact rfl); (case kF => with_reducible assumption); (case kr => exact ⟨rfl, rfl⟩); (case kz => with_reducible assumption); (case kT => assumption); (case kN => (refine' cb_drop ?kn ?ks; (case kn => with_reducible assumption); (case ks => exact fm6 (by k_mem) (by k_mem) (by k_mem) (by k_mem) (by k_mem) (by k_mem)))))
theorem over (v : VV) : PP v := by
  with_unfolding_all exact bad_all (hn := NN) (P := PP) core v
end put_con_
theorem put_con {w : World} {mean : ExcName → Option Value} {mg mb : Str → Option Value} {T D FA FD X DX : Nat} {k0 k1 k2 k3 k4 k5 k6 k7 k8 k9 f0 f1 t0 t1 t2 t3 tty tv : Tok} {uc cm : Option Str} {tuc tcm : Tok} {q e a esc : Bool} {fn : Value} {tml tln ttx tat : Tok} {ml n ty : Int} {tx vv : Str} {k : Int}
   (hn1 : D < T) (hn2 : T < FD) (hn3 : FD < FA) (hd1 : FA < DX) (hX : DX < X) :
    ConS w mean mg mb 400 (.ref 512) [.ref T, .ref X] ((X, instObj 209 DX) :: (DX, tokenO w t0 t1 t2 t3 ty tty vv tv esc (vUC cm tcm)) :: tokLed w T D FA FD k0 k1 k2 k3 k4 k5 k6 k7 k8 k9 f0 f1 (vUC uc tuc) .none (.int ml tml) q e a (.ref (cond q 60 59)) (.int n tln) fn (.str tx ttx) (.int k tat))
      (fun _ v led' => v = .bool true ∧ led' = ((X, instObj 209 DX) :: (DX, tokenO w t0 t1 t2 t3 ty tty vv tv esc (vUC cm tcm)) :: tokLed w T D FA FD k0 k1 k2 k3 k4 k5 k6 k7 k8 k9 f0 f1 (vUC uc tuc) (.ref X) (.int ml tml) q e a (.ref (cond q 60 59)) (.int n tln) fn (.str tx ttx) (.int k tat))) := fun outer base g s Q E => put_con_.over (w, mean, mg, mb, T, D, FA, FD, X, DX, k0, k1, k2, k3, k4, k5, k6, k7, k8, k9, f0, f1, t0, t1, t2, t3, tty, tv, uc, cm, tuc, tcm, q, e, a, esc, fn, tml, tln, ttx, tat, ml, n, ty, tx, vv, k, outer, base, g, s, Q, E) hn1 hn2 hn3 hd1 hX
namespace where_con_
noncomputable abbrev VV := (World) × (ExcName → Option Value) × (Str → Option Value) × (Str → Option Value) × (Nat) × (Nat) × (Nat) × (Nat) × (Tok) × (Tok) × (Tok) × (Tok) × (Tok) × (Tok) × (Tok) × (Tok) × (Tok) × (Tok) × (Tok) × (Tok) × (Option Str) × (Tok) × (Bool) × (Bool) × (Bool) × (Str) × (Tok) × (Tok) × (Tok) × (Tok) × (Tok) × (Int) × (Int) × (Str) × (Int) × (List Env) × (Heap) × (Heap) × (Shared) × (Value → Shared → Prop) × (Value → Shared → Prop)
noncomputable def SS (w : World) (mean : ExcName → Option Value) (mg : Str → Option Value) (mb : Str → Option Value) (T : Nat) (D : Nat) (FA : Nat) (FD : Nat) (k0 : Tok) (k1 : Tok) (k2 : Tok) (k3 : Tok) (k4 : Tok) (k5 : Tok) (k6 : Tok) (k7 : Tok) (k8 : Tok) (k9 : Tok) (f0 : Tok) (f1 : Tok) (uc : Option Str) (tuc : Tok) (q : Bool) (e : Bool) (a : Bool) (fn : Str) (tfn : Tok) (tml : Tok) (tln : Tok) (ttx : Tok) (tat : Tok) (ml : Int) (n : Int) (tx : Str) (k : Int) (outer : List Env) (base : Heap) (g : Heap) (s : Shared) (Q : Value → Shared → Prop) (E : Value → Shared → Prop) : Prop := (D < T) → (T < FD) → (FD < FA) → Con1 w mean mg mb 400 (.ref 242) [.ref T] (tokLed w T D FA FD k0 k1 k2 k3 k4 k5 k6 k7 k8 k9 f0 f1 (vUC uc tuc) .none (.int ml tml) q e a (.ref (cond q 60 59)) (.int n tln) (.str fn tfn) (.str tx ttx) (.int k tat)) (fun _ => True)
      (fun _ v led' => ∃ r : Nat, v = .ref r ∧ led' = (r, tupO [.str fn tfn, .int n tln]) :: tokLed w T D FA FD k0 k1 k2 k3 k4 k5 k6 k7 k8 k9 f0 f1 (vUC uc tuc) .none (.int ml tml) q e a (.ref (cond q 60 59)) (.int n tln) (.str fn tfn) (.str tx ttx) (.int k tat) ∧ FA < r) outer base g s Q E
noncomputable def PP (v : VV) : Prop := SS v.1 v.2.1 v.2.2.1 v.2.2.2.1 v.2.2.2.2.1 v.2.2.2.2.2.1 v.2.2.2.2.2.2.1 v.2.2.2.2.2.2.2.1 v.2.2.2.2.2.2.2.2.1 v.2.2.2.2.2.2.2.2.2.1 v.2.2.2.2.2.2.2.2.2.2.1 v.2.2.2.2.2.2.2.2.2.2.2.1 v.2.2.2.2.2.2.2.2.2.2.2.2.1 v.2.2.2.2.2.2.2.2.2.2.2.2.2.1 v.2.2.2.2.2.2.2.2.2.2.2.2.2.2.1 v.2.2.2.2.2.2.2.2.2.2.2.2.2.2.2.1 v.2.2.2.2.2.2.2.2.2.2.2.2.2.2.2.2.1 v.2.2.2.2.2.2.2.2.2.2.2.2.2.2.2.2.2.1 v.2.2.2.2.2.2.2.2.2.2.2.2.2.2.2.2.2.2.1 v.2.2.2.2.2.2.2.2.2.2.2.2.2.2.2.2.2.2.2.1 v.2.2.2.2.2.2.2.2.2.2.2.2.2.2.2.2.2.2.2.2.1 v.2.2.2.2.2.2.2.2.2.2.2.2.2.2.2.2.2.2.2.2.2.1 v.2.2.2.2.2.2.2.2.2.2.2.2.2.2.2.2.2.2.2.2.2.2.1 v.2.2.2.2.2.2.2.2.2.2.2.2.2.2.2.2.2.2.2.2.2.2.2.1 v.2.2.2.2.2.2.2.2.2.2.2.2.2.2.2.2.2.2.2.2.2.2.2.2.1 v.2.2.2.2.2.2.2.2.2.2.2.2.2.2.2.2.2.2.2.2.2.2.2.2.2.1 v.2.2.2.2.2.2.2.2.2.2.2.2.2.2.2.2.2.2.2.2.2.2.2.2.2.2.1 v.2.2.2.2.2.2.2.2.2.2.2.2.2.2.2.2.2.2.2.2.2.2.2.2.2.2.2.1 v.2.2.2.2.2.2.2.2.2.2.2.2.2.2.2.2.2.2.2.2.2.2.2.2.2.2.2.2.1 v.2.2.2.2.2.2.2.2.2.2.2.2.2.2.2.2.2.2.2.2.2.2.2.2.2.2.2.2.2.1 v.2.2.2.2.2.2.2.2.2.2.2.2.2.2.2.2.2.2.2.2.2.2.2.2.2.2.2.2.2.2.1 v.2.2.2.2.2.2.2.2.2.2.2.2.2.2.2.2.2.2.2.2.2.2.2.2.2.2.2.2.2.2.2.1 v.2.2.2.2.2.2.2.2.2.2.2.2.2.2.2.2.2.2.2.2.2.2.2.2.2.2.2.2.2.2.2.2.1 v.2.2.2.2.2.2.2.2.2.2.2.2.2.2.2.2.2.2.2.2.2.2.2.2.2.2.2.2.2.2.2.2.2.1 v.2.2.2.2.2.2.2.2.2.2.2.2.2.2.2.2.2.2.2.2.2.2.2.2.2.2.2.2.2.2.2.2.2.2.1 v.2.2.2.2.2.2.2.2.2.2.2.2.2.2.2.2.2.2.2.2.2.2.2.2.2.2.2.2.2.2.2.2.2.2.2.1 v.2.2.2.2.2.2.2.2.2.2.2.2.2.2.2.2.2.2.2.2.2.2.2.2.2.2.2.2.2.2.2.2.2.2.2.2.1 v.2.2.2.2.2.2.2.2.2.2.2.2.2.2.2.2.2.2.2.2.2.2.2.2.2.2.2.2.2.2.2.2.2.2.2.2.2.1 v.2.2.2.2.2.2.2.2.2.2.2.2.2.2.2.2.2.2.2.2.2.2.2.2.2.2.2.2.2.2.2.2.2.2.2.2.2.2.1 v.2.2.2.2.2.2.2.2.2.2.2.2.2.2.2.2.2.2.2.2.2.2.2.2.2.2.2.2.2.2.2.2.2.2.2.2.2.2.2.1 v.2.2.2.2.2.2.2.2.2.2.2.2.2.2.2.2.2.2.2.2.2.2.2.2.2.2.2.2.2.2.2.2.2.2.2.2.2.2.2.2
theorem NN : Nonempty VV := ⟨(aWorld 0, fun _ => none, fun _ => none, fun _ => none, 0, 0, 0, 0, 0, 0, 0, 0, 0, 0, 0, 0, 0, 0, 0, 0, none, 0, false, false, false, default, 0, 0, 0, 0, 0, 0, 0, default, 0, [], default, default, ⟨default, #[], boot_drawn, 0, default⟩, fun _ _ => True, fun _ _ => True)⟩
@[irreducible] noncomputable def CC : VV := bad NN PP
@[irreducible] noncomputable def w : World := CC.1
@[irreducible] noncomputable def mean : ExcName → Option Value := CC.2.1
@[irreducible] noncomputable def mg : Str → Option Value := CC.2.2.1
@[irreducible] noncomputable def mb : Str → Option Value := CC.2.2.2.1
@[irreducible] noncomputable def T : Nat := CC.2.2.2.2.1
@[irreducible] noncomputable def D : Nat := CC.2.2.2.2.2.1
@[irreducible] noncomputable def FA : Nat := CC.2.2.2.2.2.2.1
@[irreducible] noncomputable def FD : Nat := CC.2.2.2.2.2.2.2.1
@[irreducible] noncomputable def k0 : Tok := CC.2.2.2.2.2.2.2.2.1
@[irreducible] noncomputable def k1 : Tok := CC.2.2.2.2.2.2.2.2.2.1
@[irreducible] noncomputable def k2 : Tok := CC.2.2.2.2.2.2.2.2.2.2.1
@[irreducible] noncomputable def k3 : Tok := CC.2.2.2.2.2.2.2.2.2.2.2.1
@[irreducible] noncomputable def k4 : Tok := CC.2.2.2.2.2.2.2.2.2.2.2.2.1
@[irreducible] noncomputable def k5 : Tok := CC.2.2.2.2.2.2.2.2.2.2.2.2.2.1
@[irreducible] noncomputable def k6 : Tok := CC.2.2.2.2.2.2.2.2.2.2.2.2.2.2.1
@[irreducible] noncomputable def k7 : Tok := CC.2.2.2.2.2.2.2.2.2.2.2.2.2.2.2.1
@[irreducible] noncomputable def k8 : Tok := CC.2.2.2.2.2.2.2.2.2.2.2.2.2.2.2.2.1
@[irreducible] noncomputable def k9 : Tok := CC.2.2.2.2.2.2.2.2.2.2.2.2.2.2.2.2.2.1
@[irreducible] noncomputable def f0 : Tok := CC.2.2.2.2.2.2.2.2.2.2.2.2.2.2.2.2.2.2.1
@[irreducible] noncomputable def f1 : Tok := CC.2.2.2.2.2.2.2.2.2.2.2.2.2.2.2.2.2.2.2.1
@[irreducible] noncomputable def uc : Option Str := CC.2.2.2.2.2.2.2.2.2.2.2.2.2.2.2.2.2.2.2.2.1
@[irreducible] noncomputable def tuc : Tok := CC.2.2.2.2.2.2.2.2.2.2.2.2.2.2.2.2.2.2.2.2.2.1
@[irreducible] noncomputable def q : Bool := CC.2.2.2.2.2.2.2.2.2.2.2.2.2.2.2.2.2.2.2.2.2.2.1
@[irreducible] noncomputable def e : Bool := CC.2.2.2.2.2.2.2.2.2.2.2.2.2.2.2.2.2.2.2.2.2.2.2.1
@[irreducible] noncomputable def a : Bool := CC.2.2.2.2.2.2.2.2.2.2.2.2.2.2.2.2.2.2.2.2.2.2.2.2.1
@[irreducible] noncomputable def fn : Str := CC.2.2.2.2.2.2.2.2.2.2.2.2.2.2.2.2.2.2.2.2.2.2.2.2.2.1
@[irreducible] noncomputable def tfn : Tok := CC.2.2.2.2.2.2.2.2.2.2.2.2.2.2.2.2.2.2.2.2.2.2.2.2.2.2.1
@[irreducible] noncomputable def tml : Tok := CC.2.2.2.2.2.2.2.2.2.2.2.2.2.2.2.2.2.2.2.2.2.2.2.2.2.2.2.1
@[irreducible] noncomputable def tln : Tok := CC.2.2.2.2.2.2.2.2.2.2.2.2.2.2.2.2.2.2.2.2.2.2.2.2.2.2.2.2.1
@[irreducible] noncomputable def ttx : Tok := CC.2.2.2.2.2.2.2.2.2.2.2.2.2.2.2.2.2.2.2.2.2.2.2.2.2.2.2.2.2.1
@[irreducible] noncomputable def tat : Tok := CC.2.2.2.2.2.2.2.2.2.2.2.2.2.2.2.2.2.2.2.2.2.2.2.2.2.2.2.2.2.2.1
@[irreducible] noncomputable def ml : Int := CC.2.2.2.2.2.2.2.2.2.2.2.2.2.2.2.2.2.2.2.2.2.2.2.2.2.2.2.2.2.2.2.1
@[irreducible] noncomputable def n : Int := CC.2.2.2.2.2.2.2.2.2.2.2.2.2.2.2.2.2.2.2.2.2.2.2.2.2.2.2.2.2.2.2.2.1
@[irreducible] noncomputable def tx : Str := CC.2.2.2.2.2.2.2.2.2.2.2.2.2.2.2.2.2.2.2.2.2.2.2.2.2.2.2.2.2.2.2.2.2.1
@[irreducible] noncomputable def k : Int := CC.2.2.2.2.2.2.2.2.2.2.2.2.2.2.2.2.2.2.2.2.2.2.2.2.2.2.2.2.2.2.2.2.2.2.1
@[irreducible] noncomputable def outer : List Env := CC.2.2.2.2.2.2.2.2.2.2.2.2.2.2.2.2.2.2.2.2.2.2.2.2.2.2.2.2.2.2.2.2.2.2.2.1
@[irreducible] noncomputable def base : Heap := CC.2.2.2.2.2.2.2.2.2.2.2.2.2.2.2.2.2.2.2.2.2.2.2.2.2.2.2.2.2.2.2.2.2.2.2.2.1
@[irreducible] noncomputable def g : Heap := CC.2.2.2.2.2.2.2.2.2.2.2.2.2.2.2.2.2.2.2.2.2.2.2.2.2.2.2.2.2.2.2.2.2.2.2.2.2.1
@[irreducible] noncomputable def s : Shared := CC.2.2.2.2.2.2.2.2.2.2.2.2.2.2.2.2.2.2.2.2.2.2.2.2.2.2.2.2.2.2.2.2.2.2.2.2.2.2.1
@[irreducible] noncomputable def Q : Value → Shared → Prop := CC.2.2.2.2.2.2.2.2.2.2.2.2.2.2.2.2.2.2.2.2.2.2.2.2.2.2.2.2.2.2.2.2.2.2.2.2.2.2.2.1
@[irreducible] noncomputable def E : Value → Shared → Prop := CC.2.2.2.2.2.2.2.2.2.2.2.2.2.2.2.2.2.2.2.2.2.2.2.2.2.2.2.2.2.2.2.2.2.2.2.2.2.2.2.2
set_option maxHeartbeats 20000000 in
theorem core : SS w mean mg mb T D FA FD k0 k1 k2 k3 k4 k5 k6 k7 k8 k9 f0 f1 uc tuc q e a fn tfn tml tln ttx tat ml n tx k outer base g s Q E := by
  intro hn1 hn2 hn3 H _ hret
  (refine wpAny_call ?_; k_dflt (refine' con_enter0 ?kH ?k1 ?k2 ?k3 ?k4 ?k5 ?_ ?c1 ?c2 ?c3 ?c4; (case kH => with_reducible assumption); (case k1 => k_is); (case k2 => k_is); (case k3 => k_room); (case k4 => first | exact BindsTo.of_eq rfl | exact binds_K (H.k.keeps H.st) rfl (by k_is) rfl rfl rfl); (case k5 => exact locs rfl); (case c1 => exact rfl); (case c2 => exact rfl); (case c3 => exact rfl); (case c4 => decide); intro h' tk' F' N' B' X' T' hz' hl'; (try dsimp only)))
  k_steps
  ((repeat (first | (with_reducible show Mine.Fw _ _ _ _; constructor) | k_unfold | (dsimp only [WPost]) | dsimp only)); refine' con_ret hret ?kF ?kN ?kz ?kr ?kg ?kd ?ko; (case kg => exact rfl); (case kd => exact rfl); (case ko => exact rfl); (case kF => with_reducible assumption); (case kN => with_reducible assumption); (case kz => with_reducible assumption); (case kr => (exact ⟨_, rfl, rfl, by (first | lia | omega)⟩)))
theorem over (v : VV) : PP v := by
  with_unfolding_all exact bad_all (hn := NN) (P := PP) core v
end where_con_
theorem where_con {w : World} {mean : ExcName → Option Value} {mg mb : Str → Option Value} {T D FA FD : Nat} {k0 k1 k2 k3 k4 k5 k6 k7 k8 k9 f0 f1 : Tok} {uc : Option Str} {tuc : Tok} {q e a : Bool} {fn : Str} {tfn : Tok} {tml tln ttx tat : Tok} {ml n : Int} {tx : Str} {k : Int}
   (hn1 : D < T) (hn2 : T < FD) (hn3 : FD < FA) :
    Con w mean mg mb 400 (.ref 242) [.ref T] (tokLed w T D FA FD k0 k1 k2 k3 k4 k5 k6 k7 k8 k9 f0 f1 (vUC uc tuc) .none (.int ml tml) q e a (.ref (cond q 60 59)) (.int n tln) (.str fn tfn) (.str tx ttx) (.int k tat)) (fun _ => True)
      (fun _ v led' => ∃ r : Nat, v = .ref r ∧ led' = (r, tupO [.str fn tfn, .int n tln]) :: tokLed w T D FA FD k0 k1 k2 k3 k4 k5 k6 k7 k8 k9 f0 f1 (vUC uc tuc) .none (.int ml tml) q e a (.ref (cond q 60 59)) (.int n tln) (.str fn tfn) (.str tx ttx) (.int k tat) ∧ FA < r) := fun outer base g s Q E => where_con_.over (w, mean, mg, mb, T, D, FA, FD, k0, k1, k2, k3, k4, k5, k6, k7, k8, k9, f0, f1, uc, tuc, q, e, a, fn, tfn, tml, tln, ttx, tat, ml, n, tx, k, outer, base, g, s, Q, E) hn1 hn2 hn3
end
end Mine
end

section
local macro_rules | `(tactic| walk_at $_) => Lean.Macro.throwUnsupported
local macro_rules | `(tactic| walk_at $_) => Lean.Macro.throwUnsupported
local macro_rules | `(tactic| walk_at $_) => Lean.Macro.throwUnsupported
local macro_rules | `(tactic| walk_at $_) => Lean.Macro.throwUnsupported
local macro_rules | `(tactic| walk_at $_) => Lean.Macro.throwUnsupported
local macro_rules | `(tactic| walk_at $_) => Lean.Macro.throwUnsupported
local macro_rules | `(tactic| walk_at $_) => Lean.Macro.throwUnsupported
open PySem PySem.W PySem.Calls PyProof.Rows
set_option genInjectivity false
set_option genSizeOf false
namespace Mine
set_option maxHeartbeats 8000000 in
theorem fill10 : PySem.Challenge.rw_jf0021_01 = PySem.Challenge.rw_jf0021_01 ∧ Mine.hd.heap_1 = Mine.hd.heap_1 := by
  k_fill
  exact ⟨rfl, rfl⟩

section
local macro_rules | `(tactic| k_handed) => `(tactic| exact vUC_handed _ _)
local macro_rules | `(tactic| walk_at "call ref") => `(tactic| refine stop_call [264] rfl ?_)
local macro_rules | `(tactic| walk_at $k) => if ["exec If", "ite"].contains k.getString then `(tactic| refine Mine.stop_of ?_) else Lean.Macro.throwUnsupported
namespace get_keep_
noncomputable abbrev VV := (World) × (ExcName → Option Value) × (Str → Option Value) × (Str → Option Value) × (Nat) × (Nat) × (Nat) × (Nat) × (Nat) × (Nat) × (Tok) × (Tok) × (Tok) × (Tok) × (Tok) × (Tok) × (Tok) × (Tok) × (Tok) × (Tok) × (Tok) × (Tok) × (Tok) × (Tok) × (Tok) × (Tok) × (Tok) × (Tok) × (Option Str) × (Option Str) × (Tok) × (Tok) × (Bool) × (Bool) × (Bool) × (Bool) × (Bool) × (Bool) × (Value) × (Tok) × (Tok) × (Tok) × (Tok) × (Int) × (Int) × (Int) × (Str) × (Str) × (Int) × (List Env) × (Heap) × (Heap) × (Shared) × (Value → Shared → Prop) × (Value → Shared → Prop)
noncomputable def SS (w : World) (mean : ExcName → Option Value) (mg : Str → Option Value) (mb : Str → Option Value) (T : Nat) (D : Nat) (FA : Nat) (FD : Nat) (X : Nat) (DX : Nat) (k0 : Tok) (k1 : Tok) (k2 : Tok) (k3 : Tok) (k4 : Tok) (k5 : Tok) (k6 : Tok) (k7 : Tok) (k8 : Tok) (k9 : Tok) (f0 : Tok) (f1 : Tok) (t0 : Tok) (t1 : Tok) (t2 : Tok) (t3 : Tok) (tty : Tok) (tv : Tok) (uc : Option Str) (cm : Option Str) (tuc : Tok) (tcm : Tok) (q : Bool) (e : Bool) (a : Bool) (esc : Bool) (lead : Bool) (note : Bool) (fn : Value) (tml : Tok) (tln : Tok) (ttx : Tok) (tat : Tok) (ml : Int) (n : Int) (ty : Int) (tx : Str) (vv : Str) (k : Int) (outer : List Env) (base : Heap) (g : Heap) (s : Shared) (Q : Value → Shared → Prop) (E : Value → Shared → Prop) : Prop := (D < T) → (T < FD) → (FD < FA) → (FA < DX) → (DX < X) → (ty = 2 → lead = true) → (ty = 5 → note = true) → Con1 w mean mg mb 500 (.ref 264) [.ref T, .bool lead, .bool note] ((X, instObj 209 DX) :: (DX, tokenO w t0 t1 t2 t3 ty tty vv tv esc (vUC cm tcm)) :: tokLed w T D FA FD k0 k1 k2 k3 k4 k5 k6 k7 k8 k9 f0 f1 (vUC uc tuc) (.ref X) (.int ml tml) q e a (.ref (cond q 60 59)) (.int n tln) fn (.str tx ttx) (.int k tat))
      (fun _ => True)
      (fun _ v led' => v = .ref X ∧ led' = ((X, instObj 209 DX) :: (DX, tokenO w t0 t1 t2 t3 ty tty vv tv esc (vUC cm tcm)) :: tokLed w T D FA FD k0 k1 k2 k3 k4 k5 k6 k7 k8 k9 f0 f1 (vUC uc tuc) .none (.int ml tml) q e a (.ref (cond q 60 59)) (.int n tln) fn (.str tx ttx) (.int k tat))) outer base g s Q E
noncomputable def PP (v : VV) : Prop := SS v.1 v.2.1 v.2.2.1 v.2.2.2.1 v.2.2.2.2.1 v.2.2.2.2.2.1 v.2.2.2.2.2.2.1 v.2.2.2.2.2.2.2.1 v.2.2.2.2.2.2.2.2.1 v.2.2.2.2.2.2.2.2.2.1 v.2.2.2.2.2.2.2.2.2.2.1 v.2.2.2.2.2.2.2.2.2.2.2.1 v.2.2.2.2.2.2.2.2.2.2.2.2.1 v.2.2.2.2.2.2.2.2.2.2.2.2.2.1 v.2.2.2.2.2.2.2.2.2.2.2.2.2.2.1 v.2.2.2.2.2.2.2.2.2.2.2.2.2.2.2.1 v.2.2.2.2.2.2.2.2.2.2.2.2.2.2.2.2.1 v.2.2.2.2.2.2.2.2.2.2.2.2.2.2.2.2.2.1 v.2.2.2.2.2.2.2.2.2.2.2.2.2.2.2.2.2.2.1 v.2.2.2.2.2.2.2.2.2.2.2.2.2.2.2.2.2.2.2.1 v.2.2.2.2.2.2.2.2.2.2.2.2.2.2.2.2.2.2.2.2.1 v.2.2.2.2.2.2.2.2.2.2.2.2.2.2.2.2.2.2.2.2.2.1 v.2.2.2.2.2.2.2.2.2.2.2.2.2.2.2.2.2.2.2.2.2.2.1 v.2.2.2.2.2.2.2.2.2.2.2.2.2.2.2.2.2.2.2.2.2.2.2.1 v.2.2.2.2.2.2.2.2.2.2.2.2.2.2.2.2.2.2.2.2.2.2.2.2.1 v.2.2.2.2.2.2.2.2.2.2.2.2.2.2.2.2.2.2.2.2.2.2.2.2.2.1 v.2.2.2.2.2.2.2.2.2.2.2.2.2.2.2.2.2.2.2.2.2.2.2.2.2.2.1 v.2.2.2.2.2.2.2.2.2.2.2.2.2.2.2.2.2.2.2.2.2.2.2.2.2.2.2.1 v.2.2.2.2.2.2.2.2.2.2.2.2.2.2.2.2.2.2.2.2.2.2.2.2.2.2.2.2.1 v.2.2.2.2.2.2.2.2.2.2.2.2.2.2.2.2.2.2.2.2.2.2.2.2.2.2.2.2.2.1 v.2.2.2.2.2.2.2.2.2.2.2.2.2.2.2.2.2.2.2.2.2.2.2.2.2.2.2.2.2.2.1 v.2.2.2.2.2.2.2.2.2.2.2.2.2.2.2.2.2.2.2.2.2.2.2.2.2.2.2.2.2.2.2.1 v.2.2.2.2.2.2.2.2.2.2.2.2.2.2.2.2.2.2.2.2.2.2.2.2.2.2.2.2.2.2.2.2.1 v.2.2.2.2.2.2.2.2.2.2.2.2.2.2.2.2.2.2.2.2.2.2.2.2.2.2.2.2.2.2.2.2.2.1 v.2.2.2.2.2.2.2.2.2.2.2.2.2.2.2.2.2.2.2.2.2.2.2.2.2.2.2.2.2.2.2.2.2.2.1 v.2.2.2.2.2.2.2.2.2.2.2.2.2.2.2.2.2.2.2.2.2.2.2.2.2.2.2.2.2.2.2.2.2.2.2.1 v.2.2.2.2.2.2.2.2.2.2.2.2.2.2.2.2.2.2.2.2.2.2.2.2.2.2.2.2.2.2.2.2.2.2.2.2.1 v.2.2.2.2.2.2.2.2.2.2.2.2.2.2.2.2.2.2.2.2.2.2.2.2.2.2.2.2.2.2.2.2.2.2.2.2.2.1 v.2.2.2.2.2.2.2.2.2.2.2.2.2.2.2.2.2.2.2.2.2.2.2.2.2.2.2.2.2.2.2.2.2.2.2.2.2.2.1 v.2.2.2.2.2.2.2.2.2.2.2.2.2.2.2.2.2.2.2.2.2.2.2.2.2.2.2.2.2.2.2.2.2.2.2.2.2.2.2.1 v.2.2.2.2.2.2.2.2.2.2.2.2.2.2.2.2.2.2.2.2.2.2.2.2.2.2.2.2.2.2.2.2.2.2.2.2.2.2.2.2.1 v.2.2.2.2.2.2.2.2.2.2.2.2.2.2.2.2.2.2.2.2.2.2.2.2.2.2.2.2.2.2.2.2.2.2.2.2.2.2.2.2.2.1 v.2.2.2.2.2.2.2.2.2.2.2.2.2.2.2.2.2.2.2.2.2.2.2.2.2.2.2.2.2.2.2.2.2.2.2.2.2.2.2.2.2.2.1 v.2.2.2.2.2.2.2.2.2.2.2.2.2.2.2.2.2.2.2.2.2.2.2.2.2.2.2.2.2.2.2.2.2.2.2.2.2.2.2.2.2.2.2.1 v.2.2.2.2.2.2.2.2.2.2.2.2.2.2.2.2.2.2.2.2.2.2.2.2.2.2.2.2.2.2.2.2.2.2.2.2.2.2.2.2.2.2.2.2.1 v.2.2.2.2.2.2.2.2.2.2.2.2.2.2.2.2.2.2.2.2.2.2.2.2.2.2.2.2.2.2.2.2.2.2.2.2.2.2.2.2.2.2.2.2.2.1 v.2.2.2.2.2.2.2.2.2.2.2.2.2.2.2.2.2.2.2.2.2.2.2.2.2.2.2.2.2.2.2.2.2.2.2.2.2.2.2.2.2.2.2.2.2.2.1 v.2.2.2.2.2.2.2.2.2.2.2.2.2.2.2.2.2.2.2.2.2.2.2.2.2.2.2.2.2.2.2.2.2.2.2.2.2.2.2.2.2.2.2.2.2.2.2.1 v.2.2.2.2.2.2.2.2.2.2.2.2.2.2.2.2.2.2.2.2.2.2.2.2.2.2.2.2.2.2.2.2.2.2.2.2.2.2.2.2.2.2.2.2.2.2.2.2.1 v.2.2.2.2.2.2.2.2.2.2.2.2.2.2.2.2.2.2.2.2.2.2.2.2.2.2.2.2.2.2.2.2.2.2.2.2.2.2.2.2.2.2.2.2.2.2.2.2.2.1 v.2.2.2.2.2.2.2.2.2.2.2.2.2.2.2.2.2.2.2.2.2.2.2.2.2.2.2.2.2.2.2.2.2.2.2.2.2.2.2.2.2.2.2.2.2.2.2.2.2.2.1 v.2.2.2.2.2.2.2.2.2.2.2.2.2.2.2.2.2.2.2.2.2.2.2.2.2.2.2.2.2.2.2.2.2.2.2.2.2.2.2.2.2.2.2.2.2.2.2.2.2.2.2.1 v.2.2.2.2.2.2.2.2.2.2.2.2.2.2.2.2.2.2.2.2.2.2.2.2.2.2.2.2.2.2.2.2.2.2.2.2.2.2.2.2.2.2.2.2.2.2.2.2.2.2.2.2.1 v.2.2.2.2.2.2.2.2.2.2.2.2.2.2.2.2.2.2.2.2.2.2.2.2.2.2.2.2.2.2.2.2.2.2.2.2.2.2.2.2.2.2.2.2.2.2.2.2.2.2.2.2.2.1 v.2.2.2.2.2.2.2.2.2.2.2.2.2.2.2.2.2.2.2.2.2.2.2.2.2.2.2.2.2.2.2.2.2.2.2.2.2.2.2.2.2.2.2.2.2.2.2.2.2.2.2.2.2.2
theorem NN : Nonempty VV := ⟨(aWorld 0, fun _ => none, fun _ => none, fun _ => none, 0, 0, 0, 0, 0, 0, 0, 0, 0, 0, 0, 0, 0, 0, 0, 0, 0, 0, 0, 0, 0, 0, 0, 0, none, none, 0, 0, false, false, false, false, false, false, default, 0, 0, 0, 0, 0, 0, 0, default, default, 0, [], default, default, ⟨default, #[], boot_drawn, 0, default⟩, fun _ _ => True, fun _ _ => True)⟩
@[irreducible] noncomputable def CC : VV := bad NN PP
@[irreducible] noncomputable def w : World := CC.1
@[irreducible] noncomputable def mean : ExcName → Option Value := CC.2.1
@[irreducible] noncomputable def mg : Str → Option Value := CC.2.2.1
@[irreducible] noncomputable def mb : Str → Option Value := CC.2.2.2.1
@[irreducible] noncomputable def T : Nat := CC.2.2.2.2.1
@[irreducible] noncomputable def D : Nat := CC.2.2.2.2.2.1
@[irreducible] noncomputable def FA : Nat := CC.2.2.2.2.2.2.1
@[irreducible] noncomputable def FD : Nat := CC.2.2.2.2.2.2.2.1
@[irreducible] noncomputable def X : Nat := CC.2.2.2.2.2.2.2.2.1
@[irreducible] noncomputable def DX : Nat := CC.2.2.2.2.2.2.2.2.2.1
@[irreducible] noncomputable def k0 : Tok := CC.2.2.2.2.2.2.2.2.2.2.1
@[irreducible] noncomputable def k1 : Tok := CC.2.2.2.2.2.2.2.2.2.2.2.1
@[irreducible] noncomputable def k2 : Tok := CC.2.2.2.2.2.2.2.2.2.2.2.2.1
@[irreducible] noncomputable def k3 : Tok := CC.2.2.2.2.2.2.2.2.2.2.2.2.2.1
@[irreducible] noncomputable def k4 : Tok := CC.2.2.2.2.2.2.2.2.2.2.2.2.2.2.1
@[irreducible] noncomputable def k5 : Tok := CC.2.2.2.2.2.2.2.2.2.2.2.2.2.2.2.1
@[irreducible] noncomputable def k6 : Tok := CC.2.2.2.2.2.2.2.2.2.2.2.2.2.2.2.2.1
@[irreducible] noncomputable def k7 : Tok := CC.2.2.2.2.2.2.2.2.2.2.2.2.2.2.2.2.2.1
@[irreducible] noncomputable def k8 : Tok := CC.2.2.2.2.2.2.2.2.2.2.2.2.2.2.2.2.2.2.1
@[irreducible] noncomputable def k9 : Tok := CC.2.2.2.2.2.2.2.2.2.2.2.2.2.2.2.2.2.2.2.1
@[irreducible] noncomputable def f0 : Tok := CC.2.2.2.2.2.2.2.2.2.2.2.2.2.2.2.2.2.2.2.2.1
@[irreducible] noncomputable def f1 : Tok := CC.2.2.2.2.2.2.2.2.2.2.2.2.2.2.2.2.2.2.2.2.2.1
@[irreducible] noncomputable def t0 : Tok := CC.2.2.2.2.2.2.2.2.2.2.2.2.2.2.2.2.2.2.2.2.2.2.1
@[irreducible] noncomputable def t1 : Tok := CC.2.2.2.2.2.2.2.2.2.2.2.2.2.2.2.2.2.2.2.2.2.2.2.1
@[irreducible] noncomputable def t2 : Tok := CC.2.2.2.2.2.2.2.2.2.2.2.2.2.2.2.2.2.2.2.2.2.2.2.2.1
@[irreducible] noncomputable def t3 : Tok := CC.2.2.2.2.2.2.2.2.2.2.2.2.2.2.2.2.2.2.2.2.2.2.2.2.2.1
@[irreducible] noncomputable def tty : Tok := CC.2.2.2.2.2.2.2.2.2.2.2.2.2.2.2.2.2.2.2.2.2.2.2.2.2.2.1
@[irreducible] noncomputable def tv : Tok := CC.2.2.2.2.2.2.2.2.2.2.2.2.2.2.2.2.2.2.2.2.2.2.2.2.2.2.2.1
@[irreducible] noncomputable def uc : Option Str := CC.2.2.2.2.2.2.2.2.2.2.2.2.2.2.2.2.2.2.2.2.2.2.2.2.2.2.2.2.1
@[irreducible] noncomputable def cm : Option Str := CC.2.2.2.2.2.2.2.2.2.2.2.2.2.2.2.2.2.2.2.2.2.2.2.2.2.2.2.2.2.1
@[irreducible] noncomputable def tuc : Tok := CC.2.2.2.2.2.2.2.2.2.2.2.2.2.2.2.2.2.2.2.2.2.2.2.2.2.2.2.2.2.2.1
@[irreducible] noncomputable def tcm : Tok := CC.2.2.2.2.2.2.2.2.2.2.2.2.2.2.2.2.2.2.2.2.2.2.2.2.2.2.2.2.2.2.2.1
@[irreducible] noncomputable def q : Bool := CC.2.2.2.2.2.2.2.2.2.2.2.2.2.2.2.2.2.2.2.2.2.2.2.2.2.2.2.2.2.2.2.2.1
@[irreducible] noncomputable def e : Bool := CC.2.2.2.2.2.2.2.2.2.2.2.2.2.2.2.2.2.2.2.2.2.2.2.2.2.2.2.2.2.2.2.2.2.1
@[irreducible] noncomputable def a : Bool := CC.2.2.2.2.2.2.2.2.2.2.2.2.2.2.2.2.2.2.2.2.2.2.2.2.2.2.2.2.2.2.2.2.2.2.1
@[irreducible] noncomputable def esc : Bool := CC.2.2.2.2.2.2.2.2.2.2.2.2.2.2.2.2.2.2.2.2.2.2.2.2.2.2.2.2.2.2.2.2.2.2.2.1
@[irreducible] noncomputable def lead : Bool := CC.2.2.2.2.2.2.2.2.2.2.2.2.2.2.2.2.2.2.2.2.2.2.2.2.2.2.2.2.2.2.2.2.2.2.2.2.1
@[irreducible] noncomputable def note : Bool := CC.2.2.2.2.2.2.2.2.2.2.2.2.2.2.2.2.2.2.2.2.2.2.2.2.2.2.2.2.2.2.2.2.2.2.2.2.2.1
@[irreducible] noncomputable def fn : Value := CC.2.2.2.2.2.2.2.2.2.2.2.2.2.2.2.2.2.2.2.2.2.2.2.2.2.2.2.2.2.2.2.2.2.2.2.2.2.2.1
@[irreducible] noncomputable def tml : Tok := CC.2.2.2.2.2.2.2.2.2.2.2.2.2.2.2.2.2.2.2.2.2.2.2.2.2.2.2.2.2.2.2.2.2.2.2.2.2.2.2.1
@[irreducible] noncomputable def tln : Tok := CC.2.2.2.2.2.2.2.2.2.2.2.2.2.2.2.2.2.2.2.2.2.2.2.2.2.2.2.2.2.2.2.2.2.2.2.2.2.2.2.2.1
@[irreducible] noncomputable def ttx : Tok := CC.2.2.2.2.2.2.2.2.2.2.2.2.2.2.2.2.2.2.2.2.2.2.2.2.2.2.2.2.2.2.2.2.2.2.2.2.2.2.2.2.2.1
@[irreducible] noncomputable def tat : Tok := CC.2.2.2.2.2.2.2.2.2.2.2.2.2.2.2.2.2.2.2.2.2.2.2.2.2.2.2.2.2.2.2.2.2.2.2.2.2.2.2.2.2.2.1
@[irreducible] noncomputable def ml : Int := CC.2.2.2.2.2.2.2.2.2.2.2.2.2.2.2.2.2.2.2.2.2.2.2.2.2.2.2.2.2.2.2.2.2.2.2.2.2.2.2.2.2.2.2.1
@[irreducible] noncomputable def n : Int := CC.2.2.2.2.2.2.2.2.2.2.2.2.2.2.2.2.2.2.2.2.2.2.2.2.2.2.2.2.2.2.2.2.2.2.2.2.2.2.2.2.2.2.2.2.1
@[irreducible] noncomputable def ty : Int := CC.2.2.2.2.2.2.2.2.2.2.2.2.2.2.2.2.2.2.2.2.2.2.2.2.2.2.2.2.2.2.2.2.2.2.2.2.2.2.2.2.2.2.2.2.2.1
@[irreducible] noncomputable def tx : Str := CC.2.2.2.2.2.2.2.2.2.2.2.2.2.2.2.2.2.2.2.2.2.2.2.2.2.2.2.2.2.2.2.2.2.2.2.2.2.2.2.2.2.2.2.2.2.2.1
@[irreducible] noncomputable def vv : Str := CC.2.2.2.2.2.2.2.2.2.2.2.2.2.2.2.2.2.2.2.2.2.2.2.2.2.2.2.2.2.2.2.2.2.2.2.2.2.2.2.2.2.2.2.2.2.2.2.1
@[irreducible] noncomputable def k : Int := CC.2.2.2.2.2.2.2.2.2.2.2.2.2.2.2.2.2.2.2.2.2.2.2.2.2.2.2.2.2.2.2.2.2.2.2.2.2.2.2.2.2.2.2.2.2.2.2.2.1
@[irreducible] noncomputable def outer : List Env := CC.2.2.2.2.2.2.2.2.2.2.2.2.2.2.2.2.2.2.2.2.2.2.2.2.2.2.2.2.2.2.2.2.2.2.2.2.2.2.2.2.2.2.2.2.2.2.2.2.2.1
@[irreducible] noncomputable def base : Heap := CC.2.2.2.2.2.2.2.2.2.2.2.2.2.2.2.2.2.2.2.2.2.2.2.2.2.2.2.2.2.2.2.2.2.2.2.2.2.2.2.2.2.2.2.2.2.2.2.2.2.2.1
@[irreducible] noncomputable def g : Heap := CC.2.2.2.2.2.2.2.2.2.2.2.2.2.2.2.2.2.2.2.2.2.2.2.2.2.2.2.2.2.2.2.2.2.2.2.2.2.2.2.2.2.2.2.2.2.2.2.2.2.2.2.1
@[irreducible] noncomputable def s : Shared := CC.2.2.2.2.2.2.2.2.2.2.2.2.2.2.2.2.2.2.2.2.2.2.2.2.2.2.2.2.2.2.2.2.2.2.2.2.2.2.2.2.2.2.2.2.2.2.2.2.2.2.2.2.1
@[irreducible] noncomputable def Q : Value → Shared → Prop := CC.2.2.2.2.2.2.2.2.2.2.2.2.2.2.2.2.2.2.2.2.2.2.2.2.2.2.2.2.2.2.2.2.2.2.2.2.2.2.2.2.2.2.2.2.2.2.2.2.2.2.2.2.2.1
@[irreducible] noncomputable def E : Value → Shared → Prop := CC.2.2.2.2.2.2.2.2.2.2.2.2.2.2.2.2.2.2.2.2.2.2.2.2.2.2.2.2.2.2.2.2.2.2.2.2.2.2.2.2.2.2.2.2.2.2.2.2.2.2.2.2.2.2
set_option maxHeartbeats 20000000 in
theorem core : SS w mean mg mb T D FA FD X DX k0 k1 k2 k3 k4 k5 k6 k7 k8 k9 f0 f1 t0 t1 t2 t3 tty tv uc cm tuc tcm q e a esc lead note fn tml tln ttx tat ml n ty tx vv k outer base g s Q E := by
  intro hn1 hn2 hn3 hd1 hX hw hc H _ hret
  have hd2 : T < DX := by (first | lia | omega)
  have hd3 : D < DX := by (first | lia | omega)
  have hd4 : FD < DX := by (first | lia | omega)
  (refine wpAny_call ?_; k_dflt (refine' con_enter0 ?kH ?k1 ?k2 ?k3 ?k4 ?k5 ?_ ?c1 ?c2 ?c3 ?c4; (case kH => with_reducible assumption); (case k1 => k_is); (case k2 => k_is); (case k3 => k_room); (case k4 => first | exact BindsTo.of_eq rfl | exact binds_K (H.k.keeps H.st) rfl (by k_is) rfl rfl rfl); (case k5 => exact locs rfl); (case c1 => exact rfl); (case c2 => exact rfl); (case c3 => exact rfl); (case c4 => decide); intro h' tk' F' N' B' X' T' hz' hl'; (try dsimp only)))
  (k_steps; repeat' (refine stop_out ?_; first | ((k_dflt (refine' s_if1 (slf := Str.ofString "self") (ns := tokNames) (gl_ok _) (cl451 _) ?F ?X ?T ?hs ?I ?hk ?hsk ?hsd ?ht ?_; (case F => k_asm); (case X => k_asm); (case T => k_asm); (case hs => rfl); (case I => k_inst); (case hk => rfl); (case hsk => rfl); (case hsd => rfl); (case ht => rfl); k_whole); intro _); k_steps) | ((first | (refine ite_t (by with_reducible assumption) ?_) | (refine ite_f (by with_reducible assumption) ?_) | (refine ite_f (Bool.and_false _) ?_) | (refine ite_f rfl ?_) | (refine ite_t rfl ?_)); k_steps) | (refine wpAny_If ?_; k_steps)))
  refine stop_out (ite_s ?_ ?_)
  · intro h2
    have hl : lead = true := hw (by simpa using h2)
    (k_steps; repeat' (refine stop_out ?_; first | ((k_dflt (refine' s_if1 (slf := Str.ofString "self") (ns := tokNames) (gl_ok _) (cl451 _) ?F ?X ?T ?hs ?I ?hk ?hsk ?hsd ?ht ?_; (case F => k_asm); (case X => k_asm); (case T => k_asm); (case hs => rfl); (case I => k_inst); (case hk => rfl); (case hsk => rfl); (case hsd => rfl); (case ht => rfl); k_whole); intro _); k_steps) | ((first | (refine ite_t (by with_reducible assumption) ?_) | (refine ite_f (by with_reducible assumption) ?_) | (refine ite_f (Bool.and_false _) ?_) | (refine ite_f rfl ?_) | (refine ite_t rfl ?_)); k_steps) | (refine wpAny_If ?_; k_steps)))
    ((repeat (first | (with_reducible show Mine.Fw _ _ _ _; constructor) | k_unfold | (dsimp only [WPost]) | dsimp only)); refine' con_ret hret ?kF ?kN ?kz ?kr ?kg ?kd ?ko; (case kg => exact rfl); (case kd => exact rfl); (case ko => exact rfl); (case kF => with_reducible assumption); (case kN => with_reducible assumption); (case kz => with_reducible assumption); (case kr => exact ⟨rfl, rfl⟩))
  · intro h2
    (k_steps; repeat' (refine stop_out ?_; first | ((k_dflt (refine' s_if1 (slf := Str.ofString "self") (ns := tokNames) (gl_ok _) (cl451 _) ?F ?X ?T ?hs ?I ?hk ?hsk ?hsd ?ht ?_; (case F => k_asm); (case X => k_asm); (case T => k_asm); (case hs => rfl); (case I => k_inst); (case hk => rfl); (case hsk => rfl); (case hsd => rfl); (case ht => rfl); k_whole); intro _); k_steps) | ((first | (refine ite_t (by with_reducible assumption) ?_) | (refine ite_f (by with_reducible assumption) ?_) | (refine ite_f (Bool.and_false _) ?_) | (refine ite_f rfl ?_) | (refine ite_t rfl ?_)); k_steps) | (refine wpAny_If ?_; k_steps)))
    refine stop_out (ite_s ?_ ?_)
    · intro h5
      have hl : note = true := hc (by simpa using h5)
      (k_steps; repeat' (refine stop_out ?_; first | ((k_dflt (refine' s_if1 (slf := Str.ofString "self") (ns := tokNames) (gl_ok _) (cl451 _) ?F ?X ?T ?hs ?I ?hk ?hsk ?hsd ?ht ?_; (case F => k_asm); (case X => k_asm); (case T => k_asm); (case hs => rfl); (case I => k_inst); (case hk => rfl); (case hsk => rfl); (case hsd => rfl); (case ht => rfl); k_whole); intro _); k_steps) | ((first | (refine ite_t (by with_reducible assumption) ?_) | (refine ite_f (by with_reducible assumption) ?_) | (refine ite_f (Bool.and_false _) ?_) | (refine ite_f rfl ?_) | (refine ite_t rfl ?_)); k_steps) | (refine wpAny_If ?_; k_steps)))
      ((repeat (first | (with_reducible show Mine.Fw _ _ _ _; constructor) | k_unfold | (dsimp only [WPost]) | dsimp only)); refine' con_ret hret ?kF ?kN ?kz ?kr ?kg ?kd ?ko; (case kg => exact rfl); (case kd => exact rfl); (case ko => exact rfl); (case kF => with_reducible assumption); (case kN => with_reducible assumption); (case kz => with_reducible assumption); (case kr => exact ⟨rfl, rfl⟩))
    · intro h5
      (k_steps; repeat' (refine stop_out ?_; first | ((k_dflt (refine' s_if1 (slf := Str.ofString "self") (ns := tokNames) (gl_ok _) (cl451 _) ?F ?X ?T ?hs ?I ?hk ?hsk ?hsd ?ht ?_; (case F => k_asm); (case X => k_asm); (case T => k_asm); (case hs => rfl); (case I => k_inst); (case hk => rfl); (case hsk => rfl); (case hsd => rfl); (case ht => rfl); k_whole); intro _); k_steps) | ((first | (refine ite_t (by with_reducible assumption) ?_) | (refine ite_f (by with_reducible assumption) ?_) | (refine ite_f (Bool.and_false _) ?_) | (refine ite_f rfl ?_) | (refine ite_t rfl ?_)); k_steps) | (refine wpAny_If ?_; k_steps)))
      ((repeat (first | (with_reducible show Mine.Fw _ _ _ _; constructor) | k_unfold | (dsimp only [WPost]) | dsimp only)); refine' con_ret hret ?kF ?kN ?kz ?kr ?kg ?kd ?ko; (case kg => exact rfl); (case kd => exact rfl); (case ko => exact rfl); (case kF => with_reducible assumption); (case kN => with_reducible assumption); (case kz => with_reducible assumption); (case kr => exact ⟨rfl, rfl⟩))
theorem over (v : VV) : PP v := by
  with_unfolding_all exact bad_all (hn := NN) (P := PP) core v
end get_keep_
theorem get_keep {w : World} {mean : ExcName → Option Value} {mg mb : Str → Option Value} {T D FA FD X DX : Nat} {k0 k1 k2 k3 k4 k5 k6 k7 k8 k9 f0 f1 t0 t1 t2 t3 tty tv : Tok} {uc cm : Option Str} {tuc tcm : Tok} {q e a esc lead note : Bool} {fn : Value} {tml tln ttx tat : Tok} {ml n ty : Int} {tx vv : Str} {k : Int}
   (hn1 : D < T) (hn2 : T < FD) (hn3 : FD < FA) (hd1 : FA < DX) (hX : DX < X) (hw : ty = 2 → lead = true) (hc : ty = 5 → note = true) :
    Con w mean mg mb 500 (.ref 264) [.ref T, .bool lead, .bool note] ((X, instObj 209 DX) :: (DX, tokenO w t0 t1 t2 t3 ty tty vv tv esc (vUC cm tcm)) :: tokLed w T D FA FD k0 k1 k2 k3 k4 k5 k6 k7 k8 k9 f0 f1 (vUC uc tuc) (.ref X) (.int ml tml) q e a (.ref (cond q 60 59)) (.int n tln) fn (.str tx ttx) (.int k tat))
      (fun _ => True)
      (fun _ v led' => v = .ref X ∧ led' = ((X, instObj 209 DX) :: (DX, tokenO w t0 t1 t2 t3 ty tty vv tv esc (vUC cm tcm)) :: tokLed w T D FA FD k0 k1 k2 k3 k4 k5 k6 k7 k8 k9 f0 f1 (vUC uc tuc) .none (.int ml tml) q e a (.ref (cond q 60 59)) (.int n tln) fn (.str tx ttx) (.int k tat))) := fun outer base g s Q E => get_keep_.over (w, mean, mg, mb, T, D, FA, FD, X, DX, k0, k1, k2, k3, k4, k5, k6, k7, k8, k9, f0, f1, t0, t1, t2, t3, tty, tv, uc, cm, tuc, tcm, q, e, a, esc, lead, note, fn, tml, tln, ttx, tat, ml, n, ty, tx, vv, k, outer, base, g, s, Q, E) hn1 hn2 hn3 hd1 hX hw hc
namespace told_keep_
noncomputable abbrev VV := (World) × (ExcName → Option Value) × (Str → Option Value) × (Str → Option Value) × (Nat) × (Nat) × (Nat) × (Nat) × (Nat) × (Nat) × (Tok) × (Tok) × (Tok) × (Tok) × (Tok) × (Tok) × (Tok) × (Tok) × (Tok) × (Tok) × (Tok) × (Tok) × (Tok) × (Tok) × (Tok) × (Tok) × (Tok) × (Tok) × (Option Str) × (Option Str) × (Tok) × (Tok) × (Bool) × (Bool) × (Bool) × (Bool) × (Bool) × (Bool) × (Value) × (Tok) × (Tok) × (Tok) × (Tok) × (Int) × (Int) × (Int) × (Str) × (Str) × (Int) × (List Env) × (Heap) × (Heap) × (Shared) × (Value → Shared → Prop) × (Value → Shared → Prop)
noncomputable def SS (w : World) (mean : ExcName → Option Value) (mg : Str → Option Value) (mb : Str → Option Value) (T : Nat) (D : Nat) (FA : Nat) (FD : Nat) (X : Nat) (DX : Nat) (k0 : Tok) (k1 : Tok) (k2 : Tok) (k3 : Tok) (k4 : Tok) (k5 : Tok) (k6 : Tok) (k7 : Tok) (k8 : Tok) (k9 : Tok) (f0 : Tok) (f1 : Tok) (t0 : Tok) (t1 : Tok) (t2 : Tok) (t3 : Tok) (tty : Tok) (tv : Tok) (uc : Option Str) (cm : Option Str) (tuc : Tok) (tcm : Tok) (q : Bool) (e : Bool) (a : Bool) (esc : Bool) (lead : Bool) (note : Bool) (fn : Value) (tml : Tok) (tln : Tok) (ttx : Tok) (tat : Tok) (ml : Int) (n : Int) (ty : Int) (tx : Str) (vv : Str) (k : Int) (outer : List Env) (base : Heap) (g : Heap) (s : Shared) (Q : Value → Shared → Prop) (E : Value → Shared → Prop) : Prop := (D < T) → (T < FD) → (FD < FA) → (FA < DX) → (DX < X) → (ty = 2 → lead = true) → (ty = 5 → note = true) → Con1 w mean mg mb 400 (.ref 505) [.ref T, .bool lead, .bool note] ((X, instObj 209 DX) :: (DX, tokenO w t0 t1 t2 t3 ty tty vv tv esc (vUC cm tcm)) :: tokLed w T D FA FD k0 k1 k2 k3 k4 k5 k6 k7 k8 k9 f0 f1 (vUC uc tuc) (.ref X) (.int ml tml) q e a (.ref (cond q 60 59)) (.int n tln) fn (.str tx ttx) (.int k tat))
      (fun _ => True)
      (fun _ v led' => ∃ (r r2 : Nat) (tty' tv' tcm' : Tok), v = .ref r ∧ led' = (r, tupO [.ref r2, .ref X]) :: (r2, tupO [.int ty tty', .str vv tv', .bool esc, vUC cm tcm']) :: ((X, instObj 209 DX) :: (DX, tokenO w t0 t1 t2 t3 ty tty vv tv esc (vUC cm tcm)) :: tokLed w T D FA FD k0 k1 k2 k3 k4 k5 k6 k7 k8 k9 f0 f1 (vUC uc tuc) .none (.int ml tml) q e a (.ref (cond q 60 59)) (.int n tln) fn (.str tx ttx) (.int k tat)) ∧ X < r2 ∧ r2 < r) outer base g s Q E
noncomputable def PP (v : VV) : Prop := SS v.1 v.2.1 v.2.2.1 v.2.2.2.1 v.2.2.2.2.1 v.2.2.2.2.2.1 v.2.2.2.2.2.2.1 v.2.2.2.2.2.2.2.1 v.2.2.2.2.2.2.2.2.1 v.2.2.2.2.2.2.2.2.2.1 v.2.2.2.2.2.2.2.2.2.2.1 v.2.2.2.2.2.2.2.2.2.2.2.1 v.2.2.2.2.2.2.2.2.2.2.2.2.1 v.2.2.2.2.2.2.2.2.2.2.2.2.2.1 v.2.2.2.2.2.2.2.2.2.2.2.2.2.2.1 v.2.2.2.2.2.2.2.2.2.2.2.2.2.2.2.1 v.2.2.2.2.2.2.2.2.2.2.2.2.2.2.2.2.1 v.2.2.2.2.2.2.2.2.2.2.2.2.2.2.2.2.2.1 v.2.2.2.2.2.2.2.2.2.2.2.2.2.2.2.2.2.2.1 v.2.2.2.2.2.2.2.2.2.2.2.2.2.2.2.2.2.2.2.1 v.2.2.2.2.2.2.2.2.2.2.2.2.2.2.2.2.2.2.2.2.1 v.2.2.2.2.2.2.2.2.2.2.2.2.2.2.2.2.2.2.2.2.2.1 v.2.2.2.2.2.2.2.2.2.2.2.2.2.2.2.2.2.2.2.2.2.2.1 v.2.2.2.2.2.2.2.2.2.2.2.2.2.2.2.2.2.2.2.2.2.2.2.1 v.2.2.2.2.2.2.2.2.2.2.2.2.2.2.2.2.2.2.2.2.2.2.2.2.1 v.2.2.2.2.2.2.2.2.2.2.2.2.2.2.2.2.2.2.2.2.2.2.2.2.2.1 v.2.2.2.2.2.2.2.2.2.2.2.2.2.2.2.2.2.2.2.2.2.2.2.2.2.2.1 v.2.2.2.2.2.2.2.2.2.2.2.2.2.2.2.2.2.2.2.2.2.2.2.2.2.2.2.1 v.2.2.2.2.2.2.2.2.2.2.2.2.2.2.2.2.2.2.2.2.2.2.2.2.2.2.2.2.1 v.2.2.2.2.2.2.2.2.2.2.2.2.2.2.2.2.2.2.2.2.2.2.2.2.2.2.2.2.2.1 v.2.2.2.2.2.2.2.2.2.2.2.2.2.2.2.2.2.2.2.2.2.2.2.2.2.2.2.2.2.2.1 v.2.2.2.2.2.2.2.2.2.2.2.2.2.2.2.2.2.2.2.2.2.2.2.2.2.2.2.2.2.2.2.1 v.2.2.2.2.2.2.2.2.2.2.2.2.2.2.2.2.2.2.2.2.2.2.2.2.2.2.2.2.2.2.2.2.1 v.2.2.2.2.2.2.2.2.2.2.2.2.2.2.2.2.2.2.2.2.2.2.2.2.2.2.2.2.2.2.2.2.2.1 v.2.2.2.2.2.2.2.2.2.2.2.2.2.2.2.2.2.2.2.2.2.2.2.2.2.2.2.2.2.2.2.2.2.2.1 v.2.2.2.2.2.2.2.2.2.2.2.2.2.2.2.2.2.2.2.2.2.2.2.2.2.2.2.2.2.2.2.2.2.2.2.1 v.2.2.2.2.2.2.2.2.2.2.2.2.2.2.2.2.2.2.2.2.2.2.2.2.2.2.2.2.2.2.2.2.2.2.2.2.1 v.2.2.2.2.2.2.2.2.2.2.2.2.2.2.2.2.2.2.2.2.2.2.2.2.2.2.2.2.2.2.2.2.2.2.2.2.2.1 v.2.2.2.2.2.2.2.2.2.2.2.2.2.2.2.2.2.2.2.2.2.2.2.2.2.2.2.2.2.2.2.2.2.2.2.2.2.2.1 v.2.2.2.2.2.2.2.2.2.2.2.2.2.2.2.2.2.2.2.2.2.2.2.2.2.2.2.2.2.2.2.2.2.2.2.2.2.2.2.1 v.2.2.2.2.2.2.2.2.2.2.2.2.2.2.2.2.2.2.2.2.2.2.2.2.2.2.2.2.2.2.2.2.2.2.2.2.2.2.2.2.1 v.2.2.2.2.2.2.2.2.2.2.2.2.2.2.2.2.2.2.2.2.2.2.2.2.2.2.2.2.2.2.2.2.2.2.2.2.2.2.2.2.2.1 v.2.2.2.2.2.2.2.2.2.2.2.2.2.2.2.2.2.2.2.2.2.2.2.2.2.2.2.2.2.2.2.2.2.2.2.2.2.2.2.2.2.2.1 v.2.2.2.2.2.2.2.2.2.2.2.2.2.2.2.2.2.2.2.2.2.2.2.2.2.2.2.2.2.2.2.2.2.2.2.2.2.2.2.2.2.2.2.1 v.2.2.2.2.2.2.2.2.2.2.2.2.2.2.2.2.2.2.2.2.2.2.2.2.2.2.2.2.2.2.2.2.2.2.2.2.2.2.2.2.2.2.2.2.1 v.2.2.2.2.2.2.2.2.2.2.2.2.2.2.2.2.2.2.2.2.2.2.2.2.2.2.2.2.2.2.2.2.2.2.2.2.2.2.2.2.2.2.2.2.2.1 v.2.2.2.2.2.2.2.2.2.2.2.2.2.2.2.2.2.2.2.2.2.2.2.2.2.2.2.2.2.2.2.2.2.2.2.2.2.2.2.2.2.2.2.2.2.2.1 v.2.2.2.2.2.2.2.2.2.2.2.2.2.2.2.2.2.2.2.2.2.2.2.2.2.2.2.2.2.2.2.2.2.2.2.2.2.2.2.2.2.2.2.2.2.2.2.1 v.2.2.2.2.2.2.2.2.2.2.2.2.2.2.2.2.2.2.2.2.2.2.2.2.2.2.2.2.2.2.2.2.2.2.2.2.2.2.2.2.2.2.2.2.2.2.2.2.1 v.2.2.2.2.2.2.2.2.2.2.2.2.2.2.2.2.2.2.2.2.2.2.2.2.2.2.2.2.2.2.2.2.2.2.2.2.2.2.2.2.2.2.2.2.2.2.2.2.2.1 v.2.2.2.2.2.2.2.2.2.2.2.2.2.2.2.2.2.2.2.2.2.2.2.2.2.2.2.2.2.2.2.2.2.2.2.2.2.2.2.2.2.2.2.2.2.2.2.2.2.2.1 v.2.2.2.2.2.2.2.2.2.2.2.2.2.2.2.2.2.2.2.2.2.2.2.2.2.2.2.2.2.2.2.2.2.2.2.2.2.2.2.2.2.2.2.2.2.2.2.2.2.2.2.1 v.2.2.2.2.2.2.2.2.2.2.2.2.2.2.2.2.2.2.2.2.2.2.2.2.2.2.2.2.2.2.2.2.2.2.2.2.2.2.2.2.2.2.2.2.2.2.2.2.2.2.2.2.1 v.2.2.2.2.2.2.2.2.2.2.2.2.2.2.2.2.2.2.2.2.2.2.2.2.2.2.2.2.2.2.2.2.2.2.2.2.2.2.2.2.2.2.2.2.2.2.2.2.2.2.2.2.2.1 v.2.2.2.2.2.2.2.2.2.2.2.2.2.2.2.2.2.2.2.2.2.2.2.2.2.2.2.2.2.2.2.2.2.2.2.2.2.2.2.2.2.2.2.2.2.2.2.2.2.2.2.2.2.2
theorem NN : Nonempty VV := ⟨(aWorld 0, fun _ => none, fun _ => none, fun _ => none, 0, 0, 0, 0, 0, 0, 0, 0, 0, 0, 0, 0, 0, 0, 0, 0, 0, 0, 0, 0, 0, 0, 0, 0, none, none, 0, 0, false, false, false, false, false, false, default, 0, 0, 0, 0, 0, 0, 0, default, default, 0, [], default, default, ⟨default, #[], boot_drawn, 0, default⟩, fun _ _ => True, fun _ _ => True)⟩
@[irreducible] noncomputable def CC : VV := bad NN PP
@[irreducible] noncomputable def w : World := CC.1
@[irreducible] noncomputable def mean : ExcName → Option Value := CC.2.1
@[irreducible] noncomputable def mg : Str → Option Value := CC.2.2.1
@[irreducible] noncomputable def mb : Str → Option Value := CC.2.2.2.1
@[irreducible] noncomputable def T : Nat := CC.2.2.2.2.1
@[irreducible] noncomputable def D : Nat := CC.2.2.2.2.2.1
@[irreducible] noncomputable def FA : Nat := CC.2.2.2.2.2.2.1
@[irreducible] noncomputable def FD : Nat := CC.2.2.2.2.2.2.2.1
@[irreducible] noncomputable def X : Nat := CC.2.2.2.2.2.2.2.2.1
@[irreducible] noncomputable def DX : Nat := CC.2.2.2.2.2.2.2.2.2.1
@[irreducible] noncomputable def k0 : Tok := CC.2.2.2.2.2.2.2.2.2.2.1
@[irreducible] noncomputable def k1 : Tok := CC.2.2.2.2.2.2.2.2.2.2.2.1
@[irreducible] noncomputable def k2 : Tok := CC.2.2.2.2.2.2.2.2.2.2.2.2.1
@[irreducible] noncomputable def k3 : Tok := CC.2.2.2.2.2.2.2.2.2.2.2.2.2.1
@[irreducible] noncomputable def k4 : Tok := CC.2.2.2.2.2.2.2.2.2.2.2.2.2.2.1
@[irreducible] noncomputable def k5 : Tok := CC.2.2.2.2.2.2.2.2.2.2.2.2.2.2.2.1
@[irreducible] noncomputable def k6 : Tok := CC.2.2.2.2.2.2.2.2.2.2.2.2.2.2.2.2.1
@[irreducible] noncomputable def k7 : Tok := CC.2.2.2.2.2.2.2.2.2.2.2.2.2.2.2.2.2.1
@[irreducible] noncomputable def k8 : Tok := CC.2.2.2.2.2.2.2.2.2.2.2.2.2.2.2.2.2.2.1
@[irreducible] noncomputable def k9 : Tok := CC.2.2.2.2.2.2.2.2.2.2.2.2.2.2.2.2.2.2.2.1
@[irreducible] noncomputable def f0 : Tok := CC.2.2.2.2.2.2.2.2.2.2.2.2.2.2.2.2.2.2.2.2.1
@[irreducible] noncomputable def f1 : Tok := CC.2.2.2.2.2.2.2.2.2.2.2.2.2.2.2.2.2.2.2.2.2.1
@[irreducible] noncomputable def t0 : Tok := CC.2.2.2.2.2.2.2.2.2.2.2.2.2.2.2.2.2.2.2.2.2.2.1
@[irreducible] noncomputable def t1 : Tok := CC.2.2.2.2.2.2.2.2.2.2.2.2.2.2.2.2.2.2.2.2.2.2.2.1
@[irreducible] noncomputable def t2 : Tok := CC.2.2.2.2.2.2.2.2.2.2.2.2.2.2.2.2.2.2.2.2.2.2.2.2.1
@[irreducible] noncomputable def t3 : Tok := CC.2.2.2.2.2.2.2.2.2.2.2.2.2.2.2.2.2.2.2.2.2.2.2.2.2.1
@[irreducible] noncomputable def tty : Tok := CC.2.2.2.2.2.2.2.2.2.2.2.2.2.2.2.2.2.2.2.2.2.2.2.2.2.2.1
@[irreducible] noncomputable def tv : Tok := CC.2.2.2.2.2.2.2.2.2.2.2.2.2.2.2.2.2.2.2.2.2.2.2.2.2.2.2.1
@[irreducible] noncomputable def uc : Option Str := CC.2.2.2.2.2.2.2.2.2.2.2.2.2.2.2.2.2.2.2.2.2.2.2.2.2.2.2.2.1
@[irreducible] noncomputable def cm : Option Str := CC.2.2.2.2.2.2.2.2.2.2.2.2.2.2.2.2.2.2.2.2.2.2.2.2.2.2.2.2.2.1
@[irreducible] noncomputable def tuc : Tok := CC.2.2.2.2.2.2.2.2.2.2.2.2.2.2.2.2.2.2.2.2.2.2.2.2.2.2.2.2.2.2.1
@[irreducible] noncomputable def tcm : Tok := CC.2.2.2.2.2.2.2.2.2.2.2.2.2.2.2.2.2.2.2.2.2.2.2.2.2.2.2.2.2.2.2.1
@[irreducible] noncomputable def q : Bool := CC.2.2.2.2.2.2.2.2.2.2.2.2.2.2.2.2.2.2.2.2.2.2.2.2.2.2.2.2.2.2.2.2.1
@[irreducible] noncomputable def e : Bool := CC.2.2.2.2.2.2.2.2.2.2.2.2.2.2.2.2.2.2.2.2.2.2.2.2.2.2.2.2.2.2.2.2.2.1
@[irreducible] noncomputable def a : Bool := CC.2.2.2.2.2.2.2.2.2.2.2.2.2.2.2.2.2.2.2.2.2.2.2.2.2.2.2.2.2.2.2.2.2.2.1
@[irreducible] noncomputable def esc : Bool := CC.2.2.2.2.2.2.2.2.2.2.2.2.2.2.2.2.2.2.2.2.2.2.2.2.2.2.2.2.2.2.2.2.2.2.2.1
@[irreducible] noncomputable def lead : Bool := CC.2.2.2.2.2.2.2.2.2.2.2.2.2.2.2.2.2.2.2.2.2.2.2.2.2.2.2.2.2.2.2.2.2.2.2.2.1
@[irreducible] noncomputable def note : Bool := CC.2.2.2.2.2.2.2.2.2.2.2.2.2.2.2.2.2.2.2.2.2.2.2.2.2.2.2.2.2.2.2.2.2.2.2.2.2.1
@[irreducible] noncomputable def fn : Value := CC.2.2.2.2.2.2.2.2.2.2.2.2.2.2.2.2.2.2.2.2.2.2.2.2.2.2.2.2.2.2.2.2.2.2.2.2.2.2.1
@[irreducible] noncomputable def tml : Tok := CC.2.2.2.2.2.2.2.2.2.2.2.2.2.2.2.2.2.2.2.2.2.2.2.2.2.2.2.2.2.2.2.2.2.2.2.2.2.2.2.1
@[irreducible] noncomputable def tln : Tok := CC.2.2.2.2.2.2.2.2.2.2.2.2.2.2.2.2.2.2.2.2.2.2.2.2.2.2.2.2.2.2.2.2.2.2.2.2.2.2.2.2.1
@[irreducible] noncomputable def ttx : Tok := CC.2.2.2.2.2.2.2.2.2.2.2.2.2.2.2.2.2.2.2.2.2.2.2.2.2.2.2.2.2.2.2.2.2.2.2.2.2.2.2.2.2.1
@[irreducible] noncomputable def tat : Tok := CC.2.2.2.2.2.2.2.2.2.2.2.2.2.2.2.2.2.2.2.2.2.2.2.2.2.2.2.2.2.2.2.2.2.2.2.2.2.2.2.2.2.2.1
@[irreducible] noncomputable def ml : Int := CC.2.2.2.2.2.2.2.2.2.2.2.2.2.2.2.2.2.2.2.2.2.2.2.2.2.2.2.2.2.2.2.2.2.2.2.2.2.2.2.2.2.2.2.1
@[irreducible] noncomputable def n : Int := CC.2.2.2.2.2.2.2.2.2.2.2.2.2.2.2.2.2.2.2.2.2.2.2.2.2.2.2.2.2.2.2.2.2.2.2.2.2.2.2.2.2.2.2.2.1
@[irreducible] noncomputable def ty : Int := CC.2.2.2.2.2.2.2.2.2.2.2.2.2.2.2.2.2.2.2.2.2.2.2.2.2.2.2.2.2.2.2.2.2.2.2.2.2.2.2.2.2.2.2.2.2.1
@[irreducible] noncomputable def tx : Str := CC.2.2.2.2.2.2.2.2.2.2.2.2.2.2.2.2.2.2.2.2.2.2.2.2.2.2.2.2.2.2.2.2.2.2.2.2.2.2.2.2.2.2.2.2.2.2.1
@[irreducible] noncomputable def vv : Str := CC.2.2.2.2.2.2.2.2.2.2.2.2.2.2.2.2.2.2.2.2.2.2.2.2.2.2.2.2.2.2.2.2.2.2.2.2.2.2.2.2.2.2.2.2.2.2.2.1
@[irreducible] noncomputable def k : Int := CC.2.2.2.2.2.2.2.2.2.2.2.2.2.2.2.2.2.2.2.2.2.2.2.2.2.2.2.2.2.2.2.2.2.2.2.2.2.2.2.2.2.2.2.2.2.2.2.2.1
@[irreducible] noncomputable def outer : List Env := CC.2.2.2.2.2.2.2.2.2.2.2.2.2.2.2.2.2.2.2.2.2.2.2.2.2.2.2.2.2.2.2.2.2.2.2.2.2.2.2.2.2.2.2.2.2.2.2.2.2.1
@[irreducible] noncomputable def base : Heap := CC.2.2.2.2.2.2.2.2.2.2.2.2.2.2.2.2.2.2.2.2.2.2.2.2.2.2.2.2.2.2.2.2.2.2.2.2.2.2.2.2.2.2.2.2.2.2.2.2.2.2.1
@[irreducible] noncomputable def g : Heap := CC.2.2.2.2.2.2.2.2.2.2.2.2.2.2.2.2.2.2.2.2.2.2.2.2.2.2.2.2.2.2.2.2.2.2.2.2.2.2.2.2.2.2.2.2.2.2.2.2.2.2.2.1
@[irreducible] noncomputable def s : Shared := CC.2.2.2.2.2.2.2.2.2.2.2.2.2.2.2.2.2.2.2.2.2.2.2.2.2.2.2.2.2.2.2.2.2.2.2.2.2.2.2.2.2.2.2.2.2.2.2.2.2.2.2.2.1
@[irreducible] noncomputable def Q : Value → Shared → Prop := CC.2.2.2.2.2.2.2.2.2.2.2.2.2.2.2.2.2.2.2.2.2.2.2.2.2.2.2.2.2.2.2.2.2.2.2.2.2.2.2.2.2.2.2.2.2.2.2.2.2.2.2.2.2.1
@[irreducible] noncomputable def E : Value → Shared → Prop := CC.2.2.2.2.2.2.2.2.2.2.2.2.2.2.2.2.2.2.2.2.2.2.2.2.2.2.2.2.2.2.2.2.2.2.2.2.2.2.2.2.2.2.2.2.2.2.2.2.2.2.2.2.2.2
set_option maxHeartbeats 20000000 in
theorem core : SS w mean mg mb T D FA FD X DX k0 k1 k2 k3 k4 k5 k6 k7 k8 k9 f0 f1 t0 t1 t2 t3 tty tv uc cm tuc tcm q e a esc lead note fn tml tln ttx tat ml n ty tx vv k outer base g s Q E := by
  intro hn1 hn2 hn3 hd1 hX hw hc H _ hret
  have hd2 : T < DX := by (first | lia | omega)
  have hd3 : D < DX := by (first | lia | omega)
  have hd4 : FD < DX := by (first | lia | omega)
  (refine wpAny_call ?_; k_dflt (refine' con_enter0 ?kH ?k1 ?k2 ?k3 ?k4 ?k5 ?_ ?c1 ?c2 ?c3 ?c4; (case kH => with_reducible assumption); (case k1 => k_is); (case k2 => k_is); (case k3 => k_room); (case k4 => first | exact BindsTo.of_eq rfl | exact binds_K (H.k.keeps H.st) rfl (by k_is) rfl rfl rfl); (case k5 => exact locs rfl); (case c1 => exact rfl); (case c2 => exact rfl); (case c3 => exact rfl); (case c4 => decide); intro h' tk' F' N' B' X' T' hz' hl'; (try dsimp only)))
  (k_steps; repeat' (refine stop_out ?_; first | ((k_dflt (refine' s_if1 (slf := Str.ofString "self") (ns := tokNames) (gl_ok _) (cl451 _) ?F ?X ?T ?hs ?I ?hk ?hsk ?hsd ?ht ?_; (case F => k_asm); (case X => k_asm); (case T => k_asm); (case hs => rfl); (case I => k_inst); (case hk => rfl); (case hsk => rfl); (case hsd => rfl); (case ht => rfl); k_whole); intro _); k_steps) | ((first | (refine ite_t (by with_reducible assumption) ?_) | (refine ite_f (by with_reducible assumption) ?_) | (refine ite_f (Bool.and_false _) ?_) | (refine ite_f rfl ?_) | (refine ite_t rfl ?_)); k_steps) | (refine wpAny_If ?_; k_steps)))
  refine stop_out ?_
  k_dflt ((show wpAny _ _ (call (Value.ref 264) _) _ _ _); (refine' Con.use0 (get_keep hn1 hn2 hn3 hd1 hX hw hc) ?kB ?kF ?kX ?kN ?kT ?kA ?kf ?ke ?kd ?ku ?kh ?h1 ?hP ?_; (case kB => k_asm); (case kF => k_asm); (case kX => k_asm); (case kN => k_asm); (case kT => k_asm); (case kA => exact rfl); (case kf => exact rfl); (case ke => exact rfl); (case kd => exact Nat.le_of_ble_eq_true rfl); (case ku => exact Nat.le_of_ble_eq_true rfl); (case kh => exact rfl)); (case h1 => exact fm6 (by k_mem) (by k_mem) (by k_mem) (by k_mem) (by k_mem) (by k_mem)); (case hP => exact fun _ _ => trivial); k_whole)
  intro z9 v9 led9 h9 tk9 hz9 F9 N9 R9
  obtain ⟨hv9, hl9⟩ := R9
  subst hv9
  subst hl9
  clear hw hc
  try dsimp only
  try k_fold
  (k_steps; repeat' (refine stop_out ?_; first | ((k_dflt (refine' s_if1 (slf := Str.ofString "self") (ns := tokNames) (gl_ok _) (cl451 _) ?F ?X ?T ?hs ?I ?hk ?hsk ?hsd ?ht ?_; (case F => k_asm); (case X => k_asm); (case T => k_asm); (case hs => rfl); (case I => k_inst); (case hk => rfl); (case hsk => rfl); (case hsd => rfl); (case ht => rfl); k_whole); intro _); k_steps) | ((first | (refine ite_t (by with_reducible assumption) ?_) | (refine ite_f (by with_reducible assumption) ?_) | (refine ite_f (Bool.and_false _) ?_) | (refine ite_f rfl ?_) | (refine ite_t rfl ?_)); k_steps) | (refine wpAny_If ?_; k_steps)))
  ((repeat (first | (with_reducible show Mine.Fw _ _ _ _; constructor) | k_unfold | (dsimp only [WPost]) | dsimp only)); refine' con_ret hret ?kF ?kN ?kz ?kr ?kg ?kd ?ko; (case kg => exact rfl); (case kd => exact rfl); (case ko => exact rfl); (case kF => with_reducible assumption); (case kN => with_reducible assumption); (case kz => with_reducible assumption); (case kr => (exact ⟨_, _, _, _, _, rfl, rfl, by (first | lia | omega), by (first | lia | omega)⟩)))
theorem over (v : VV) : PP v := by
  with_unfolding_all exact bad_all (hn := NN) (P := PP) core v
end told_keep_
theorem told_keep {w : World} {mean : ExcName → Option Value} {mg mb : Str → Option Value} {T D FA FD X DX : Nat} {k0 k1 k2 k3 k4 k5 k6 k7 k8 k9 f0 f1 t0 t1 t2 t3 tty tv : Tok} {uc cm : Option Str} {tuc tcm : Tok} {q e a esc lead note : Bool} {fn : Value} {tml tln ttx tat : Tok} {ml n ty : Int} {tx vv : Str} {k : Int}
   (hn1 : D < T) (hn2 : T < FD) (hn3 : FD < FA) (hd1 : FA < DX) (hX : DX < X) (hw : ty = 2 → lead = true) (hc : ty = 5 → note = true) :
    Con w mean mg mb 400 (.ref 505) [.ref T, .bool lead, .bool note] ((X, instObj 209 DX) :: (DX, tokenO w t0 t1 t2 t3 ty tty vv tv esc (vUC cm tcm)) :: tokLed w T D FA FD k0 k1 k2 k3 k4 k5 k6 k7 k8 k9 f0 f1 (vUC uc tuc) (.ref X) (.int ml tml) q e a (.ref (cond q 60 59)) (.int n tln) fn (.str tx ttx) (.int k tat))
      (fun _ => True)
      (fun _ v led' => ∃ (r r2 : Nat) (tty' tv' tcm' : Tok), v = .ref r ∧ led' = (r, tupO [.ref r2, .ref X]) :: (r2, tupO [.int ty tty', .str vv tv', .bool esc, vUC cm tcm']) :: ((X, instObj 209 DX) :: (DX, tokenO w t0 t1 t2 t3 ty tty vv tv esc (vUC cm tcm)) :: tokLed w T D FA FD k0 k1 k2 k3 k4 k5 k6 k7 k8 k9 f0 f1 (vUC uc tuc) .none (.int ml tml) q e a (.ref (cond q 60 59)) (.int n tln) fn (.str tx ttx) (.int k tat)) ∧ X < r2 ∧ r2 < r) := fun outer base g s Q E => told_keep_.over (w, mean, mg, mb, T, D, FA, FD, X, DX, k0, k1, k2, k3, k4, k5, k6, k7, k8, k9, f0, f1, t0, t1, t2, t3, tty, tv, uc, cm, tuc, tcm, q, e, a, esc, lead, note, fn, tml, tln, ttx, tat, ml, n, ty, tx, vv, k, outer, base, g, s, Q, E) hn1 hn2 hn3 hd1 hX hw hc
end
end Mine
end

section
local macro_rules | `(tactic| walk_at $_) => Lean.Macro.throwUnsupported
local macro_rules | `(tactic| walk_at $_) => Lean.Macro.throwUnsupported
local macro_rules | `(tactic| walk_at $_) => Lean.Macro.throwUnsupported
local macro_rules | `(tactic| walk_at $_) => Lean.Macro.throwUnsupported
local macro_rules | `(tactic| walk_at $_) => Lean.Macro.throwUnsupported
local macro_rules | `(tactic| walk_at $_) => Lean.Macro.throwUnsupported
local macro_rules | `(tactic| walk_at $_) => Lean.Macro.throwUnsupported
local macro_rules | `(tactic| walk_at $_) => Lean.Macro.throwUnsupported
local macro_rules | `(tactic| walk_at $_) => Lean.Macro.throwUnsupported
open PySem PySem.W PySem.Calls PyProof.Rows
set_option genInjectivity false
set_option genSizeOf false
namespace Mine
set_option maxHeartbeats 8000000 in
theorem fill12 : PySem.Challenge.rw_jf0021_01 = PySem.Challenge.rw_jf0021_01 ∧ Mine.hd.heap_1 = Mine.hd.heap_1 := by
  k_fill
  exact ⟨rfl, rfl⟩
section
local macro_rules | `(tactic| walk_at "call builtin:bytes.decode") => `(tactic| (refine call_decode (by assumption) (by assumption) ?_; intro _ _))
/-- a new tokenizer -/
noncomputable def NewR (w : World) (x d : Nat) (fn : Str) (tfn : Tok) (tx : Str) : Nat → Value → List (Addr × Obj) → Prop := fun _ v led' =>
  v = .none ∧ ∃ (FA FD : Nat) (k0 k1 k2 k3 k4 k5 k6 k7 k8 k9 f0 f1 tml tln ttx tat : Tok),
    led' = tokLed w x d FA FD k0 k1 k2 k3 k4 k5 k6 k7 k8 k9 f0 f1 .none .none (.int 0 tml) false false false (.ref 59) (.int 1 tln) (.str fn tfn) (.str tx ttx) (.int 0 tat) ∧ x < FD ∧ FD < FA
/-- behind the choice of the text -/
noncomputable def IniJ (w : World) (g : Heap) (L : Addr) (s : Shared) (x d : Nat) (tx fn : Str) (tfn : Tok) (s' : Shared) : Prop :=
  ∃ (FA FD : Nat) (k0 f0 f1 ttx tat : Tok), GetC g L s [(Str.ofString "self", .ref x), (Str.ofString "filename", .str fn tfn)]
    [((x : Addr), instObj 451 d), ((d : Addr), dictOf [ent w "file" k0 (.ref FA)] 1), ((FA : Addr), instObj 84 FD), ((FD : Addr), dictOf [ent w "text" f0 (.str tx ttx), ent w "at" f1 (.int 0 tat)] 2)] s' ∧ x < FD ∧ FD < FA
theorem iniJ_of {w : World} {g : Heap} {L : Addr} {s : Shared} {x d : Nat} {tx fn : Str} {tfn : Tok} {h' : Heap} {m : Str → Option Value} {tk : Nat} {ga dr os} {FA FD : Nat} {k0 f0 f1 ttx tat : Tok} {news : List (Addr × Obj)}
    (F : Fr g L h' m) (N : News g L h' news) (h1 : ((x : Addr), instObj 451 d) ∈ news) (h2 : ((d : Addr), dictOf [ent w "file" k0 (.ref FA)] 1) ∈ news) (h3 : ((FA : Addr), instObj 84 FD) ∈ news) (h4 : ((FD : Addr), dictOf [ent w "text" f0 (.str tx ttx), ent w "at" f1 (.int 0 tat)] 2) ∈ news)
    (e1 : m (Str.ofString "self") = some (.ref x)) (e2 : m (Str.ofString "filename") = some (.str fn tfn)) (l1 : x < FD) (l2 : FD < FA) (eg : ga = s.gens) (ed : dr = s.drawn) (eo : os = s.os) : IniJ w g L s x d tx fn tfn ⟨h', ga, dr, tk, os⟩ :=
  ⟨FA, FD, k0, f0, f1, ttx, tat, getC_of F N (fm4 h1 h2 h3 h4) (fc e1 (fc e2 fz)) eg ed eo, l1, l2⟩
namespace ini_
noncomputable abbrev VV := (World) × (ExcName → Option Value) × (Str → Option Value) × (Str → Option Value) × (Nat) × (Nat) × (Str) × (Str) × (Tok) × (List Env) × (Heap) × (Heap) × (Shared) × (Result → Shared → Prop)
noncomputable def SS (w : World) (mean : ExcName → Option Value) (mg : Str → Option Value) (mb : Str → Option Value) (x : Nat) (d : Nat) (tx : Str) (fn : Str) (tfn : Tok) (outer : List Env) (base : Heap) (g : Heap) (s : Shared) (Rr : Result → Shared → Prop) : Prop := ∀ (v : Value), (d < x) → ((∃ t, v = .str tx t) ∨ ((∃ t, v = .bytes (enc tx) t) ∧ tx.length ≤ 1000 ∧ ∀ c ∈ tx.cps.toList, c < 2048)) → ConC1 w mean mg mb 350 (.ref 228) ⟨[.ref x, v, .str fn tfn], []⟩ [(x, instObj 451 d), (d, dictOf [] 0)] (NewR w x d fn tfn tx) outer base g s Rr
noncomputable def PP (v : VV) : Prop := SS v.1 v.2.1 v.2.2.1 v.2.2.2.1 v.2.2.2.2.1 v.2.2.2.2.2.1 v.2.2.2.2.2.2.1 v.2.2.2.2.2.2.2.1 v.2.2.2.2.2.2.2.2.1 v.2.2.2.2.2.2.2.2.2.1 v.2.2.2.2.2.2.2.2.2.2.1 v.2.2.2.2.2.2.2.2.2.2.2.1 v.2.2.2.2.2.2.2.2.2.2.2.2.1 v.2.2.2.2.2.2.2.2.2.2.2.2.2
theorem NN : Nonempty VV := ⟨(aWorld 0, fun _ => none, fun _ => none, fun _ => none, 0, 0, default, default, 0, [], default, default, ⟨default, #[], boot_drawn, 0, default⟩, fun _ _ => True)⟩
@[irreducible] noncomputable def CC : VV := bad NN PP
@[irreducible] noncomputable def w : World := CC.1
@[irreducible] noncomputable def mean : ExcName → Option Value := CC.2.1
@[irreducible] noncomputable def mg : Str → Option Value := CC.2.2.1
@[irreducible] noncomputable def mb : Str → Option Value := CC.2.2.2.1
@[irreducible] noncomputable def x : Nat := CC.2.2.2.2.1
@[irreducible] noncomputable def d : Nat := CC.2.2.2.2.2.1
@[irreducible] noncomputable def tx : Str := CC.2.2.2.2.2.2.1
@[irreducible] noncomputable def fn : Str := CC.2.2.2.2.2.2.2.1
@[irreducible] noncomputable def tfn : Tok := CC.2.2.2.2.2.2.2.2.1
@[irreducible] noncomputable def outer : List Env := CC.2.2.2.2.2.2.2.2.2.1
@[irreducible] noncomputable def base : Heap := CC.2.2.2.2.2.2.2.2.2.2.1
@[irreducible] noncomputable def g : Heap := CC.2.2.2.2.2.2.2.2.2.2.2.1
@[irreducible] noncomputable def s : Shared := CC.2.2.2.2.2.2.2.2.2.2.2.2.1
@[irreducible] noncomputable def Rr : Result → Shared → Prop := CC.2.2.2.2.2.2.2.2.2.2.2.2.2
set_option maxHeartbeats 8000000 in
theorem core : SS w mean mg mb x d tx fn tfn outer base g s Rr := by
  intro v hdx hv H hret
  (k_dflt (refine' con_enter0 ?kH ?k1 ?k2 ?k3 ?k4 ?k5 ?_ ?c1 ?c2 ?c3 ?c4; (case kH => with_reducible assumption); (case k1 => k_is); (case k2 => k_is); (case k3 => k_room); (case k4 => first | exact BindsTo.of_eq rfl | exact binds_K (H.k.keeps H.st) rfl (by k_is) rfl rfl rfl); (case k5 => exact locs rfl); (case c1 => exact rfl); (case c2 => exact rfl); (case c3 => exact rfl); (case c4 => decide); intro h' tk' F' N' B' X' T' hz' hl'; (try dsimp only)))
  refine if_joinX (IniJ w g s.heap.objs.size s x d tx fn tfn) ?_ ?_
  · rcases hv with ⟨t, rfl⟩ | ⟨⟨t, rfl⟩, hx, hx2⟩
    · k_steps
      (repeat (first | (with_reducible show Mine.Fw _ _ _ _; constructor) | k_unfold | (dsimp only [WPost]) | dsimp only))
      exact iniJ_of (by k_asm) (by k_asm) (by k_mem) (by k_mem) (by k_mem) (by k_mem) rfl rfl (by omega) (by omega) rfl rfl rfl
    · k_steps
      (repeat (first | (with_reducible show Mine.Fw _ _ _ _; constructor) | k_unfold | (dsimp only [WPost]) | dsimp only))
      exact iniJ_of (by k_asm) (by k_asm) (by k_mem) (by k_mem) (by k_mem) (by k_mem) rfl rfl (by omega) (by omega) rfl rfl rfl
  · rintro s' ⟨FA, FD, j0, i0, i1, ttx, tat, ⟨h2, tk2, u2, rfl, F2, N2⟩, q1, q2⟩
    clear hv
    try k_fold
    k_steps
    ((repeat (first | (with_reducible show Mine.Fw _ _ _ _; constructor) | k_unfold | (dsimp only [WPost]) | dsimp only)); refine' con_ret (Q := fun v s' => Rr (Except.ok (Flow.ret v)) s') (led' := tokLed w x d _ _ _ _ _ _ _ _ _ _ _ _ _ _ _ _ _ _ _ _ _ _ _ _ _) hret ?kF ?kN ?kz ?kr ?kg ?kd ?ko; (case kg => exact rfl); (case kd => exact rfl); (case ko => exact rfl); (case kF => with_reducible assumption); (case kz => with_reducible assumption); (case kN => (refine' cb_drop ?kn ?ks; (case kn => with_reducible assumption); (case ks => exact fm4 (by k_mem) (by k_mem) (by k_mem) (by k_mem)))); (case kr => exact ⟨rfl, _, _, _, _, _, _, _, _, _, _, _, _, _, _, _, _, _, _, rfl, by (first | lia | omega), by (first | lia | omega)⟩))
theorem over (v : VV) : PP v := by
  with_unfolding_all exact bad_all (hn := NN) (P := PP) core v
end ini_
theorem ini {w : World} {mean : ExcName → Option Value} {mg mb : Str → Option Value} {x d : Nat} {tx fn : Str} {tfn : Tok} {v : Value} (hdx : d < x) (hv : (∃ t, v = .str tx t) ∨ ((∃ t, v = .bytes (enc tx) t) ∧ tx.length ≤ 1000 ∧ ∀ c ∈ tx.cps.toList, c < 2048)) :
    ConC w mean mg mb 350 (.ref 228) ⟨[.ref x, v, .str fn tfn], []⟩ [(x, instObj 451 d), (d, dictOf [] 0)] (NewR w x d fn tfn tx) := fun outer base g s Rr => ini_.over (w, mean, mg, mb, x, d, tx, fn, tfn, outer, base, g, s, Rr) v hdx hv
theorem ini_str {w : World} {mean : ExcName → Option Value} {mg mb : Str → Option Value} {x d : Nat} {tx fn : Str} {ttx tfn : Tok} (hdx : d < x) :
    ConC w mean mg mb 350 (.ref 228) ⟨[.ref x, .str tx ttx, .str fn tfn], []⟩ [(x, instObj 451 d), (d, dictOf [] 0)] (NewR w x d fn tfn tx) := ini hdx (.inl ⟨_, rfl⟩)
theorem ini_bytes {w : World} {mean : ExcName → Option Value} {mg mb : Str → Option Value} {x d : Nat} {tx fn : Str} {tb tfn : Tok} (hdx : d < x) (hx : tx.length ≤ 1000) (hx2 : ∀ c ∈ tx.cps.toList, c < 2048) :
    ConC w mean mg mb 350 (.ref 228) ⟨[.ref x, .bytes (enc tx) tb, .str fn tfn], []⟩ [(x, instObj 451 d), (d, dictOf [] 0)] (NewR w x d fn tfn tx) := ini hdx (.inr ⟨⟨_, rfl⟩, hx, hx2⟩)
end
end Mine
end

section
set_option genInjectivity false
set_option genSizeOf false
open PySem PySem.W PySem.Calls PyProof.Rows
namespace Mine
section
variable {prog : Program} {w : World} {A : Around} {E : Value → Shared → Prop} {s : Shared} {h₀ : Heap} {L : Addr} {news : List (Addr × Obj)} {Q : Value → Shared → Prop}
theorem ne_tup4 {r a : Nat} {ty : Int} {v : Str} {e : Bool} {cm : Option Str} {t1 t2 t3 t4 t5 t6 : Tok} (N : News h₀ L s.heap news) (m1 : ((r : Addr), tupO [.int ty t1, .str v t2, .bool e, vUC cm t3]) ∈ news) (m2 : ((a : Addr), tupO [.int ty t4, .str v t5, .bool e, vUC cm t6]) ∈ news)
    (hv : Sm v) (hcm : ∀ c, cm = some c → Sm c) (hu : A.units + 64 < cLine) (h : Q (.bool false) s) : wpAny (model prog w) A (compareOp .NotEq (.ref r) (.ref a)) Q E s := by
  have hvo := hv.ok
  cases cm with
  | none =>
    refine ne_dataH (reads_tuple_at (N.get m1) rfl rfl (.cons (.int _ _) (.cons (.str _ _) (.cons (.bool _) (.cons .none .nil))))) (reads_tuple_at (N.get m2) rfl rfl (.cons (.int _ _) (.cons (.str _ _) (.cons (.bool _) (.cons .none .nil))))) (by simp [SeqAt.shaped, PyData.canLay0, PyData.canLayAll0, PyData.depth, PyData.depthAll, *]) (by simp [SeqAt.shaped, PyData.canLay0, PyData.canLayAll0, PyData.depth, PyData.depthAll, *]) hu ?_
    simpa [PyData.eqv, PyData.eqvAll] using h
  | some c =>
    have hco := (hcm c rfl).ok
    refine ne_dataH (reads_tuple_at (N.get m1) rfl rfl (.cons (.int _ _) (.cons (.str _ _) (.cons (.bool _) (.cons (.str _ _) .nil))))) (reads_tuple_at (N.get m2) rfl rfl (.cons (.int _ _) (.cons (.str _ _) (.cons (.bool _) (.cons (.str _ _) .nil))))) (by simp [SeqAt.shaped, PyData.canLay0, PyData.canLayAll0, PyData.depth, PyData.depthAll, *]) (by simp [SeqAt.shaped, PyData.canLay0, PyData.canLayAll0, PyData.depth, PyData.depthAll, *]) hu ?_
    simpa [PyData.eqv, PyData.eqvAll] using h
theorem ne_tup2 {r a : Nat} {fn : Str} {n : Int} {t1 t2 t4 t5 : Tok} (N : News h₀ L s.heap news) (m1 : ((r : Addr), tupO [.str fn t1, .int n t2]) ∈ news) (m2 : ((a : Addr), tupO [.str fn t4, .int n t5]) ∈ news)
    (hv : Sm fn) (hu : A.units + 64 < cLine) (h : Q (.bool false) s) : wpAny (model prog w) A (compareOp .NotEq (.ref r) (.ref a)) Q E s := by
  have hvo := hv.ok
  refine ne_dataH (reads_tuple_at (N.get m1) rfl rfl (.cons (.str _ _) (.cons (.int _ _) .nil))) (reads_tuple_at (N.get m2) rfl rfl (.cons (.str _ _) (.cons (.int _ _) .nil))) (by simp [SeqAt.shaped, PyData.canLay0, PyData.canLayAll0, PyData.depth, PyData.depthAll, *]) (by simp [SeqAt.shaped, PyData.canLay0, PyData.canLayAll0, PyData.depth, PyData.depthAll, *]) hu ?_
  simpa [PyData.eqv, PyData.eqvAll] using h
theorem eq_tup4 {r : Nat} {a : Value} {as : List Addr} {ty : Int} {v : Str} {e : Bool} {t1 t2 t3 : Tok} (N : News h₀ L s.heap news) (m1 : ((r : Addr), tupO [.int ty t1, .str v t2, .bool e, vUC none t3]) ∈ news) (m2 : Reads s.heap a (.tuple [.int ty, .str v, .bool e, .none]) as)
    (hv : Sm v) (hu : A.units + 64 < cLine) (h : Q (.bool true) s) : wpAny (model prog w) A (compareOp .Eq (.ref r) a) Q E s := by
  have hvo := hv.ok
  refine eq_dataH (reads_tuple_at (N.get m1) rfl rfl (.cons (.int _ _) (.cons (.str _ _) (.cons (.bool _) (.cons .none .nil))))) m2 (by simp [SeqAt.shaped, PyData.canLay0, PyData.canLayAll0, PyData.depth, PyData.depthAll, *]) (by simp [SeqAt.shaped, PyData.canLay0, PyData.canLayAll0, PyData.depth, PyData.depthAll, *]) hu ?_
  simpa [PyData.eqv, PyData.eqvAll] using h
end
end Mine
end

section
set_option genInjectivity false
set_option genSizeOf false
open PySem PySem.W PySem.Calls PyProof.Rows
namespace Mine
theorem cnt_count (c : Nat) : ∀ l : List Nat, cnt c l = ((l.count c : Nat) : Int)
  | [] => rfl
  | a :: l => by
    rw [cnt_cons, cnt_count c l, List.count_cons]
    by_cases h : a = c
    · subst h; simp; (first | lia | omega)
    · simp [h]
theorem tx_count (x : Str) : Txt.count x (Str.ofString "\n") = nlS x := by
  rw [l_nl, count_cnt, cnt_count]; rfl
theorem str_ps (PS : List Pc) : (PS.filter fun p => p.kind == Str.ofString "string").map Pc.val = strVals PS := by
  induction PS with
  | nil => rfl
  | cons p r ih =>
    cases p with
    | str v e => rw [List.filter_cons_of_pos (by dsimp only [Pc.kind]; decide +kernel), List.map_cons, ih]; rfl
    | _ => rw [List.filter_cons_of_neg (by show ¬ (_ == _) = true; dsimp only [Pc.kind]; decide +kernel), ih]; rfl
theorem line_ps (PS : List Pc) : (PS.filter fun p => p.kind == Str.ofString "line").length = (lineVals PS).length := by
  induction PS with
  | nil => rfl
  | cons p r ih =>
    cases p with
    | line c => rw [List.filter_cons_of_pos (by dsimp only [Pc.kind]; decide +kernel), List.length_cons, ih]; rfl
    | _ => rw [List.filter_cons_of_neg (by show ¬ (_ == _) = true; dsimp only [Pc.kind]; decide +kernel), ih]; rfl
theorem pl_size {PL : List (Addr × Obj)} {PS : List Pc} (hA : PcAll PL PS) (hn : PS.length ≤ 2001) : (refsOfL PL).toArray.size ≤ sizeLine := by
  have hz : (refsOfL PL).toArray.size = PS.length := by simp [refsOfL, hA.len]
  rw [hz, PySem.sizeLine_eq]; (first | lia | omega)
inductive Sel (Pv : Pc → Value → Prop) : List Value → List Pc → Prop where
  | nil : Sel Pv [] []
  | cons {y : Value} {p : Pc} {ys : List Value} {ps : List Pc} : Pv p y → Sel Pv ys ps → Sel Pv (y :: ys) (p :: ps)
theorem Sel.snoc {Pv : Pc → Value → Prop} {y : Value} {p : Pc} (h : Pv p y) : ∀ {ys : List Value} {ps : List Pc}, Sel Pv ys ps → Sel Pv (ys ++ [y]) (ps ++ [p])
  | _, _, .nil => .cons h .nil
  | _, _, .cons a r => .cons a (r.snoc h)
theorem Sel.len {Pv : Pc → Value → Prop} : ∀ {ys : List Value} {ps : List Pc}, Sel Pv ys ps → ys.length = ps.length
  | _, _, .nil => rfl
  | _, _, .cons _ r => congrArg (· + 1) r.len
theorem Sel.strs : ∀ {ys : List Value} {ps : List Pc}, Sel (fun p y => ∃ t, y = .str p.val t) ys ps → StrsAre ys (ps.map Pc.val)
  | _, _, .nil => .nil
  | _, _, .cons ⟨t, e⟩ r => by subst e; exact .cons _ t r.strs
noncomputable def TElY (sel : Pc → Bool) (Pv : Pc → Value → Prop) (p : Pc) (news : List (Addr × Obj)) (y : Value) (news' : List (Addr × Obj)) : Prop := news' = news ∧ sel p = true ∧ Pv p y
noncomputable def TElN (sel : Pc → Bool) (p : Pc) (news : List (Addr × Obj)) (news' : List (Addr × Obj)) : Prop := news' = news ∧ sel p = false
section
variable {prog : Program} {w : World} {A : Around} {h₀ : Heap} {L : Addr} {m : Str → Option Value} {env : Env} {ct elt : Expr} {x : Str} {scope : Scope} {cl : List (Str × Addr)} {s : Shared} {S : List (Addr × Obj) → Prop} {Fin : List Value → List (Addr × Obj) → Prop} {news : List (Addr × Obj)}
theorem rest_test {PL : List (Addr × Obj)} {PS : List Pc} (sel : Pc → Bool) (Pv : Pc → Value → Prop) (hA : PcAll PL PS) (hn : ∀ p ∈ PL, p ∈ news)
    (turn : ∀ (a : Addr) (p : Pc) t1 t2 I oI C oC D m₂ ys h tk (E' : Value → Shared → Prop), IsTup h a [.str p.kind t1, .str p.val t2, .bool p.esc].toArray → LCg.NsObj oC m₂ → m₂ x = some (.ref a) → Fr h₀ L h m → News h₀ L h ((I, oI) :: (C, oC) :: (D, LCg.lst ys) :: news) → LCg.Off3 I C D news → ((@Ne Nat I C) ∧ (@Ne Nat I D) ∧ (@Ne Nat C D)) →
      wpAny (model prog w) A (isTrue ct (compEnvC scope cl C env) (eval ct (compEnvC scope cl C env))) (fun ok s' => if ok = true then
        wpAny (model prog w) A (eval elt (compEnvC scope cl C env)) (LCg.CompEnd h₀ L m { s with heap := h, toks := tk } I oI C oC D (LCg.lst ys) S (TElY sel Pv p news)) E' s'
        else LCg.CompEnd h₀ L m { s with heap := h, toks := tk } I oI C oC D (LCg.lst ys) S (fun _ news' => TElN sel p news news') Value.none s') E' { s with heap := h, toks := tk })
    (fin : ∀ ys, Sel Pv ys (PS.filter sel) → Fin ys news) : LCt.CompRestT prog w A h₀ L m env ct elt x scope cl s S (fun i v => (refsOfL PL).toArray[i]? = some v) Fin (refsOfL PL).toArray.size 0 [] news := by
  have hz : (refsOfL PL).toArray.size = PS.length := by simp [refsOfL, hA.len]
  have at_ : ∀ (i : Nat) (v : Value), (refsOfL PL)[i]? = some v → ∃ e p t1 t2, e ∈ PL ∧ PS[i]? = some p ∧ v = .ref e.1 ∧ e.2 = pcO p t1 t2 := by
    clear turn fin hz hn
    induction hA with
    | nil => intro i v h; simp [refsOfL] at h
    | @cons e p PL ps t1 t2 he hr ih =>
      intro i v h
      cases i with
      | zero =>
        simp [refsOfL] at h
        exact ⟨e, p, t1, t2, List.mem_cons_self, rfl, h.symm, he⟩
      | succ i =>
        have h' : (refsOfL PL)[i]? = some v := by simpa [refsOfL] using h
        obtain ⟨e2, p2, u1, u2, a1, a2, a3, a4⟩ := ih i v h'
        exact ⟨e2, p2, u1, u2, List.mem_cons_of_mem _ a1, by simpa using a2, a3, a4⟩
  have key : ∀ (j i : Nat) (ys : List Value), i + j = PS.length → Sel Pv ys ((PS.take i).filter sel) → LCt.CompRestT prog w A h₀ L m env ct elt x scope cl s S (fun i v => (refsOfL PL).toArray[i]? = some v) Fin j i ys news := by
    intro j
    induction j with
    | zero =>
      intro i ys hi hy
      have e : i = PS.length := by (first | lia | omega)
      subst e
      rw [List.take_length] at hy
      exact LCt.CompRestT.zero (fin ys hy)
    | succ j ih =>
      intro i ys hij hy
      refine LCt.CompRestT.succ ?_
      intro v I oI C oC D m₂ h tk E' hv hC hx F N off ne
      obtain ⟨e, p, t1, t2, he, hp, hv', ho⟩ := at_ i v (by simpa using hv)
      rw [hv'] at hx
      have hg := (N e (List.mem_cons_of_mem _ (List.mem_cons_of_mem _ (List.mem_cons_of_mem _ (hn e he))))).1
      have hT : IsTup h e.1 [.str p.kind t1, .str p.val t2, .bool p.esc].toArray := ⟨_, hg, by rw [ho], 0, by rw [ho]⟩
      have ht : (PS.take (i + 1)).filter sel = (PS.take i).filter sel ++ (if sel p = true then [p] else []) := by
        rw [List.take_add_one, hp, List.filter_append]
        cases hs : sel p <;> simp [hs]
      refine wpAny_mono (turn e.1 p t1 t2 I oI C oC D m₂ ys h tk E' hT hC hx F N off ne) (fun ok s₂ hq => ?_) fun _ _ e => e
      cases ok with
      | true =>
        simp only [if_true] at hq ⊢
        refine wpAny_mono hq (fun y s₃ hq2 => ?_) fun _ _ e => e
        obtain ⟨h', tk', nw, e1, F', N', off', hS, hn', hs, hpv⟩ := hq2
        rw [hn'] at N' off' hS
        refine ⟨h', tk', news, e1, F', N', off', hS, ?_⟩
        refine ih (i + 1) _ (by (first | lia | omega)) ?_
        rw [ht, if_pos hs]
        exact hy.snoc hpv
      | false =>
        simp only [Bool.false_eq_true, if_false] at hq ⊢
        obtain ⟨h', tk', nw, e1, F', N', off', hS, hn', hs⟩ := hq
        rw [hn'] at N' off' hS
        refine ⟨h', tk', news, e1, F', N', off', hS, ?_⟩
        refine ih (i + 1) _ (by (first | lia | omega)) ?_
        rw [ht, if_neg (by rw [hs]; decide), List.append_nil]
        exact hy
  rw [hz]
  exact key PS.length 0 [] (by (first | lia | omega)) (by simp only [List.take_zero, List.filter_nil]; exact .nil)
end
end Mine
end

section
set_option genInjectivity false
set_option genSizeOf false
open PySem PySem.W PySem.Calls PyProof.Rows
namespace Mine
section
variable {prog : Program} {w : World} {A : Around} {E : Value → Shared → Prop} {s : Shared} {h₀ : Heap} {L : Addr} {news : List (Addr × Obj)} {Q : Value → Shared → Prop}
theorem len_lines {D : Addr} {ys : List Value} {PS : List Pc} (N : News h₀ L s.heap news) (hm : (D, LCg.lst ys) ∈ news) (hy : Sel (fun _ _ => True) ys (PS.filter fun p => p.kind == Str.ofString "line")) (hn : PS.length ≤ 2001)
    (h : ∀ t k, Q (.int ((lineVals PS).length : Int) t) { s with toks := k }) : wpAny (model prog w) A (call (.builtin "len") [.ref D]) Q E s := by
  have hz : ys.toArray.size = (lineVals PS).length := by rw [List.size_toArray, hy.len, line_ps]
  have hl : (lineVals PS).length ≤ PS.length := by rw [← line_ps]; exact List.length_filter_le _ _
  refine call_len_list (News.isList N hm) (by rw [hz]; (first | lia | omega)) ?_
  rw [hz]
  exact h _ _
theorem join_strs {D : Addr} {ys : List Value} {PS : List Pc} {r : List Nat} {u : Tok} (N : News h₀ L s.heap news) (hm : (D, LCg.lst ys) ∈ news) (hy : Sel (fun p y => ∃ t, y = .str p.val t) ys (PS.filter fun p => p.kind == Str.ofString "string")) (hC : Cut r PS) (hr : r.length ≤ 1000)
    (h : ∀ t k, Q (.str (Txt.join (Str.ofString "") (strVals PS)) t) { s with toks := k }) : wpAny (model prog w) A (call (.builtin "str.join") [.str (Str.ofString "") u, .ref D]) Q E s := by
  have hs := hy.strs
  rw [str_ps] at hs
  have hsum := hC.sum
  unfold sumLen at hsum
  exact join_list (News.isList N hm) hs (by rw [len_nil]; (first | lia | omega)) h
theorem count_nl {x : Str} {t u : Tok} (h : ∀ t' k, Q (.int (nlS x) t') { s with toks := k }) : wpAny (model prog w) A (call (.builtin "str.count") [.str x t, .str (Str.ofString "\n") u]) Q E s :=
  SC.count (by rw [tx_count]; exact h _ _)
end
end Mine
end

section
open PySem PySem.W PySem.Calls PyProof.Rows
set_option genInjectivity false
set_option genSizeOf false
namespace Mine
/-- a frame with these names, a ledger with these objects -/
noncomputable def FrC (g : Heap) (L : Addr) (gs : Array GenState) (dr : Drawn) (os : OsState) (ps : List (Str × Value)) (led : List (Addr × Obj)) (s' : Shared) : Prop :=
  ∃ h' tk' u, s' = ⟨h', gs, dr, tk', os⟩ ∧ Fr g L h' (kstB u ps) ∧ News g L h' led
theorem frC_of {g : Heap} {L : Addr} {gs : Array GenState} {dr : Drawn} {os : OsState} {ps : List (Str × Value)} {led news : List (Addr × Obj)} {h' : Heap} {m : Str → Option Value} {tk : Nat}
    (F : Fr g L h' m) (N : News g L h' news) (hl : ∀ p ∈ led, p ∈ news) (hk : ∀ p ∈ ps, m p.1 = some p.2) : FrC g L gs dr os ps led ⟨h', gs, dr, tk, os⟩ := by
  have em : kstB m ps = m := by
    funext y
    exact kstB_eq hk fun _ => rfl
  exact ⟨h', tk, m, rfl, by rw [em]; exact F, cb_drop N hl⟩
noncomputable def MyEl (Pr : Str → Prop) (news : List (Addr × Obj)) (y : Value) (news' : List (Addr × Obj)) : Prop := news' = news ∧ ∃ r t, y = .str r t ∧ Pr r
section
variable {prog : Program} {w : World} {A : Around} {h₀ : Heap} {L : Addr} {m : Str → Option Value} {env : Env} {elt : Expr} {x : Str} {scope : Scope} {cl : List (Str × Addr)} {s : Shared} {S : List (Addr × Obj) → Prop} {Fin : List Value → List (Addr × Obj) → Prop} {news : List (Addr × Obj)}
theorem kct_any {vs : List Value} {ns : List Int} (Pr : Str → Prop) (hi : IntsAre vs ns)
    (turn : ∀ k t I oI C oC D m₂ ys h tk (E' : Value → Shared → Prop), k ∈ ns → LCg.NsObj oC m₂ → m₂ x = some (.int k t) → Fr h₀ L h m → News h₀ L h ((I, oI) :: (C, oC) :: (D, LCg.lst ys) :: news) → LCg.Off3 I C D news → ((@Ne Nat I C) ∧ (@Ne Nat I D) ∧ (@Ne Nat C D)) →
      wpAny (model prog w) A (eval elt (compEnvC scope cl C env)) (LCg.CompEnd h₀ L m { s with heap := h, toks := tk } I oI C oC D (LCg.lst ys) S (MyEl Pr news)) E' { s with heap := h, toks := tk })
    (fin : ∀ ys rs, StrsAre ys rs → rs.length = ns.length → (∀ r ∈ rs, Pr r) → Fin ys news) : LCg.CompRest prog w A h₀ L m env elt x scope cl s S (fun i v => vs.toArray[i]? = some v) Fin vs.toArray.size 0 [] news := by
  have key : ∀ (j i : Nat) (ys : List Value) (rs : List Str), i + j = ns.length → rs.length = i → StrsAre ys rs → (∀ r ∈ rs, Pr r) → LCg.CompRest prog w A h₀ L m env elt x scope cl s S (fun i v => vs.toArray[i]? = some v) Fin j i ys news := by
    intro j
    induction j with
    | zero =>
      intro i ys rs hi hr hy hp
      exact LCg.CompRest.zero (fin ys rs hy (by (first | lia | omega)) hp)
    | succ j ih =>
      intro i ys rs hij hr hy hp
      refine LCg.CompRest.succ ?_
      intro v I oI C oC D m₂ h tk E' hv hC hx F N off ne
      obtain ⟨k, t, hv', hk⟩ := IntsAre.at hi i v (by simpa using hv)
      rw [hv'] at hx
      refine wpAny_mono (turn k t I oI C oC D m₂ ys h tk E' (List.mem_of_getElem? hk) hC hx F N off ne) (fun y s₂ hq => ?_) fun _ _ e => e
      obtain ⟨h', tk', nw, e, F', N', off', hS, hn, r, t', hy', hpr⟩ := hq
      rw [hn] at N' off' hS
      refine ⟨h', tk', news, e, F', N', off', hS, ?_⟩
      rw [hy']
      refine ih (i + 1) _ (rs ++ [r]) (by (first | lia | omega)) (by simp [hr]) (kct_snoc hy) ?_
      intro z hz
      rcases List.mem_append.mp hz with hz | hz
      · exact hp z hz
      · rw [List.mem_singleton.mp hz]; exact hpr
  have hl := hi.length
  rw [List.size_toArray, hl]
  exact key ns.length 0 [] [] (by (first | lia | omega)) rfl .nil (fun _ h => nomatch h)
end
theorem tab_item {prog : Program} {w : World} {A : Around} {E : Value → Shared → Prop} {s : Shared} {h₀ : Heap} {L : Addr} {m : Str → Option Value} {K : Frag} {value slice : Expr} {l : Addr} {vs : List Value} {ws : List Str} {dd : Option Addr} {n : Nat} {sl : Array (Option Value)} {i : Int} {u : Tok} {Q : Value → Shared → Prop}
    (X : K.In h₀) (F : Fr h₀ L s.heap m) (ho : K.lookup l = some ⟨.type "list", dd, .seq vs.toArray n, sl⟩) (hw : StrsAre vs ws) (hp : (ws.all fun r => decide (r.length ≤ 10) && (tl r).all fun c => decide (c < 2048)) = true)
    (h0 : 0 ≤ i) (h1 : i < (ws.length : Int)) (hfit : i < 2 ^ 63) (h : ∀ r t', PcTxt r → Q (.str r t') s)
    (hs : subscripted slice false (.ref l) (.int i u) = operate [.ref l, .int i u] (getItem (.ref l) (.int i u))) :
    wpAny (model prog w) A (subscriptTail value slice (.ref l) (.int i u)) Q E s := by
  refine KTb.item_list (lstK (X.keeps F.keep) ho) hw h0 h1 hfit (fun t' hlt => h _ t' ?_) hs
  rw [List.getD_eq_getElem?_getD, List.getElem?_eq_getElem hlt]
  have := List.all_eq_true.mp hp _ (List.getElem_mem hlt)
  simp only [Bool.and_eq_true, decide_eq_true_iff, List.all_eq_true] at this
  exact this
theorem cut_start {tx : Str} (hx : tx.length ≤ 1000) : ∃ ps, cutM 3000 tx 0 [] = some ps ∧ Cut (tl tx) ps ∧ ps.length ≤ 2001 := by
  obtain ⟨ps, h1, h2, h3⟩ := cutM_list tx hx 3000 0 [] (Int.le_refl _) (by (first | lia | omega)) (by (first | lia | omega)) (by simp)
  refine ⟨ps, by simpa using h1, by simpa using h2, ?_⟩
  simp at h3
  (first | lia | omega)
theorem cls_off {news : List (Addr × Obj)} {x d : Nat} {a b : Obj} (h1 : ∀ p ∈ news, p.1 < d) (h2 : d < x) : ∀ p ∈ news, ∀ q ∈ [((x : Addr), a), ((d : Addr), b)], p.1 ≠ q.1 := by
  intro p hp q hq
  have h : @LT.lt Nat _ p.1 d := h1 p hp
  rcases List.mem_cons.mp hq with rfl | hq
  · exact Nat.ne_of_lt (Nat.lt_trans h h2)
  · rw [List.mem_singleton.mp hq]; exact Nat.ne_of_lt h
/-- apart from the tokenizer -/
noncomputable def TokOff (T D FA FD : Nat) (RS : List (Addr × Obj)) : Prop := ∀ p ∈ RS, (@Ne Nat p.1 T) ∧ (@Ne Nat p.1 D) ∧ (@Ne Nat p.1 FA) ∧ (@Ne Nat p.1 FD)
theorem tokOff_of {w : World} {T D FA FD : Nat} {k0 k1 k2 k3 k4 k5 k6 k7 k8 k9 f0 f1 : Tok} {uc ut ml : Value} {q e a : Bool} {dl ln fn tx at_ : Value} {RS : List (Addr × Obj)}
    (h : ∀ p ∈ RS, ∀ q' ∈ tokLed w T D FA FD k0 k1 k2 k3 k4 k5 k6 k7 k8 k9 f0 f1 uc ut ml q e a dl ln fn tx at_, p.1 ≠ q'.1) : TokOff T D FA FD RS := fun p hp =>
  ⟨h p hp _ (List.Mem.head _), h p hp _ (List.Mem.tail _ (List.Mem.head _)), h p hp _ (List.Mem.tail _ (List.Mem.tail _ (List.Mem.head _))), h p hp _ (List.Mem.tail _ (List.Mem.tail _ (List.Mem.tail _ (List.Mem.head _))))⟩
theorem tokOff_led {w : World} {T D FA FD : Nat} {k0 k1 k2 k3 k4 k5 k6 k7 k8 k9 f0 f1 : Tok} {uc ut ml : Value} {q e a : Bool} {dl ln fn tx at_ : Value} {RS : List (Addr × Obj)}
    (h : TokOff T D FA FD RS) : ∀ p ∈ RS, ∀ q' ∈ tokLed w T D FA FD k0 k1 k2 k3 k4 k5 k6 k7 k8 k9 f0 f1 uc ut ml q e a dl ln fn tx at_, p.1 ≠ q'.1 := by
  intro p hp q' hq
  obtain ⟨h1, h2, h3, h4⟩ := h p hp
  rcases List.mem_cons.mp hq with rfl | hq
  · exact h1
  rcases List.mem_cons.mp hq with rfl | hq
  · exact h2
  rcases List.mem_cons.mp hq with rfl | hq
  · exact h3
  rw [List.mem_singleton.mp hq]; exact h4
theorem TokOff.cons {T D FA FD a : Nat} {o : Obj} {RS : List (Addr × Obj)} (h1 : a ≠ T) (h2 : a ≠ D) (h3 : a ≠ FA) (h4 : a ≠ FD) (h : TokOff T D FA FD RS) : TokOff T D FA FD (((a : Addr), o) :: RS) := fun p hp => by
  rcases List.mem_cons.mp hp with rfl | hp
  · exact ⟨h1, h2, h3, h4⟩
  · exact h p hp
theorem len_pcs {prog : Program} {w : World} {A : Around} {E : Value → Shared → Prop} {s : Shared} {h₀ : Heap} {L : Addr} {l : Nat} {PL news : List (Addr × Obj)} {nn : Nat} {PS : List Pc} {Q : Value → Shared → Prop} (N : News h₀ L s.heap news) (hm : ((l : Addr), listO (refsOfL PL) nn) ∈ news) (hA : PcAll PL PS) (hn : PS.length ≤ 2001)
    (h : ∀ t k, Q (.int (PS.length : Int) t) { s with toks := k }) : wpAny (model prog w) A (call (.builtin "len") [.ref l]) Q E s := by
  have hz : (refsOfL PL).toArray.size = PS.length := by simp [refsOfL, hA.len]
  refine call_len_list (News.isList N hm) (by rw [hz]; (first | lia | omega)) ?_
  rw [hz]
  exact h _ _
/-- the pieces lie in a heap that keeps them -/
theorem pcAt_of {l : Nat} {PL : List (Addr × Obj)} {nn : Nat} {PS : List Pc} {RS : List (Addr × Obj)} {g : Heap} (hA : PcAll PL PS) (h1 : ((l : Addr), listO (refsOfL PL) nn) ∈ RS) (h2 : ∀ p ∈ PL, p ∈ RS) (hg : ∀ p ∈ RS, g.get? p.1 = some p.2) : PcAt l PS g := by
  refine ⟨refsOfL PL, ⟨_, hg _ h1, rfl, nn, rfl⟩, by simp [refsOfL, hA.len], ?_⟩
  clear h1
  have hall : ∀ p ∈ PL, g.get? p.1 = some p.2 := fun p hp => hg p (h2 p hp)
  clear h2 hg
  induction hA with
  | nil => intro i p h; simp at h
  | @cons e p0 PL0 ps0 t1 t2 he hr ih =>
    intro i p h
    cases i with
    | zero =>
      simp only [List.getElem?_cons_zero, Option.some.injEq] at h
      subst h
      refine ⟨e.1, t1, t2, rfl, ⟨_, hall e List.mem_cons_self, ?_, 0, ?_⟩⟩
      · rw [he]
      · rw [he]
    | succ i =>
      simp only [List.getElem?_cons_succ] at h
      obtain ⟨a, t1, t2, h3, h4⟩ := ih (fun q hq => hall q (List.mem_cons_of_mem _ hq)) i p h
      exact ⟨a, t1, t2, h3, h4⟩
noncomputable abbrev tokLedR (w : World) (T D FA FD : Nat) (k0 k1 k2 k3 k4 k5 k6 k7 k8 k9 f0 f1 : Tok) (uc ut ml : Value) (q e a : Bool) (dl ln fn tx at_ : Value) (RS : List (Addr × Obj)) : List (Addr × Obj) :=
  ((T : Addr), instObj 451 D) ::
   ((D : Addr), dictOf [ent w "file" k0 (.ref FA), ent w "ungotten_char" k1 uc, ent w "ungotten_token" k2 ut, ent w "multiline" k3 ml, ent w "quoting" k4 (.bool q), ent w "eof" k5 (.bool e), ent w "after_cr" k6 (.bool a), ent w "delimiters" k7 dl, ent w "line_number" k8 ln, ent w "filename" k9 fn] 10) ::
   ((FA : Addr), instObj 84 FD) ::
   ((FD : Addr), dictOf [ent w "text" f0 tx, ent w "at" f1 at_] 2) :: RS
/-- between two turns of the law's loop -/
inductive LawJ (w : World) (PS : List Pc) (tot : Int) (tx : Str) (b : Int) (tb : Tok) (lead note : Bool) (l T D FA FD : Nat) (k0 k1 k2 k3 k4 k5 k6 k7 k8 k9 f0 f1 tfn : Tok) (RS : List (Addr × Obj)) (i : Nat) (m : Str → Option Value) (nx : List (Addr × Obj)) : Prop where
  | mk {k1' : Int} {uc : Option Str} {q e a : Bool} {ml ln : Int} {k d : Int} {tk td tuc tml tln ttx tat : Tok} (h0 : nx = tokLedR w T D FA FD k0 k1 k2 k3 k4 k5 k6 k7 k8 k9 f0 f1 (vUC uc tuc) .none (.int ml tml) q e a (.ref (cond q 60 59)) (.int ln tln) (.str (Str.ofString "a file") tfn) (.str tx ttx) (.int k1' tat) RS) (h1 : (∀ p ∈ [(Str.ofString "begin", Value.int b tb), (Str.ofString "lead", .bool lead), (Str.ofString "note", .bool note), (Str.ofString "pieces", .ref l), (Str.ofString "tokens", .ref T), (Str.ofString "at", .int k tk), (Str.ofString "deep", .int d td)], m p.1 = some p.2)) (h2 : Inv PS tot tx ⟨tx, k1', uc, q, e, a, ml, ln⟩ k d) (h3 : (i : Int) ≤ k) : LawJ w PS tot tx b tb lead note l T D FA FD k0 k1 k2 k3 k4 k5 k6 k7 k8 k9 f0 f1 tfn RS i m nx
theorem Inv.lt {PS : List Pc} {tot : Int} {tx : Str} {σ : TS} {k d : Int} (h : Inv PS tot tx σ k d) : k < PS.length := by
  have hne : PS.drop k.toNat ≠ [] := by
    rcases h.pl with ⟨r, _, _, hC, _⟩ | ⟨r, ps, _, _, _, _, hd, _⟩
    · intro e
      have := hC.ne 0
      rw [e] at this
      exact this rfl
    · rw [hd]; simp
  have : k.toNat < PS.length := by
    by_cases hk : k.toNat < PS.length
    · exact hk
    · exact absurd (List.drop_eq_nil_of_le (by (first | lia | omega))) hne
  have := h.k0
  (first | lia | omega)
theorem fold_cnt (l : List Int) : ∀ a : Nat, l.foldl (fun a _ => a + 1) a = a + l.length := by
  induction l with
  | nil => intro a; rfl
  | cons x l ih => intro a; rw [List.foldl_cons, ih, List.length_cons]; (first | lia | omega)
theorem lawJ_done {w : World} {PS : List Pc} {tot : Int} {tx : Str} {b : Int} {tb : Tok} {lead note : Bool} {l T D FA FD : Nat} {k0 k1 k2 k3 k4 k5 k6 k7 k8 k9 f0 f1 tfn : Tok} {RS : List (Addr × Obj)} {m : Str → Option Value} {nx : List (Addr × Obj)}
    (h : LawJ w PS tot tx b tb lead note l T D FA FD k0 k1 k2 k3 k4 k5 k6 k7 k8 k9 f0 f1 tfn RS ((rangeKs 0 (PS.length + 1)).foldl (fun a _ => a + 1) 0) m nx) : False := by
  obtain @⟨_, _, _, _, _, _, _, k, d, _, _, _, _, _, _, _, _, _, hI, hk⟩ := h
  rw [fold_cnt, rangeKs_length] at hk
  have := hI.lt
  (first | lia | omega)
theorem rng_small {n : Nat} (h : n ≤ 2001) : Builtin.Range.small 0 ((n : Int) + 1) 1 = true := small_one (by decide) (by decide) (by (first | lia | omega)) (by (first | lia | omega))
theorem rng_size {n : Nat} : Builtin.Range.rangeSize 0 ((n : Int) + 1) 1 = ((n + 1 : Nat) : Int) := by rw [rangeSize_nat]; (first | lia | omega)
theorem turn_open {w : World} {h₀ h : Heap} {L : Addr} {T D FA FD : Nat} {k0 k1 k2 k3 k4 k5 k6 k7 k8 k9 f0 f1 : Tok} {uc ut ml : Value} {q e a : Bool} {dl ln fn tx at_ : Value} {RS own : List (Addr × Obj)} {x1 x2 x3 x4 : Obj}
    (N : News h₀ L h (tokLedR w T D FA FD k0 k1 k2 k3 k4 k5 k6 k7 k8 k9 f0 f1 uc ut ml q e a dl ln fn tx at_ RS ++ own)) (hoff : TokOff T D FA FD RS) (ho : OwnOff own ((((T : Addr), x1) :: ((D : Addr), x2) :: ((FA : Addr), x3) :: ((FD : Addr), x4) :: RS).map (·.1))) :
    ∃ RS', News h₀ L h (tokLedR w T D FA FD k0 k1 k2 k3 k4 k5 k6 k7 k8 k9 f0 f1 uc ut ml q e a dl ln fn tx at_ RS') ∧ (∀ p ∈ RS, p ∈ RS') ∧ (∀ p ∈ own, p ∈ RS') ∧ TokOff T D FA FD RS' := by
  refine ⟨RS ++ own, N, fun p hp => List.mem_append_left _ hp, fun p hp => List.mem_append_right _ hp, fun p hp => ?_⟩
  rcases List.mem_append.mp hp with hp | hp
  · exact hoff p hp
  · exact ⟨ho p hp _ (List.Mem.head _), ho p hp _ (List.Mem.tail _ (List.Mem.head _)), ho p hp _ (List.Mem.tail _ (List.Mem.tail _ (List.Mem.head _))), ho p hp _ (List.Mem.tail _ (List.Mem.tail _ (List.Mem.tail _ (List.Mem.head _))))⟩
theorem kst_same {m : Str → Option Value} {ps : List (Str × Value)} (h : ∀ p ∈ ps, m p.1 = some p.2) : m = kstB m ps := by
  funext y
  exact (kstB_eq h fun _ => rfl).symm
theorem off_new {T D FA FD a1 a2 : Nat} {x1 x2 x3 x4 o1 o2 : Obj} {RS : List (Addr × Obj)} (h : ∀ p ∈ ((T : Addr), x1) :: ((D : Addr), x2) :: ((FA : Addr), x3) :: ((FD : Addr), x4) :: RS, ∀ q ∈ [((a1 : Addr), o1), ((a2 : Addr), o2)], p.1 ≠ q.1) (hR : TokOff T D FA FD RS) : TokOff T D FA FD (((a2 : Addr), o2) :: RS) := by
  have m : ((a2 : Addr), o2) ∈ [((a1 : Addr), o1), ((a2 : Addr), o2)] := List.Mem.tail _ (List.Mem.head _)
  exact hR.cons (Ne.symm (h _ (List.Mem.head _) _ m)) (Ne.symm (h _ (List.Mem.tail _ (List.Mem.head _)) _ m)) (Ne.symm (h _ (List.Mem.tail _ (List.Mem.tail _ (List.Mem.head _))) _ m)) (Ne.symm (h _ (List.Mem.tail _ (List.Mem.tail _ (List.Mem.tail _ (List.Mem.head _)))) _ m))
theorem sub_rest {a x t d f g : Addr × Obj} {RS : List (Addr × Obj)} : ∀ p ∈ x :: RS, p ∈ a :: x :: t :: d :: f :: g :: RS := fun p hp => by
  rcases List.mem_cons.mp hp with rfl | hp
  · exact List.Mem.tail _ (List.Mem.head _)
  · exact List.Mem.tail _ (List.Mem.tail _ (List.Mem.tail _ (List.Mem.tail _ (List.Mem.tail _ (List.Mem.tail _ hp)))))
noncomputable def LawC1 (g : Heap) (gs : Array GenState) (dr : Drawn) (os : OsState) (lst : Addr) (s' : Shared) : Prop := ∃ b tb, FrC g g.objs.size gs dr os [(Str.ofString "script", .ref lst), (Str.ofString "begin", .int b tb)] [] s' ∧ 0 ≤ b ∧ b < 12
noncomputable def LawC2 (g : Heap) (gs : Array GenState) (dr : Drawn) (os : OsState) (s' : Shared) : Prop := ∃ b tb lead note tx tt, FrC g g.objs.size gs dr os [(Str.ofString "begin", .int b tb), (Str.ofString "lead", .bool lead), (Str.ofString "note", .bool note), (Str.ofString "text", .str tx tt)] [] s' ∧ 0 ≤ b ∧ b < 12 ∧ tx.length ≤ 1000 ∧ ∀ c ∈ tl tx, c < 2048
inductive LawC4 (w : World) (g : Heap) (gs : Array GenState) (dr : Drawn) (os : OsState) (PS : List Pc) (tx : Str) (s' : Shared) : Prop where
  | mk (b : Int) (tb : Tok) (lead note : Bool) (l : Nat) (PL : List (Addr × Obj)) (nn : Nat) (T D FA FD : Nat) (k0 k1 k2 k3 k4 k5 k6 k7 k8 k9 f0 f1 tml tln tfn ttx tat : Tok) (h0 : FrC g g.objs.size gs dr os [(Str.ofString "begin", .int b tb), (Str.ofString "lead", .bool lead), (Str.ofString "note", .bool note), (Str.ofString "pieces", .ref l), (Str.ofString "tokens", .ref T)]
    (tokLed w T D FA FD k0 k1 k2 k3 k4 k5 k6 k7 k8 k9 f0 f1 .none .none (.int 0 tml) false false false (.ref 59) (.int 1 tln) (.str (Str.ofString "a file") tfn) (.str tx ttx) (.int 0 tat) ++ ((l, listO (refsOfL PL) nn) :: PL)) s') (h1 : 0 ≤ b) (h2 : PcAll PL PS) (h3 : D < T) (h4 : T < FD) (h5 : FD < FA) (h6 : TokOff T D FA FD (((l : Addr), listO (refsOfL PL) nn) :: PL)) : LawC4 w g gs dr os PS tx s'
theorem c5_le {i k k' : Int} (h : i ≤ k) (h2 : k < k') : i + 1 ≤ k' := by (first | lia | omega)
theorem put_sub {x t d f g r1 r2 X DX : Addr × Obj} {RS : List (Addr × Obj)} : ∀ p ∈ x :: RS, p ∈ r1 :: r2 :: X :: DX :: t :: d :: f :: g :: x :: RS := fun _ hp =>
  List.Mem.tail _ (List.Mem.tail _ (List.Mem.tail _ (List.Mem.tail _ (List.Mem.tail _ (List.Mem.tail _ (List.Mem.tail _ (List.Mem.tail _ hp)))))))
theorem in25 {prog : Program} {w : World} {A : Around} {E : Value → Shared → Prop} {s : Shared} {h₀ : Heap} {L : Addr} {news : List (Addr × Obj)} {Q : Value → Shared → Prop} {t : Addr} {ty : Int} {u u1 u2 : Tok} (b : Bool) (N : News h₀ L s.heap news) (hm : (t, tupO [.int 2 u1, .int 5 u2]) ∈ news) (hb : (ty = 2 ∨ ty = 5) = (b = true))
    (h : Q (.bool b) s) : wpAny (model prog w) A (compareOp .In (.int ty u) (.ref t)) Q E s := by
  refine in_tuple_ints (News.isTup N hm) (ns := [2, 5]) (.cons 2 u1 (.cons 5 u2 .nil)) ?_
  have e : [(2 : Int), 5].any (· == ty) = b := by
    rw [Bool.eq_iff_iff, ← hb]
    simp
    (first | lia | omega)
  rw [e]; exact h
theorem pcAt_sub {l : Nat} {PL : List (Addr × Obj)} {nn : Nat} {PS : List Pc} {RS news : List (Addr × Obj)} {g : Heap} (hA : PcAll PL PS) (h1 : ∀ p ∈ ((l : Addr), listO (refsOfL PL) nn) :: PL, p ∈ RS) (hs : ∀ p ∈ RS, p ∈ news) (hg : ∀ p ∈ news, g.get? p.1 = some p.2) : PcAt l PS g :=
  pcAt_of hA (h1 _ (List.Mem.head _)) (fun p hp => h1 p (List.Mem.tail _ hp)) fun p hp => hg p (hs p hp)
theorem sub7 {a b c d e f g : Addr × Obj} {RS : List (Addr × Obj)} : ∀ p ∈ RS, p ∈ a :: b :: c :: d :: e :: f :: g :: RS := fun _ hp =>
  List.Mem.tail _ (List.Mem.tail _ (List.Mem.tail _ (List.Mem.tail _ (List.Mem.tail _ (List.Mem.tail _ (List.Mem.tail _ hp))))))
theorem sub6c {a b c d e f : Addr × Obj} {RS : List (Addr × Obj)} : ∀ p ∈ RS, p ∈ a :: b :: c :: d :: e :: f :: RS := fun _ hp =>
  List.Mem.tail _ (List.Mem.tail _ (List.Mem.tail _ (List.Mem.tail _ (List.Mem.tail _ (List.Mem.tail _ hp)))))
theorem end_sub {a t d f g : Addr × Obj} {RS RS' : List (Addr × Obj)} (h : ∀ p ∈ RS', p ∈ RS) : ∀ p ∈ t :: d :: f :: g :: RS', p ∈ a :: t :: d :: f :: g :: RS := fun p hp => by
  rcases List.mem_cons.mp hp with rfl | hp
  · exact List.Mem.tail _ (List.Mem.head _)
  rcases List.mem_cons.mp hp with rfl | hp
  · exact List.Mem.tail _ (List.Mem.tail _ (List.Mem.head _))
  rcases List.mem_cons.mp hp with rfl | hp
  · exact List.Mem.tail _ (List.Mem.tail _ (List.Mem.tail _ (List.Mem.head _)))
  rcases List.mem_cons.mp hp with rfl | hp
  · exact List.Mem.tail _ (List.Mem.tail _ (List.Mem.tail _ (List.Mem.tail _ (List.Mem.head _))))
  · exact List.Mem.tail _ (List.Mem.tail _ (List.Mem.tail _ (List.Mem.tail _ (List.Mem.tail _ (h p hp)))))
theorem sub4 {a b c d : Addr × Obj} {RS : List (Addr × Obj)} : ∀ p ∈ RS, p ∈ a :: b :: c :: d :: RS := fun _ hp =>
  List.Mem.tail _ (List.Mem.tail _ (List.Mem.tail _ (List.Mem.tail _ hp)))
theorem tl_len {x : Str} (h : x.length ≤ 1000) : (tl x).length ≤ 1000 := by
  have : (tl x).length = x.length := by simp [Str.length]
  (first | lia | omega)
theorem sm_file : Sm (Str.ofString "a file") := by
  intro c hc
  have : (tl (Str.ofString "a file")).all (fun c => decide (c < 2048)) = true := by decide +kernel
  exact of_decide_eq_true (List.all_eq_true.mp this c hc)
theorem ln_eq {ln : Int} {PS : List Pc} (h : ln = 1 + nlc PS) : ln = 1 + ((lineVals PS).length : Int) + nlS (Txt.join (Str.ofString "") (strVals PS)) := by
  rw [h, nlc_eq]; (first | lia | omega)
theorem sub5 {a b c d e : Addr × Obj} {RS : List (Addr × Obj)} : ∀ p ∈ RS, p ∈ a :: b :: c :: d :: e :: RS := fun _ hp =>
  List.Mem.tail _ (List.Mem.tail _ (List.Mem.tail _ (List.Mem.tail _ (List.Mem.tail _ hp))))
theorem sub8 {a b c d e f g x : Addr × Obj} {RS : List (Addr × Obj)} : ∀ p ∈ RS, p ∈ a :: b :: c :: d :: e :: f :: g :: x :: RS := fun _ hp =>
  List.Mem.tail _ (List.Mem.tail _ (List.Mem.tail _ (List.Mem.tail _ (List.Mem.tail _ (List.Mem.tail _ (List.Mem.tail _ (List.Mem.tail _ hp)))))))
theorem sub9 {a b c d e f g x y : Addr × Obj} {RS : List (Addr × Obj)} : ∀ p ∈ RS, p ∈ a :: b :: c :: d :: e :: f :: g :: x :: y :: RS := fun _ hp =>
  List.Mem.tail _ (List.Mem.tail _ (List.Mem.tail _ (List.Mem.tail _ (List.Mem.tail _ (List.Mem.tail _ (List.Mem.tail _ (List.Mem.tail _ (List.Mem.tail _ hp))))))))
theorem sub2 {b1 b2 c X DX t d f g x : Addr × Obj} {RS : List (Addr × Obj)} : ∀ p ∈ b2 :: RS, p ∈ b1 :: b2 :: c :: X :: DX :: t :: d :: f :: g :: x :: RS := fun p hp => by
  rcases List.mem_cons.mp hp with rfl | hp
  · exact List.Mem.tail _ (List.Mem.head _)
  · exact List.Mem.tail _ (List.Mem.tail _ (List.Mem.tail _ (List.Mem.tail _ (List.Mem.tail _ (List.Mem.tail _ (List.Mem.tail _ (List.Mem.tail _ (List.Mem.tail _ (List.Mem.tail _ hp)))))))))
theorem off6 {b1 b2 X DX t d f g x : Addr × Obj} {RS : List (Addr × Obj)} (h : ∀ p ∈ X :: DX :: t :: d :: f :: g :: x :: RS, ∀ q ∈ [b1, b2], p.1 ≠ q.1) (h8 : ∀ p ∈ x :: RS, ∀ q ∈ [X, DX, t, d, f, g], p.1 ≠ q.1) :
    ∀ p ∈ b2 :: RS, ∀ q ∈ [X, DX, t, d, f, g], p.1 ≠ q.1 := by
  intro p hp q hq
  rcases List.mem_cons.mp hp with rfl | hp
  · exact Ne.symm (h q (by
      simp only [List.mem_cons, List.not_mem_nil, or_false] at hq ⊢
      rcases hq with h | h | h | h | h | h <;> simp [h]) p (List.Mem.tail _ (List.Mem.head _)))
  · exact h8 p (List.Mem.tail _ hp) q hq
theorem drops_of {FA X DX : Nat} {t0 t1 t2 t3 tty tv tcm : Tok} {ty : Int} {v : Str} {e : Bool} {cm : Option Str} (h1 : FA < DX) (h2 : DX < X) (h : ty = 2 ∨ ty = 5) : Drops FA (!(ty == 2)) (ty == 2) (some ⟨X, DX, t0, t1, t2, t3, tty, tv, tcm, ty, v, e, cm⟩) := by
  refine ⟨h1, h2, ?_⟩
  rcases h with rfl | rfl
  · exact .inl ⟨rfl, rfl⟩
  · exact .inr ⟨rfl, rfl⟩
theorem c5_le2 {i k k' k2 : Int} (h : i ≤ k) (h2 : k < k') (h3 : k' ≤ k2) : i + 1 ≤ k2 := by (first | lia | omega)
theorem ne_zero25 {ty : Int} (h : ty = 2 ∨ ty = 5) : ty ≠ 0 := by (first | lia | omega)
/-- a turn of the law's loop, ahead of the last test -/
inductive LawC5 (w : World) (g : Heap) (gs : Array GenState) (dr : Drawn) (os : OsState) (PS : List Pc) (tot : Int) (tx : Str) (b : Int) (tb : Tok) (lead note : Bool) (l T D FA FD : Nat) (k0 k1 k2 k3 k4 k5 k6 k7 k8 k9 f0 f1 tfn : Tok) (RS : List (Addr × Obj)) (i : Nat) (s' : Shared) : Prop where
  | mk (ty : Int) (v : Str) (e' : Bool) (cm : Option Str) (a2 : Nat) (u3 u4 u5 : Tok) (k1' : Int) (uc : Option Str) (q e a : Bool) (ml ln : Int) (k d : Int) (tk td tuc tml tln ttx tat : Tok) (h0 : FrC g g.objs.size gs dr os [(Str.ofString "begin", Value.int b tb), (Str.ofString "lead", .bool lead), (Str.ofString "note", .bool note), (Str.ofString "pieces", .ref l), (Str.ofString "tokens", .ref T), (Str.ofString "at", .int k tk), (Str.ofString "deep", .int d td), (Str.ofString "due", .ref a2)]
      (((a2 : Addr), tupO [.int ty u3, .str v u4, .bool e', vUC cm u5]) :: tokLedR w T D FA FD k0 k1 k2 k3 k4 k5 k6 k7 k8 k9 f0 f1 (vUC uc tuc) .none (.int ml tml) q e a (.ref (cond q 60 59)) (.int ln tln) (.str (Str.ofString "a file") tfn) (.str tx ttx) (.int k1' tat) RS) s') (h1 : Inv PS tot tx ⟨tx, k1', uc, q, e, a, ml, ln⟩ k d) (h2 : (ty ≠ 0 → (i : Int) + 1 ≤ k)) (h3 : (ty = 0 → PS.drop k.toNat = [.fin] ∧ uc = none ∧ d = 0)) : LawC5 w g gs dr os PS tot tx b tb lead note l T D FA FD k0 k1 k2 k3 k4 k5 k6 k7 k8 k9 f0 f1 tfn RS i s'
theorem c5_sub {x t d f g : Addr × Obj} {RS : List (Addr × Obj)} {r1 r2 X DX : Addr × Obj} : ∀ p ∈ x :: t :: d :: f :: g :: RS, p ∈ r1 :: r2 :: X :: DX :: t :: d :: f :: g :: x :: RS := fun p hp => by
  rcases List.mem_cons.mp hp with rfl | hp
  · exact List.Mem.tail _ (List.Mem.tail _ (List.Mem.tail _ (List.Mem.tail _ (List.Mem.tail _ (List.Mem.tail _ (List.Mem.tail _ (List.Mem.tail _ (List.Mem.head _))))))))
  rcases List.mem_cons.mp hp with rfl | hp
  · exact List.Mem.tail _ (List.Mem.tail _ (List.Mem.tail _ (List.Mem.tail _ (List.Mem.head _))))
  rcases List.mem_cons.mp hp with rfl | hp
  · exact List.Mem.tail _ (List.Mem.tail _ (List.Mem.tail _ (List.Mem.tail _ (List.Mem.tail _ (List.Mem.head _)))))
  rcases List.mem_cons.mp hp with rfl | hp
  · exact List.Mem.tail _ (List.Mem.tail _ (List.Mem.tail _ (List.Mem.tail _ (List.Mem.tail _ (List.Mem.tail _ (List.Mem.head _))))))
  rcases List.mem_cons.mp hp with rfl | hp
  · exact List.Mem.tail _ (List.Mem.tail _ (List.Mem.tail _ (List.Mem.tail _ (List.Mem.tail _ (List.Mem.tail _ (List.Mem.tail _ (List.Mem.head _)))))))
  · exact List.Mem.tail _ (List.Mem.tail _ (List.Mem.tail _ (List.Mem.tail _ (List.Mem.tail _ (List.Mem.tail _ (List.Mem.tail _ (List.Mem.tail _ (List.Mem.tail _ hp))))))))
noncomputable def LawCx (g : Heap) (gs : Array GenState) (dr : Drawn) (os : OsState) (ps : Tok → List (Str × Value)) (led : List (Addr × Obj)) (s' : Shared) : Prop := ∃ t, FrC g g.objs.size gs dr os (ps t) led s'

section
variable {g : Heap} {gs : Array GenState} {dr : Drawn} {os : OsState} {P : Shared → Prop}
theorem c1_use {lst : Addr} (kk : ∀ (b : Int) (tb : Tok) h tk u, Fr g g.objs.size h (kstB u [(Str.ofString "script", .ref lst), (Str.ofString "begin", .int b tb)]) → News g g.objs.size h [] → 0 ≤ b → b < 12 → P ⟨h, gs, dr, tk, os⟩) : ∀ s', LawC1 g gs dr os lst s' → P s' := by
  rintro s' ⟨b, tb, ⟨h, tk, u, rfl, F, N⟩, h0, h1⟩
  exact kk b tb h tk u F N h0 h1
theorem c2_use (kk : ∀ (b : Int) (tb : Tok) (lead note : Bool) (tx : Str) (tt : Tok) h tk u, Fr g g.objs.size h (kstB u [(Str.ofString "begin", .int b tb), (Str.ofString "lead", .bool lead), (Str.ofString "note", .bool note), (Str.ofString "text", .str tx tt)]) → News g g.objs.size h [] → 0 ≤ b → b < 12 → tx.length ≤ 1000 → (∀ c ∈ tl tx, c < 2048) → P ⟨h, gs, dr, tk, os⟩) : ∀ s', LawC2 g gs dr os s' → P s' := by
  rintro s' ⟨b, tb, lead, note, tx, tt, ⟨h, tk, u, rfl, F, N⟩, h0, h1, h2, h3⟩
  exact kk b tb lead note tx tt h tk u F N h0 h1 h2 h3
theorem c4_use {w : World} {PS : List Pc} {tx : Str} (kk : ∀ (b : Int) (tb : Tok) (lead note : Bool) (l : Nat) (PL : List (Addr × Obj)) (nn : Nat) (T D FA FD : Nat) (k0 k1 k2 k3 k4 k5 k6 k7 k8 k9 f0 f1 tml tln tfn ttx tat : Tok) h tk u,
    let mT := kstB u [(Str.ofString "begin", .int b tb), (Str.ofString "lead", .bool lead), (Str.ofString "note", .bool note), (Str.ofString "pieces", .ref l), (Str.ofString "tokens", .ref T)]; Fr g g.objs.size h mT →
    News g g.objs.size h (tokLed w T D FA FD k0 k1 k2 k3 k4 k5 k6 k7 k8 k9 f0 f1 .none .none (.int 0 tml) false false false (.ref 59) (.int 1 tln) (.str (Str.ofString "a file") tfn) (.str tx ttx) (.int 0 tat) ++ ((l, listO (refsOfL PL) nn) :: PL)) →
    0 ≤ b → PcAll PL PS → D < T → T < FD → FD < FA → TokOff T D FA FD (((l : Addr), listO (refsOfL PL) nn) :: PL) → P ⟨h, gs, dr, tk, os⟩) : ∀ s', LawC4 w g gs dr os PS tx s' → P s' := by
  rintro s' ⟨b, tb, lead, note, l, PL, nn, T, D, FA, FD, k0, k1, k2, k3, k4, k5, k6, k7, k8, k9, f0, f1, tml, tln, tfn, ttx, tat, ⟨h, tk, u, rfl, F, N⟩, x1, x2, x3, x4, x5, x6⟩
  exact kk _ _ _ _ _ _ _ _ _ _ _ _ _ _ _ _ _ _ _ _ _ _ _ _ _ _ _ _ _ _ _ F N x1 x2 x3 x4 x5 x6
theorem c5_use {w : World} {PS : List Pc} {tot : Int} {tx : Str} {b : Int} {tb : Tok} {lead note : Bool} {l T D FA FD : Nat} {k0 k1 k2 k3 k4 k5 k6 k7 k8 k9 f0 f1 tfn : Tok} {RS : List (Addr × Obj)} {i : Nat}
   (kk : ∀ (ty : Int) (v : Str) (e' : Bool) (cm : Option Str) (a2 : Nat) (u3 u4 u5 : Tok) (k1' : Int) (uc : Option Str) (q e a : Bool) (ml ln : Int) (k d : Int) (tk td tuc tml tln ttx tat : Tok) (yD yF : Obj) h tk5 u,
    yD = dictOf [ent w "file" k0 (.ref FA), ent w "ungotten_char" k1 (vUC uc tuc), ent w "ungotten_token" k2 .none, ent w "multiline" k3 (.int ml tml), ent w "quoting" k4 (.bool q), ent w "eof" k5 (.bool e), ent w "after_cr" k6 (.bool a), ent w "delimiters" k7 (.ref (cond q 60 59)), ent w "line_number" k8 (.int ln tln), ent w "filename" k9 (.str (Str.ofString "a file") tfn)] 10 → yF = dictOf [ent w "text" f0 (.str tx ttx), ent w "at" f1 (.int k1' tat)] 2 →
    let mT := kstB u [(Str.ofString "begin", Value.int b tb), (Str.ofString "lead", .bool lead), (Str.ofString "note", .bool note), (Str.ofString "pieces", .ref l), (Str.ofString "tokens", .ref T), (Str.ofString "at", .int k tk), (Str.ofString "deep", .int d td), (Str.ofString "due", .ref a2)]; Fr g g.objs.size h mT →
    News g g.objs.size h (((a2 : Addr), tupO [.int ty u3, .str v u4, .bool e', vUC cm u5]) :: ((T : Addr), instObj 451 D) :: ((D : Addr), yD) :: ((FA : Addr), instObj 84 FD) :: ((FD : Addr), yF) :: RS) →
    Inv PS tot tx ⟨tx, k1', uc, q, e, a, ml, ln⟩ k d → (ty ≠ 0 → (i : Int) + 1 ≤ k) → (ty = 0 → PS.drop k.toNat = [.fin] ∧ uc = none ∧ d = 0) → P ⟨h, gs, dr, tk5, os⟩) :
    ∀ s', LawC5 w g gs dr os PS tot tx b tb lead note l T D FA FD k0 k1 k2 k3 k4 k5 k6 k7 k8 k9 f0 f1 tfn RS i s' → P s' := by
  rintro s' ⟨ty, v, e', cm, a2, u3, u4, u5, k1', uc, q, e, a, ml, ln, k, d, tk, td, tuc, tml, tln, ttx, tat, ⟨h, tk5, u, rfl, F, N⟩, x1, x2, x3⟩
  exact kk ty v e' cm a2 u3 u4 u5 k1' uc q e a ml ln k d tk td tuc tml tln ttx tat _ _ h tk5 u rfl rfl F N x1 x2 x3
theorem cx_use {ps : Tok → List (Str × Value)} {led : List (Addr × Obj)} (kk : ∀ t h tk u, Fr g g.objs.size h (kstB u (ps t)) → News g g.objs.size h led → P ⟨h, gs, dr, tk, os⟩) : ∀ s', LawCx g gs dr os ps led s' → P s' := by
  rintro s' ⟨t, h, tk, u, rfl, F, N⟩
  exact kk t h tk u F N
end
theorem turn_use {w : World} {PS : List Pc} {tot : Int} {tx : Str} {b : Int} {tb : Tok} {lead note : Bool} {l T D FA FD : Nat} {k0 k1 k2 k3 k4 k5 k6 k7 k8 k9 f0 f1 tfn : Tok} {RS own nx : List (Addr × Obj)} {i : Nat} {m : Str → Option Value} {h₀ h : Heap} {L : Addr} {G : Prop}
    {x1 x2 x3 x4 : Obj} (J : LawJ w PS tot tx b tb lead note l T D FA FD k0 k1 k2 k3 k4 k5 k6 k7 k8 k9 f0 f1 tfn RS i m nx) (N : News h₀ L h (nx ++ own)) (hoff : TokOff T D FA FD RS) (ho : OwnOff own ((((T : Addr), x1) :: ((D : Addr), x2) :: ((FA : Addr), x3) :: ((FD : Addr), x4) :: RS).map (·.1)))
    (kk : ∀ (k1' : Int) (uc : Option Str) (q e a : Bool) (ml ln : Int) (k d : Int) (tk td tuc tml tln ttx tat : Tok) (yD yF : Obj) (RS' : List (Addr × Obj)),
      yD = dictOf [ent w "file" k0 (.ref FA), ent w "ungotten_char" k1 (vUC uc tuc), ent w "ungotten_token" k2 .none, ent w "multiline" k3 (.int ml tml), ent w "quoting" k4 (.bool q), ent w "eof" k5 (.bool e), ent w "after_cr" k6 (.bool a), ent w "delimiters" k7 (.ref (cond q 60 59)), ent w "line_number" k8 (.int ln tln), ent w "filename" k9 (.str (Str.ofString "a file") tfn)] 10 → yF = dictOf [ent w "text" f0 (.str tx ttx), ent w "at" f1 (.int k1' tat)] 2 →
      Inv PS tot tx ⟨tx, k1', uc, q, e, a, ml, ln⟩ k d → (i : Int) ≤ k →
      let mT := kstB m [(Str.ofString "begin", Value.int b tb), (Str.ofString "lead", .bool lead), (Str.ofString "note", .bool note), (Str.ofString "pieces", .ref l), (Str.ofString "tokens", .ref T), (Str.ofString "at", .int k tk), (Str.ofString "deep", .int d td)]; m = mT →
      News h₀ L h (((T : Addr), instObj 451 D) :: ((D : Addr), yD) :: ((FA : Addr), instObj 84 FD) :: ((FD : Addr), yF) :: RS') → (∀ p ∈ RS, p ∈ RS') → (∀ p ∈ own, p ∈ RS') → TokOff T D FA FD RS' → G) : G := by
  obtain @⟨k1', uc, q, e, a, ml, ln, k, d, tk, td, tuc, tml, tln, ttx, tat, rfl, hm, hI, hi⟩ := J
  obtain ⟨RS', N', h1, h2, h3⟩ := turn_open N hoff ho
  exact kk k1' uc q e a ml ln k d tk td tuc tml tln ttx tat _ _ RS' rfl rfl hI hi (kst_same hm) N' h1 h2 h3
section
variable {h₀ h : Heap} {L : Addr} {rest : List (Addr × Obj)} {v : Value} {led : List (Addr × Obj)} {z : Nat} {G : Prop}
theorem next_tok_use {ty : Int} {x : Str} {e : Bool} {cm : Option Str} {k d : Int} (R : NextR (.tok ty x e cm) k d z v led) (N : News h₀ L h (led ++ rest)) (hd : ∀ p ∈ rest, ∀ q ∈ led, p.1 ≠ q.1)
    (kk : ∀ (a1 a2 : Nat) (u1 u2 u3 u4 u5 : Tok), a2 < a1 → News h₀ L h (((a1 : Addr), tupO [.ref a2, .int k u1, .int d u2]) :: ((a2 : Addr), tupO [.int ty u3, .str x u4, .bool e, vUC cm u5]) :: rest) →
      (∀ p ∈ rest, ∀ q ∈ [((a1 : Addr), tupO [.ref a2, .int k u1, .int d u2]), ((a2 : Addr), tupO [.int ty u3, .str x u4, .bool e, vUC cm u5])], p.1 ≠ q.1) → v = (.ref a1) → G) : G := by
  obtain ⟨due, dl, a1, u1, u2, ⟨a2, u3, u4, u5, rfl, rfl, hlt⟩, rfl, rfl⟩ := R
  exact kk a1 a2 u1 u2 u3 u4 u5 hlt N hd rfl
theorem next_syn_use {k d : Int} (R : NextR .syn k d z v led) (N : News h₀ L h (led ++ rest)) (kk : ∀ (a1 : Nat) (u1 u2 u3 : Tok), News h₀ L h (((a1 : Addr), tupO [.str (Str.ofString "syntax") u3, .int k u1, .int d u2]) :: rest) → v = (.ref a1) → G) : G := by
  obtain ⟨due, dl, a1, u1, u2, ⟨u3, rfl, rfl⟩, rfl, rfl⟩ := R
  exact kk a1 u1 u2 u3 N rfl
theorem next_fin_use {k d : Int} (R : NextR .fin k d z v led) (N : News h₀ L h (led ++ rest)) (kk : ∀ (a1 : Nat) (u1 u2 u3 : Tok), News h₀ L h (((a1 : Addr), tupO [.str (Str.ofString "end") u3, .int k u1, .int d u2]) :: rest) → v = (.ref a1) → G) : G := by
  obtain ⟨due, dl, a1, u1, u2, ⟨u3, rfl, rfl⟩, rfl, rfl⟩ := R
  exact kk a1 u1 u2 u3 N rfl
variable {w : World} {T D FA FD : Nat} {k0 k1 k2 k3 k4 k5 k6 k7 k8 k9 f0 f1 : Tok} {fn : Value}
theorem told_syn_use {σ : TS} (R : ToldR w T D FA FD k0 k1 k2 k3 k4 k5 k6 k7 k8 k9 f0 f1 fn .syn σ z v led) (N : News h₀ L h (led ++ rest)) (kk : ∀ (r : Nat) (t : Tok), News h₀ L h (((r : Addr), tupO [.str (Str.ofString "syntax") t, .none]) :: rest) → v = (.ref r) → G) : G := by
  obtain ⟨r, t, rfl, rfl⟩ := R
  exact kk r t N rfl
theorem told_fin_use {σ : TS} (R : ToldR w T D FA FD k0 k1 k2 k3 k4 k5 k6 k7 k8 k9 f0 f1 fn .fin σ z v led) (N : News h₀ L h (led ++ rest)) (kk : ∀ (r : Nat) (t : Tok), News h₀ L h (((r : Addr), tupO [.str (Str.ofString "end") t, .none]) :: rest) → v = (.ref r) → G) : G := by
  obtain ⟨r, t, rfl, rfl⟩ := R
  exact kk r t N rfl
theorem told_tok_use {tx uc q e a ml ln k} {ty : Int} {x : Str} {esc : Bool} {cm : Option Str} (R : ToldR w T D FA FD k0 k1 k2 k3 k4 k5 k6 k7 k8 k9 f0 f1 fn (.tok ty x esc cm) ⟨tx, k, uc, q, e, a, ml, ln⟩ z v led) (N : News h₀ L h (led ++ rest)) (hd : ∀ p ∈ rest, ∀ q ∈ led, p.1 ≠ q.1)
    (kk : ∀ (r r2 X DX : Nat) (tuc tml tln ttx tat t0 t1 t2 t3 tty tv tcm : Tok) (yX yD yF : Obj), yX = tokenO w t0 t1 t2 t3 ty tty x tv esc (vUC cm tcm) →
      yD = dictOf [ent w "file" k0 (.ref FA), ent w "ungotten_char" k1 (vUC uc tuc), ent w "ungotten_token" k2 .none, ent w "multiline" k3 (.int ml tml), ent w "quoting" k4 (.bool q), ent w "eof" k5 (.bool e), ent w "after_cr" k6 (.bool a), ent w "delimiters" k7 (.ref (cond q 60 59)), ent w "line_number" k8 (.int ln tln), ent w "filename" k9 fn] 10 → yF = dictOf [ent w "text" f0 (.str tx ttx), ent w "at" f1 (.int k tat)] 2 →
      ((T : Nat) < DX ∧ (D : Nat) < DX ∧ (FA : Nat) < DX ∧ (FD : Nat) < DX) → DX < X → X < r2 → r2 < r →
      News h₀ L h (((r : Addr), tupO [.ref r2, .ref X]) :: ((r2 : Addr), tupO [.int ty tty, .str x tv, .bool esc, vUC cm tcm]) :: ((X : Addr), instObj 209 DX) :: ((DX : Addr), yX) :: ((T : Addr), instObj 451 D) :: ((D : Addr), yD) :: ((FA : Addr), instObj 84 FD) :: ((FD : Addr), yF) :: rest) →
      (∀ p ∈ rest, ∀ q ∈ [((X : Addr), instObj 209 DX), ((DX : Addr), yX), ((T : Addr), instObj 451 D), ((D : Addr), yD), ((FA : Addr), instObj 84 FD), ((FD : Addr), yF)], p.1 ≠ q.1) → v = (.ref r) → G) : G := by
  obtain ⟨r, r2, X, DX, tuc, tml, tln, ttx, tat, t0, t1, t2, t3, tty, tv, tcm, rfl, rfl, h1, h2, h3, h4⟩ := R
  exact kk r r2 X DX tuc tml tln ttx tat t0 t1 t2 t3 tty tv tcm _ _ _ rfl rfl rfl h1 h2 h3 h4 N (fun p hp q hq => hd p hp q (List.Mem.tail _ (List.Mem.tail _ hq))) rfl
theorem where_use {fnS : Str} {tfn tuc tml tln ttx tat : Tok} {uc : Option Str} {q e a : Bool} {ml n : Int} {tx : Str} {k : Int}
    (R : ∃ r : Nat, v = .ref r ∧ led = (r, tupO [.str fnS tfn, .int n tln]) :: tokLed w T D FA FD k0 k1 k2 k3 k4 k5 k6 k7 k8 k9 f0 f1 (vUC uc tuc) .none (.int ml tml) q e a (.ref (cond q 60 59)) (.int n tln) (.str fnS tfn) (.str tx ttx) (.int k tat) ∧ FA < r) (N : News h₀ L h (led ++ rest))
    (kk : ∀ (r : Nat) (yD yF : Obj), yD = dictOf [ent w "file" k0 (.ref FA), ent w "ungotten_char" k1 (vUC uc tuc), ent w "ungotten_token" k2 .none, ent w "multiline" k3 (.int ml tml), ent w "quoting" k4 (.bool q), ent w "eof" k5 (.bool e), ent w "after_cr" k6 (.bool a), ent w "delimiters" k7 (.ref (cond q 60 59)), ent w "line_number" k8 (.int n tln), ent w "filename" k9 (.str fnS tfn)] 10 → yF = dictOf [ent w "text" f0 (.str tx ttx), ent w "at" f1 (.int k tat)] 2 →
      News h₀ L h (((r : Addr), tupO [.str fnS tfn, .int n tln]) :: ((T : Addr), instObj 451 D) :: ((D : Addr), yD) :: ((FA : Addr), instObj 84 FD) :: ((FD : Addr), yF) :: rest) → v = (.ref r) → G) : G := by
  obtain ⟨r, rfl, rfl, _⟩ := R
  exact kk r _ _ rfl rfl N rfl
theorem put_use {X DX : Nat} {t0 t1 t2 t3 tty tv tcm tuc tml tln ttx tat : Tok} {uc cm : Option Str} {q e a esc : Bool} {ml n ty : Int} {tx vv : Str} {k : Int}
    (R : v = .bool true ∧ led = ((X, instObj 209 DX) :: (DX, tokenO w t0 t1 t2 t3 ty tty vv tv esc (vUC cm tcm)) :: tokLed w T D FA FD k0 k1 k2 k3 k4 k5 k6 k7 k8 k9 f0 f1 (vUC uc tuc) (.ref X) (.int ml tml) q e a (.ref (cond q 60 59)) (.int n tln) fn (.str tx ttx) (.int k tat))) (N : News h₀ L h (led ++ rest)) (hd : ∀ p ∈ rest, ∀ q ∈ led, p.1 ≠ q.1)
    (kk : ∀ (yX yD yF : Obj), yX = tokenO w t0 t1 t2 t3 ty tty vv tv esc (vUC cm tcm) → yD = dictOf [ent w "file" k0 (.ref FA), ent w "ungotten_char" k1 (vUC uc tuc), ent w "ungotten_token" k2 (.ref X), ent w "multiline" k3 (.int ml tml), ent w "quoting" k4 (.bool q), ent w "eof" k5 (.bool e), ent w "after_cr" k6 (.bool a), ent w "delimiters" k7 (.ref (cond q 60 59)), ent w "line_number" k8 (.int n tln), ent w "filename" k9 fn] 10 → yF = dictOf [ent w "text" f0 (.str tx ttx), ent w "at" f1 (.int k tat)] 2 →
      News h₀ L h (((X : Addr), instObj 209 DX) :: ((DX : Addr), yX) :: ((T : Addr), instObj 451 D) :: ((D : Addr), yD) :: ((FA : Addr), instObj 84 FD) :: ((FD : Addr), yF) :: rest) →
      (∀ p ∈ rest, ∀ q ∈ [((X : Addr), instObj 209 DX), ((DX : Addr), yX), ((T : Addr), instObj 451 D), ((D : Addr), yD), ((FA : Addr), instObj 84 FD), ((FD : Addr), yF)], p.1 ≠ q.1) → v = (.bool true) → G) : G := by
  obtain ⟨rfl, rfl⟩ := R
  exact kk _ _ _ rfl rfl rfl N hd rfl
theorem keep_use {X DX : Nat} {t0 t1 t2 t3 tty tv tcm tuc tml tln ttx tat : Tok} {uc cm : Option Str} {q e a esc : Bool} {ml n ty : Int} {tx vv : Str} {k : Int}
    (R : ∃ (r r2 : Nat) (tty' tv' tcm' : Tok), v = .ref r ∧ led = (r, tupO [.ref r2, .ref X]) :: (r2, tupO [.int ty tty', .str vv tv', .bool esc, vUC cm tcm']) :: ((X, instObj 209 DX) :: (DX, tokenO w t0 t1 t2 t3 ty tty vv tv esc (vUC cm tcm)) :: tokLed w T D FA FD k0 k1 k2 k3 k4 k5 k6 k7 k8 k9 f0 f1 (vUC uc tuc) .none (.int ml tml) q e a (.ref (cond q 60 59)) (.int n tln) fn (.str tx ttx) (.int k tat)) ∧ X < r2 ∧ r2 < r) (N : News h₀ L h (led ++ rest))
    (kk : ∀ (r r2 : Nat) (tty' tv' tcm' : Tok) (yX yD yF : Obj), yX = tokenO w t0 t1 t2 t3 ty tty vv tv esc (vUC cm tcm) → yD = dictOf [ent w "file" k0 (.ref FA), ent w "ungotten_char" k1 (vUC uc tuc), ent w "ungotten_token" k2 .none, ent w "multiline" k3 (.int ml tml), ent w "quoting" k4 (.bool q), ent w "eof" k5 (.bool e), ent w "after_cr" k6 (.bool a), ent w "delimiters" k7 (.ref (cond q 60 59)), ent w "line_number" k8 (.int n tln), ent w "filename" k9 fn] 10 → yF = dictOf [ent w "text" f0 (.str tx ttx), ent w "at" f1 (.int k tat)] 2 →
      News h₀ L h (((r : Addr), tupO [.ref r2, .ref X]) :: ((r2 : Addr), tupO [.int ty tty', .str vv tv', .bool esc, vUC cm tcm']) :: ((X : Addr), instObj 209 DX) :: ((DX : Addr), yX) :: ((T : Addr), instObj 451 D) :: ((D : Addr), yD) :: ((FA : Addr), instObj 84 FD) :: ((FD : Addr), yF) :: rest) → v = (.ref r) → G) : G := by
  obtain ⟨r, r2, a1, a2, a3, rfl, rfl, _, _⟩ := R
  exact kk r r2 a1 a2 a3 _ _ _ rfl rfl rfl N rfl
end
theorem fm4E {D FD : Addr} {a c : Addr × Obj} {yD dD yF dF : Obj} {news : List (Addr × Obj)} (eD : yD = dD) (eF : yF = dF) (h1 : a ∈ news) (h2 : (D, yD) ∈ news) (h3 : c ∈ news) (h4 : (FD, yF) ∈ news) : ∀ p ∈ [a, (D, dD), c, (FD, dF)], p ∈ news := by
  subst eD eF; exact fm4 h1 h2 h3 h4
theorem fm6E {D FD DX : Addr} {x a c : Addr × Obj} {yX dX yD dD yF dF : Obj} {news : List (Addr × Obj)} (eX : yX = dX) (eD : yD = dD) (eF : yF = dF) (g1 : x ∈ news) (g2 : (DX, yX) ∈ news) (h1 : a ∈ news) (h2 : (D, yD) ∈ news) (h3 : c ∈ news) (h4 : (FD, yF) ∈ news) :
    ∀ p ∈ [x, (DX, dX), a, (D, dD), c, (FD, dF)], p ∈ news := by
  subst eX eD eF; exact fm6 g1 g2 h1 h2 h3 h4
theorem offE {rest : List (Addr × Obj)} {a1 a2 a3 a4 a5 a6 : Addr} {x1 x2 x3 x4 x5 x6 y1 y2 y3 y4 y5 y6 : Obj} (h : ∀ p ∈ rest, ∀ q ∈ [(a1, x1), (a2, x2), (a3, x3), (a4, x4), (a5, x5), (a6, x6)], p.1 ≠ q.1) :
    ∀ p ∈ rest, ∀ q ∈ [(a1, y1), (a2, y2), (a3, y3), (a4, y4), (a5, y5), (a6, y6)], p.1 ≠ q.1 := fun p hp =>
  have k := h p hp
  fc (P := fun q : Addr × Obj => p.1 ≠ q.1) (k (a1, x1) (.head _)) (fc (k (a2, x2) (.tail _ (.head _))) (fc (k (a3, x3) (.tail _ (.tail _ (.head _)))) (fc (k (a4, x4) (.tail _ (.tail _ (.tail _ (.head _))))) (fc (k (a5, x5) (.tail _ (.tail _ (.tail _ (.tail _ (.head _)))))) (fc (k (a6, x6) (.tail _ (.tail _ (.tail _ (.tail _ (.tail _ (.head _))))))) fz)))))
theorem c5_subE {D FD : Addr} {x t f : Addr × Obj} {RS : List (Addr × Obj)} {r1 r2 X DX : Addr × Obj} {yD dD yF dF : Obj} (eD : yD = dD) (eF : yF = dF) : ∀ p ∈ x :: t :: (D, dD) :: f :: (FD, dF) :: RS, p ∈ r1 :: r2 :: X :: DX :: t :: (D, yD) :: f :: (FD, yF) :: x :: RS := by
  subst eD eF; exact c5_sub
end Mine
end

section
local macro_rules | `(tactic| walk_at $_) => Lean.Macro.throwUnsupported
local macro_rules | `(tactic| walk_at $_) => Lean.Macro.throwUnsupported
local macro_rules | `(tactic| walk_at $_) => Lean.Macro.throwUnsupported
local macro_rules | `(tactic| walk_at $_) => Lean.Macro.throwUnsupported
local macro_rules | `(tactic| walk_at $_) => Lean.Macro.throwUnsupported
local macro_rules | `(tactic| walk_at $_) => Lean.Macro.throwUnsupported
local macro_rules | `(tactic| walk_at $_) => Lean.Macro.throwUnsupported
open PySem PySem.W PySem.Calls PyProof.Rows
set_option genInjectivity false
set_option genSizeOf false
namespace Mine
set_option maxHeartbeats 8000000 in
theorem fillL : PySem.Challenge.rw_jf0021_01 = PySem.Challenge.rw_jf0021_01 ∧ Mine.hd.heap_1 = Mine.hd.heap_1 := by
  k_fill
  exact ⟨rfl, rfl⟩
theorem len456 {M : Model} {A : Around} {y : List (Str × Value)} {Q E : Value → Shared → Prop} {s : Shared} (h : Stop (wpAny M A (call (.builtin "len") [.ref 456] y) Q E s)) : wpAny M A (call (.builtin "len") [.ref 456] y) Q E s := h
section
local macro_rules | `(tactic| walk_at $k) => if ["call ref", "call builtin:str.encode", "execs cons", "eval ListComp", "subscriptTail Name BinOp ref int", "compareOp NotEq ref ref", "compareOp In int ref", "call builtin:str.count", "compareOp Eq ref ref", "CompSrcT", "exec For Name Call cons nil", "call type:range", "pyIter ref", "CompSrc"].contains k.getString then `(tactic| refine Mine.stop_of ?_) else Lean.Macro.throwUnsupported
local macro_rules | `(tactic| walk_at "getMethod str") => `(tactic| (k_here; with_reducible refine get_encode ?_))
local macro_rules | `(tactic| walk_at "subscriptTail Name Constant ref int") => `(tactic| k_dflt (refine item_tupleT (by with_reducible assumption) (by decide) (by decide) rfl rfl ?_))
local macro_rules | `(tactic| walk_at "call builtin:len") => `(tactic| ((fail_if_success with_reducible refine Mine.len456 ?_); refine Mine.stop_of ?_))
set_option maxHeartbeats 20000000 in
set_option maxRecDepth 100000 in
noncomputable def law0_S : Cut1 ((World) → (Shared) → (Str → Option Value) → (Str → Option Value) → (Addr) → (Value) → (Addr) → (Obj) → (Addr) → (List Int) → (Heap) → (Array GenState) → (Drawn) → (Nat) → (OsState) → (Int) → (Tok) → (Bool) → (Bool) → (Str) → (Tok) → (Heap) → (Nat) → (Str → Option Value) → (List Pc) → Prop) (fun p0 => (∀ (w : World) (s0 : Shared) (mg : Str → Option Value) (mb : Str → Option Value) (fa : Addr) (kV : Value) (w1 : Addr) (w2 : Obj) (w3 : Addr) (ns : List Int) (g1 : Heap) (gs1 : Array GenState) (dr1 : Drawn) (tq1 : Nat) (os1 : OsState) (b : Int) (tb : Tok) (lead : Bool) (note : Bool) (tx : Str) (tt : Tok) (h3 : Heap) (tk3 : Nat) (u3 : Str → Option Value) (PS : List Pc), p0 w s0 mg mb fa kV w1 w2 w3 ns g1 gs1 dr1 tq1 os1 b tb lead note tx tt h3 tk3 u3 PS) → PySem.Challenge.rw_jf0021_01.Holds) := by
  apply Cut1.mk
  case h =>
  intro hS0
  refine Mine.hd ?_
  k_go0
  rename_i w s0 s1 mg mb G Y fa o pm doc kV ho hg KX X V GL T B TE TW w1 w2 M w3 w4 hcd ns hs hlay0 hLy hr hl2 w5 w6 lst vs w7 hL ra w1' r0 hI hr' hlen hcT K0 hD h1 F0 N0
  obtain ⟨g1, gs1, dr1, tq1, os1⟩ := s1
  (try dsimp only at *)
  replace K0 : Below callerA g1 [] g1 := K0
  replace F0 : Fr g1 g1.objs.size h1 _ := F0
  replace N0 : News g1 g1.objs.size h1 _ := N0
  try k_fold
  k_steps
  refine stop_out (if_joinX (LawC1 g1 gs1 dr1 os1 lst) ?_ ?_)
  · --[
    try k_fold
    k_steps
    · refine ⟨_, _, frC_of (by k_asm) (by k_asm) (fun _ h => nomatch h) (fc rfl (fc rfl fz)), ?_, ?_⟩
      · exact Int.fmod_nonneg_of_pos _ (by decide)
      · exact Int.fmod_lt_of_pos _ (by decide)
    · exact ⟨_, _, frC_of (by k_asm) (by k_asm) (fun _ h => nomatch h) (fc rfl (fc rfl fz)), by decide, by decide⟩
    --]
  · refine c1_use ?_; intro b tb h2 tk2 u2 F2 N2 hb0 hb1
    try k_fold
    k_steps
    (refine stop_out (ec ?_); intro _)
    k_steps
    (refine stop_out (ec ?_); intro _)
    k_steps
    refine stop_out (if_joinX (LawC2 g1 gs1 dr1 os1) ?_ ?_)
    · --[
      k_steps
      refine stop_out ?_
      refine LCg.ListComp_U (F₀ := by k_asm) (by with_unfolding_all rfl) (by decide) (by rfl) (by decide) (by rfl) ?_
      k_steps
      refine stop_out ?_
      refine LCg.CompSrc.ledger (by rfl) (by k_asm) (by k_asm) (by k_mem) (by size_fits) ?_
      intro g'
      refine kct_any PcTxt (by assumption) ?_ ?_
      · intro k' t' I' oI' C' oC' D' m' ys' h' tk' E' hk' hC' hx' F' N' off' ne'
        simp only [LCg.Off3, and_true] at off'
        k_steps
        refine stop_out ?_
        k_dflt (refine' tab_item ?kX ?kF ?ko ?kw ?kp ?k0 ?k1 ?k2 ?_ ?ks; (case kX => k_asm); (case kF => k_asm); (case ko => k_is); (case kw => (repeat constructor)); (case kp => decide +kernel); (case k0 => exact Int.fmod_nonneg_of_pos _ (by decide)); (case k1 => exact Int.fmod_lt_of_pos _ (by decide)); (case k2 => exact Int.lt_trans (Int.fmod_lt_of_pos _ (by decide)) (by decide)); (case ks => with_unfolding_all rfl); k_whole)
        intro r9 t9 hp9
        k_steps
        exact ⟨rfl, _, _, rfl, by assumption⟩
      · intro ys rs hy hr hp D h tk F9 N9 off9
        have qq := text_ok hp (by rw [hr]; exact Nat.le_trans (List.length_take_le _ _) (Nat.le_trans (Nat.sub_le _ _) (Nat.le_trans (Nat.min_le_left _ _) (by decide))))
        walk1
        refine join_list (News.isList N9 (List.Mem.head _)) hy qq.2.2 ?_
        intro t9 k9
        dsimp only
        walk1
        (repeat (first | (with_reducible show Mine.Fw _ _ _ _; constructor) | k_unfold | (dsimp only [WPost]) | dsimp only))
        exact ⟨_, _, _, _, _, _, frC_of (by k_asm) (by k_asm) (fun _ h => nomatch h) (fc rfl (fc rfl (fc rfl (fc rfl fz)))), hb0, hb1, qq.1, qq.2.1⟩
      --]
    · refine c2_use ?_; intro b tb lead note tx tt h3 tk3 u3 F3 N3 hb0 hb1 hx hx2
      have hcs := cut_start hx
      (refine fold_goal ?_; intro gG; obtain ⟨PS, hcG, hcC, hcn⟩ := hcs; k_unfold)
      have hPsm := hcC.sm hx2
      revert G Y hg KX X V GL T B TE TW M hcd K0 hD F3 N3 hb0 hx hx2 hcG hcC hcn hPsm
      exact hS0 w s0 mg mb fa kV w1 w2 w3 ns g1 gs1 dr1 tq1 os1 b tb lead note tx tt h3 tk3 u3 PS
namespace c1
noncomputable abbrev VV := (World) × (Shared) × (Str → Option Value) × (Str → Option Value) × (Addr) × (Value) × (Addr) × (Obj) × (Addr) × (List Int) × (Heap) × (Array GenState) × (Drawn) × (Nat) × (OsState) × (Int) × (Tok) × (Bool) × (Bool) × (Str) × (Tok) × (Heap) × (Nat) × (Str → Option Value) × (List Pc)
noncomputable def PP (v : VV) : Prop := law0_S.a v.1 v.2.1 v.2.2.1 v.2.2.2.1 v.2.2.2.2.1 v.2.2.2.2.2.1 v.2.2.2.2.2.2.1 v.2.2.2.2.2.2.2.1 v.2.2.2.2.2.2.2.2.1 v.2.2.2.2.2.2.2.2.2.1 v.2.2.2.2.2.2.2.2.2.2.1 v.2.2.2.2.2.2.2.2.2.2.2.1 v.2.2.2.2.2.2.2.2.2.2.2.2.1 v.2.2.2.2.2.2.2.2.2.2.2.2.2.1 v.2.2.2.2.2.2.2.2.2.2.2.2.2.2.1 v.2.2.2.2.2.2.2.2.2.2.2.2.2.2.2.1 v.2.2.2.2.2.2.2.2.2.2.2.2.2.2.2.2.1 v.2.2.2.2.2.2.2.2.2.2.2.2.2.2.2.2.2.1 v.2.2.2.2.2.2.2.2.2.2.2.2.2.2.2.2.2.2.1 v.2.2.2.2.2.2.2.2.2.2.2.2.2.2.2.2.2.2.2.1 v.2.2.2.2.2.2.2.2.2.2.2.2.2.2.2.2.2.2.2.2.1 v.2.2.2.2.2.2.2.2.2.2.2.2.2.2.2.2.2.2.2.2.2.1 v.2.2.2.2.2.2.2.2.2.2.2.2.2.2.2.2.2.2.2.2.2.2.1 v.2.2.2.2.2.2.2.2.2.2.2.2.2.2.2.2.2.2.2.2.2.2.2.1 v.2.2.2.2.2.2.2.2.2.2.2.2.2.2.2.2.2.2.2.2.2.2.2.2
theorem NN : Nonempty VV := ⟨(aWorld 0, ⟨default, #[], boot_drawn, 0, default⟩, fun _ => none, fun _ => none, 0, default, 0, instObj 0 0, 0, [], default, #[], boot_drawn, 0, default, 0, 0, false, false, default, 0, default, 0, fun _ => none, [])⟩
@[irreducible] noncomputable def CC : VV := bad NN PP
@[irreducible] noncomputable def w : World := CC.1
@[irreducible] noncomputable def g1 : Heap := CC.2.2.2.2.2.2.2.2.2.2.1
@[irreducible] noncomputable def gs1 : Array GenState := CC.2.2.2.2.2.2.2.2.2.2.2.1
@[irreducible] noncomputable def dr1 : Drawn := CC.2.2.2.2.2.2.2.2.2.2.2.2.1
@[irreducible] noncomputable def os1 : OsState := CC.2.2.2.2.2.2.2.2.2.2.2.2.2.2.1
@[irreducible] noncomputable def b : Int := CC.2.2.2.2.2.2.2.2.2.2.2.2.2.2.2.1
@[irreducible] noncomputable def tb : Tok := CC.2.2.2.2.2.2.2.2.2.2.2.2.2.2.2.2.1
@[irreducible] noncomputable def lead : Bool := CC.2.2.2.2.2.2.2.2.2.2.2.2.2.2.2.2.2.1
@[irreducible] noncomputable def note : Bool := CC.2.2.2.2.2.2.2.2.2.2.2.2.2.2.2.2.2.2.1
@[irreducible] noncomputable def tx : Str := CC.2.2.2.2.2.2.2.2.2.2.2.2.2.2.2.2.2.2.2.1
@[irreducible] noncomputable def h3 : Heap := CC.2.2.2.2.2.2.2.2.2.2.2.2.2.2.2.2.2.2.2.2.2.1
@[irreducible] noncomputable def u3 : Str → Option Value := CC.2.2.2.2.2.2.2.2.2.2.2.2.2.2.2.2.2.2.2.2.2.2.2.1
@[irreducible] noncomputable def PS : List Pc := CC.2.2.2.2.2.2.2.2.2.2.2.2.2.2.2.2.2.2.2.2.2.2.2.2
set_option maxHeartbeats 20000000 in
set_option maxRecDepth 100000 in
noncomputable def core_S : Cut1 ((Int) → (Tok) → (Bool) → (Bool) → (Nat) → (List (Addr × Obj)) → (Nat) → (Nat) → (Nat) → (Nat) → (Nat) → (Tok) → (Tok) → (Tok) → (Tok) → (Tok) → (Tok) → (Tok) → (Tok) → (Tok) → (Tok) → (Tok) → (Tok) → (Tok) → (Tok) → (Tok) → (Tok) → (Tok) → (Heap) → (Nat) → (Str → Option Value) → Prop) (fun p0 => (∀ (b : Int) (tb : Tok) (lead : Bool) (note : Bool) (l : Nat) (PL : List (Addr × Obj)) (nn : Nat) (T9 : Nat) (D9 : Nat) (FA : Nat) (FD : Nat) (k0 : Tok) (k1 : Tok) (k2 : Tok) (k3 : Tok) (k4 : Tok) (k5 : Tok) (k6 : Tok) (k7 : Tok) (k8 : Tok) (k9 : Tok) (f0 : Tok) (f1 : Tok) (tml : Tok) (tln : Tok) (tfn : Tok) (ttx : Tok) (tat : Tok) (h4 : Heap) (tk4 : Nat) (u4 : Str → Option Value), p0 b tb lead note l PL nn T9 D9 FA FD k0 k1 k2 k3 k4 k5 k6 k7 k8 k9 f0 f1 tml tln tfn ttx tat h4 tk4 u4) → law0_S.a w CC.2.1 CC.2.2.1 CC.2.2.2.1 CC.2.2.2.2.1 CC.2.2.2.2.2.1 CC.2.2.2.2.2.2.1 CC.2.2.2.2.2.2.2.1 CC.2.2.2.2.2.2.2.2.1 CC.2.2.2.2.2.2.2.2.2.1 g1 gs1 dr1 CC.2.2.2.2.2.2.2.2.2.2.2.2.2.1 os1 b tb lead note tx CC.2.2.2.2.2.2.2.2.2.2.2.2.2.2.2.2.2.2.2.2.1 h3 CC.2.2.2.2.2.2.2.2.2.2.2.2.2.2.2.2.2.2.2.2.2.2.1 u3 PS) := by
  apply Cut1.mk
  case h =>
  intro hS0
  intro G Y hg KX X V GL T B TE TW M hcd K0 hD F3 N3 hb0 hx hx2 hcG hcC hcn hPsm
  k_steps
  (refine stop_out (ec ?_); intro _)
  k_steps
  refine stop_out ?_
  k_dflt ((show wpAny _ _ (call (Value.ref 484) _) _ _ _); (refine' Con.use0 (cut_con hx hcG) ?kB ?kF ?kX ?kN ?kT ?kA ?kf ?ke ?kd ?ku ?kh ?h1 ?hP ?_; (case kB => k_asm); (case kF => k_asm); (case kX => k_asm); (case kN => k_asm); (case kT => k_asm); (case kA => exact rfl); (case kf => exact rfl); (case ke => exact rfl); (case kd => exact Nat.le_of_ble_eq_true rfl); (case ku => exact Nat.le_of_ble_eq_true rfl); (case kh => exact rfl)); (case h1 => exact fun _ h => nomatch h); (case hP => exact fun _ _ => trivial); k_whole)
  intro z9 v9 led9 h9 tk9 hz9 F9 N9 R9
  (refine fold_goal ?_; intro gG; obtain ⟨l, PL, nn, hv9, hl9, hA9, hne9⟩ := R9; k_unfold)
  subst hv9
  subst hl9
  k_steps
  refine stop_out (if_joinX (LawC4 w g1 gs1 dr1 os1 PS tx) ?_ ?_)
  · --[
    k_steps
    · refine stop_out ?_
      (refine call_encode (no_sur (by assumption)) (by assumption) ?_; intro _ _)
      k_steps
      refine stop_out ?_
      (k_here; (with_reducible show wpAny _ _ (call (Value.ref 451) _) _ _ _); k_dflt (refine' call_cls ?k1 ?k2 ?k3 ?k4 ?k5 ?k6 ?_; (case k1 => k_asm); (case k2 => k_asm); (case k3 => k_asm); (case k4 => k_is); (case k5 => k_is); (case k6 => k_is); k_whole); intro x9 d9 h9 F9 N9 l91 l92; k_dflt (refine' ConC.use (rest := ((l : Addr), listO (refsOfL PL) nn) :: PL) (ini_bytes l92 hx hx2) ?kB ?kF ?kX ?kN ?kT ?kA ?kf ?ke ?kd ?ku ?kh ?h1 ?h2 ?h3 ?_; (case kB => k_asm); (case kF => k_asm); (case kX => k_asm); (case kN => k_asm); (case kT => k_asm); (case kA => exact rfl); (case kf => exact rfl); (case ke => exact rfl); (case kd => exact Nat.le_of_ble_eq_true rfl); (case ku => exact Nat.le_of_ble_eq_true rfl); (case kh => exact rfl); (case h1 => exact fc (List.Mem.head _) (fc (List.Mem.tail _ (List.Mem.head _)) fz)); (case h2 => exact fun _ h => List.Mem.tail _ (List.Mem.tail _ h)); (case h3 => exact cls_off l91 l92); k_whole); intro z9 v9 led9 h9 tk9 hz9 F9 N9 hd9 R9)
      (refine fold_goal ?_; intro gG; obtain ⟨hv9, FA, FD, j0, j1, j2, j3, j4, j5, j6, j7, j8, j9, i0, i1, tml, tln, ttx, tat, hl9, hlt1, hlt2⟩ := R9; k_unfold)
      subst hv9
      subst hl9
      refine ⟨rfl, ?_⟩
      dsimp only
      k_steps
      exact LawC4.mk b tb lead note l PL nn x9 d9 FA FD j0 j1 j2 j3 j4 j5 j6 j7 j8 j9 i0 i1 tml tln _ ttx tat (frC_of (by k_asm) (by k_asm) (fun _ h => h) (fc rfl (fc rfl (fc rfl (fc rfl (fc rfl fz)))))) hb0 hA9 l92 hlt1 hlt2 (tokOff_of hd9)
    · refine stop_out ?_
      (k_here; (with_reducible show wpAny _ _ (call (Value.ref 451) _) _ _ _); k_dflt (refine' call_cls ?k1 ?k2 ?k3 ?k4 ?k5 ?k6 ?_; (case k1 => k_asm); (case k2 => k_asm); (case k3 => k_asm); (case k4 => k_is); (case k5 => k_is); (case k6 => k_is); k_whole); intro x9 d9 h9 F9 N9 l91 l92; k_dflt (refine' ConC.use (rest := ((l : Addr), listO (refsOfL PL) nn) :: PL) (ini_str l92) ?kB ?kF ?kX ?kN ?kT ?kA ?kf ?ke ?kd ?ku ?kh ?h1 ?h2 ?h3 ?_; (case kB => k_asm); (case kF => k_asm); (case kX => k_asm); (case kN => k_asm); (case kT => k_asm); (case kA => exact rfl); (case kf => exact rfl); (case ke => exact rfl); (case kd => exact Nat.le_of_ble_eq_true rfl); (case ku => exact Nat.le_of_ble_eq_true rfl); (case kh => exact rfl); (case h1 => exact fc (List.Mem.head _) (fc (List.Mem.tail _ (List.Mem.head _)) fz)); (case h2 => exact fun _ h => List.Mem.tail _ (List.Mem.tail _ h)); (case h3 => exact cls_off l91 l92); k_whole); intro z9 v9 led9 h9 tk9 hz9 F9 N9 hd9 R9)
      (refine fold_goal ?_; intro gG; obtain ⟨hv9, FA, FD, j0, j1, j2, j3, j4, j5, j6, j7, j8, j9, i0, i1, tml, tln, ttx, tat, hl9, hlt1, hlt2⟩ := R9; k_unfold)
      subst hv9
      subst hl9
      refine ⟨rfl, ?_⟩
      dsimp only
      k_steps
      exact LawC4.mk b tb lead note l PL nn x9 d9 FA FD j0 j1 j2 j3 j4 j5 j6 j7 j8 j9 i0 i1 tml tln _ ttx tat (frC_of (by k_asm) (by k_asm) (fun _ h => h) (fc rfl (fc rfl (fc rfl (fc rfl (fc rfl fz)))))) hb0 hA9 l92 hlt1 hlt2 (tokOff_of hd9)
    --]
  · refine c4_use ?_; intro b tb lead note l PL nn T9 D9 FA FD k0 k1 k2 k3 k4 k5 k6 k7 k8 k9 f0 f1 tml tln tfn ttx tat h4 tk4 u4 mT F4 N4 hb0 hA hn1 hn2 hn3 hoff
    revert G Y hg KX X V GL T B TE TW M hcd K0 hD hx hcC hcn hPsm F4 N4 hA hn1 hn2 hn3 hoff
    exact hS0 b tb lead note l PL nn T9 D9 FA FD k0 k1 k2 k3 k4 k5 k6 k7 k8 k9 f0 f1 tml tln tfn ttx tat h4 tk4 u4
namespace c2
noncomputable abbrev VV := (Int) × (Tok) × (Bool) × (Bool) × (Nat) × (List (Addr × Obj)) × (Nat) × (Nat) × (Nat) × (Nat) × (Nat) × (Tok) × (Tok) × (Tok) × (Tok) × (Tok) × (Tok) × (Tok) × (Tok) × (Tok) × (Tok) × (Tok) × (Tok) × (Tok) × (Tok) × (Tok) × (Tok) × (Tok) × (Heap) × (Nat) × (Str → Option Value)
noncomputable def PP (v : VV) : Prop := c1.core_S.a v.1 v.2.1 v.2.2.1 v.2.2.2.1 v.2.2.2.2.1 v.2.2.2.2.2.1 v.2.2.2.2.2.2.1 v.2.2.2.2.2.2.2.1 v.2.2.2.2.2.2.2.2.1 v.2.2.2.2.2.2.2.2.2.1 v.2.2.2.2.2.2.2.2.2.2.1 v.2.2.2.2.2.2.2.2.2.2.2.1 v.2.2.2.2.2.2.2.2.2.2.2.2.1 v.2.2.2.2.2.2.2.2.2.2.2.2.2.1 v.2.2.2.2.2.2.2.2.2.2.2.2.2.2.1 v.2.2.2.2.2.2.2.2.2.2.2.2.2.2.2.1 v.2.2.2.2.2.2.2.2.2.2.2.2.2.2.2.2.1 v.2.2.2.2.2.2.2.2.2.2.2.2.2.2.2.2.2.1 v.2.2.2.2.2.2.2.2.2.2.2.2.2.2.2.2.2.2.1 v.2.2.2.2.2.2.2.2.2.2.2.2.2.2.2.2.2.2.2.1 v.2.2.2.2.2.2.2.2.2.2.2.2.2.2.2.2.2.2.2.2.1 v.2.2.2.2.2.2.2.2.2.2.2.2.2.2.2.2.2.2.2.2.2.1 v.2.2.2.2.2.2.2.2.2.2.2.2.2.2.2.2.2.2.2.2.2.2.1 v.2.2.2.2.2.2.2.2.2.2.2.2.2.2.2.2.2.2.2.2.2.2.2.1 v.2.2.2.2.2.2.2.2.2.2.2.2.2.2.2.2.2.2.2.2.2.2.2.2.1 v.2.2.2.2.2.2.2.2.2.2.2.2.2.2.2.2.2.2.2.2.2.2.2.2.2.1 v.2.2.2.2.2.2.2.2.2.2.2.2.2.2.2.2.2.2.2.2.2.2.2.2.2.2.1 v.2.2.2.2.2.2.2.2.2.2.2.2.2.2.2.2.2.2.2.2.2.2.2.2.2.2.2.1 v.2.2.2.2.2.2.2.2.2.2.2.2.2.2.2.2.2.2.2.2.2.2.2.2.2.2.2.2.1 v.2.2.2.2.2.2.2.2.2.2.2.2.2.2.2.2.2.2.2.2.2.2.2.2.2.2.2.2.2.1 v.2.2.2.2.2.2.2.2.2.2.2.2.2.2.2.2.2.2.2.2.2.2.2.2.2.2.2.2.2.2
theorem NN : Nonempty VV := ⟨(0, 0, false, false, 0, [], 0, 0, 0, 0, 0, 0, 0, 0, 0, 0, 0, 0, 0, 0, 0, 0, 0, 0, 0, 0, 0, 0, default, 0, fun _ => none)⟩
@[irreducible] noncomputable def CC : VV := bad NN PP
@[irreducible] noncomputable def b : Int := CC.1
@[irreducible] noncomputable def tb : Tok := CC.2.1
@[irreducible] noncomputable def lead : Bool := CC.2.2.1
@[irreducible] noncomputable def note : Bool := CC.2.2.2.1
@[irreducible] noncomputable def l : Nat := CC.2.2.2.2.1
@[irreducible] noncomputable def PL : List (Addr × Obj) := CC.2.2.2.2.2.1
@[irreducible] noncomputable def nn : Nat := CC.2.2.2.2.2.2.1
@[irreducible] noncomputable def T9 : Nat := CC.2.2.2.2.2.2.2.1
@[irreducible] noncomputable def D9 : Nat := CC.2.2.2.2.2.2.2.2.1
@[irreducible] noncomputable def FA : Nat := CC.2.2.2.2.2.2.2.2.2.1
@[irreducible] noncomputable def FD : Nat := CC.2.2.2.2.2.2.2.2.2.2.1
@[irreducible] noncomputable def k0 : Tok := CC.2.2.2.2.2.2.2.2.2.2.2.1
@[irreducible] noncomputable def k1 : Tok := CC.2.2.2.2.2.2.2.2.2.2.2.2.1
@[irreducible] noncomputable def k2 : Tok := CC.2.2.2.2.2.2.2.2.2.2.2.2.2.1
@[irreducible] noncomputable def k3 : Tok := CC.2.2.2.2.2.2.2.2.2.2.2.2.2.2.1
@[irreducible] noncomputable def k4 : Tok := CC.2.2.2.2.2.2.2.2.2.2.2.2.2.2.2.1
@[irreducible] noncomputable def k5 : Tok := CC.2.2.2.2.2.2.2.2.2.2.2.2.2.2.2.2.1
@[irreducible] noncomputable def k6 : Tok := CC.2.2.2.2.2.2.2.2.2.2.2.2.2.2.2.2.2.1
@[irreducible] noncomputable def k7 : Tok := CC.2.2.2.2.2.2.2.2.2.2.2.2.2.2.2.2.2.2.1
@[irreducible] noncomputable def k8 : Tok := CC.2.2.2.2.2.2.2.2.2.2.2.2.2.2.2.2.2.2.2.1
@[irreducible] noncomputable def k9 : Tok := CC.2.2.2.2.2.2.2.2.2.2.2.2.2.2.2.2.2.2.2.2.1
@[irreducible] noncomputable def f0 : Tok := CC.2.2.2.2.2.2.2.2.2.2.2.2.2.2.2.2.2.2.2.2.2.1
@[irreducible] noncomputable def f1 : Tok := CC.2.2.2.2.2.2.2.2.2.2.2.2.2.2.2.2.2.2.2.2.2.2.1
@[irreducible] noncomputable def tml : Tok := CC.2.2.2.2.2.2.2.2.2.2.2.2.2.2.2.2.2.2.2.2.2.2.2.1
@[irreducible] noncomputable def tln : Tok := CC.2.2.2.2.2.2.2.2.2.2.2.2.2.2.2.2.2.2.2.2.2.2.2.2.1
@[irreducible] noncomputable def tfn : Tok := CC.2.2.2.2.2.2.2.2.2.2.2.2.2.2.2.2.2.2.2.2.2.2.2.2.2.1
@[irreducible] noncomputable def ttx : Tok := CC.2.2.2.2.2.2.2.2.2.2.2.2.2.2.2.2.2.2.2.2.2.2.2.2.2.2.1
@[irreducible] noncomputable def tat : Tok := CC.2.2.2.2.2.2.2.2.2.2.2.2.2.2.2.2.2.2.2.2.2.2.2.2.2.2.2.1
@[irreducible] noncomputable def u4 : Str → Option Value := CC.2.2.2.2.2.2.2.2.2.2.2.2.2.2.2.2.2.2.2.2.2.2.2.2.2.2.2.2.2.2
set_option maxHeartbeats 20000000 in
set_option maxRecDepth 100000 in
noncomputable def core_S : Cut1 ((Heap) → (Nat) → (Int) → (Tok) → (Nat) → (Str → Option Value) → (Heap) → (Nat) → (List (Addr × Obj)) → (Int) → (Option Str) → (Bool) → (Bool) → (Bool) → (Int) → (Int) → (Int) → (Int) → (Tok) → (Tok) → (Tok) → (Tok) → (Tok) → (Tok) → (Tok) → (Obj) → (Obj) → (List (Addr × Obj)) → Prop) (fun p0 => (∀ (hr9 : Heap) (tkr9 : Nat) (tn9 : Int) (tt9 : Tok) (i9 : Nat) (m9 : Str → Option Value) (h9 : Heap) (tk9 : Nat) (own : List (Addr × Obj)) (k1' : Int) (uc : Option Str) (q : Bool) (e : Bool) (a : Bool) (ml : Int) (ln : Int) (k : Int) (d : Int) (tk : Tok) (td : Tok) (tuc : Tok) (tml : Tok) (tln : Tok) (ttx : Tok) (tat : Tok) (yD : Obj) (yF : Obj) (RS : List (Addr × Obj)), p0 hr9 tkr9 tn9 tt9 i9 m9 h9 tk9 own k1' uc q e a ml ln k d tk td tuc tml tln ttx tat yD yF RS) → c1.core_S.a b tb lead note l PL nn T9 D9 FA FD k0 k1 k2 k3 k4 k5 k6 k7 k8 k9 f0 f1 tml tln tfn ttx tat CC.2.2.2.2.2.2.2.2.2.2.2.2.2.2.2.2.2.2.2.2.2.2.2.2.2.2.2.2.1 CC.2.2.2.2.2.2.2.2.2.2.2.2.2.2.2.2.2.2.2.2.2.2.2.2.2.2.2.2.2.1 u4) := by
  apply Cut1.mk
  case h =>
  intro hS0
  intro G Y hg KX X V GL T B TE TW M hcd K0 hD hx hcC hcn hPsm F4 N4 hA hn1 hn2 hn3 hoff
  k_steps
  (refine stop_out (ec ?_); intro _)
  k_steps
  (refine stop_out (ec ?_); intro _)
  k_steps
  (refine stop_out (ec ?_); intro _)
  k_steps
  refine stop_out ?_
  (with_reducible rename Fr _ _ _ _ => lF9)
  (with_unfolding_all refine' For_invVF lF9 ?k1 ?k2 ?_; (case k1 => exact rfl); (case k2 => exact rfl); k_whole)
  k_steps
  refine stop_out ?_
  refine len_pcs (by k_asm) (List.mem_append_right _ (List.Mem.head _)) hA hcn ?_
  intro t9 kk9
  dsimp only
  k_steps
  refine stop_out ?_
  refine range1_rows (by k_asm) (by k_asm) ?_
  intro h9 tk9 t91 t92 t93 R9 F9 N9 _
  dsimp only
  refine iter_rangeS (σ := Nat) (n := PS.length + 1) (LawJ w PS (1 + nlc PS) tx b tb lead note l T9 D9 FA FD k0 k1 k2 k3 k4 k5 k6 k7 k8 k9 f0 f1 tfn (((l : Addr), listO (refsOfL PL) nn) :: PL)) (fun a _ => a + 1) 0 (by rfl) R9 (rng_small hcn) rng_size F9 N9 ?_ ?_ ?_
  · exact LawJ.mk (k1' := 0) (uc := none) (q := false) (e := false) (a := false) (ml := 0) (ln := 1) (k := 0) (d := 0) (tuc := 0) (tml := tml) (tln := tln) (ttx := ttx) (tat := tat) rfl (fc rfl (fc rfl (fc rfl (fc rfl (fc rfl (fc rfl (fc rfl fz))))))) (inv_start hx hcC) (Int.le_refl _)
  · clear R9 F9 N9 lF9
    intro tn9 tt9 i9 m9 nx9 h9 tk9 own hk9 ho9 hJ F9 N9
    replace N9 : News g1 g1.objs.size h9 (nx9 ++ own) := N9
    refine turn_use hJ N9 hoff ho9 ?_
    clear hJ N9
    intro k1' uc q e a ml ln k d tk td tuc tml tln ttx tat yD yF RS eD eF hI hik mT hm9 N8 hR1 hR2 hR3
    rw [hm9] at F9
    clear hm9
    rename_i hr9 tkr9 _
    revert G Y hg KX X V GL T B TE TW M hcd K0 hD hx hcC hcn hPsm hA hn1 hn2 hn3 eD eF hI hik F9 N8 hR1 hR2 hR3
    exact hS0 hr9 tkr9 tn9 tt9 i9 m9 h9 tk9 own k1' uc q e a ml ln k d tk td tuc tml tln ttx tat yD yF RS
  · intro m9 nx9 h9 tk9 hJ _ _
    exact (lawJ_done hJ).elim
namespace turn
noncomputable abbrev VV := (Heap) × (Nat) × (Int) × (Tok) × (Nat) × (Str → Option Value) × (Heap) × (Nat) × (List (Addr × Obj)) × (Int) × (Option Str) × (Bool) × (Bool) × (Bool) × (Int) × (Int) × (Int) × (Int) × (Tok) × (Tok) × (Tok) × (Tok) × (Tok) × (Tok) × (Tok) × (Obj) × (Obj) × (List (Addr × Obj))
noncomputable def PP (v : VV) : Prop := c1.c2.core_S.a v.1 v.2.1 v.2.2.1 v.2.2.2.1 v.2.2.2.2.1 v.2.2.2.2.2.1 v.2.2.2.2.2.2.1 v.2.2.2.2.2.2.2.1 v.2.2.2.2.2.2.2.2.1 v.2.2.2.2.2.2.2.2.2.1 v.2.2.2.2.2.2.2.2.2.2.1 v.2.2.2.2.2.2.2.2.2.2.2.1 v.2.2.2.2.2.2.2.2.2.2.2.2.1 v.2.2.2.2.2.2.2.2.2.2.2.2.2.1 v.2.2.2.2.2.2.2.2.2.2.2.2.2.2.1 v.2.2.2.2.2.2.2.2.2.2.2.2.2.2.2.1 v.2.2.2.2.2.2.2.2.2.2.2.2.2.2.2.2.1 v.2.2.2.2.2.2.2.2.2.2.2.2.2.2.2.2.2.1 v.2.2.2.2.2.2.2.2.2.2.2.2.2.2.2.2.2.2.1 v.2.2.2.2.2.2.2.2.2.2.2.2.2.2.2.2.2.2.2.1 v.2.2.2.2.2.2.2.2.2.2.2.2.2.2.2.2.2.2.2.2.1 v.2.2.2.2.2.2.2.2.2.2.2.2.2.2.2.2.2.2.2.2.2.1 v.2.2.2.2.2.2.2.2.2.2.2.2.2.2.2.2.2.2.2.2.2.2.1 v.2.2.2.2.2.2.2.2.2.2.2.2.2.2.2.2.2.2.2.2.2.2.2.1 v.2.2.2.2.2.2.2.2.2.2.2.2.2.2.2.2.2.2.2.2.2.2.2.2.1 v.2.2.2.2.2.2.2.2.2.2.2.2.2.2.2.2.2.2.2.2.2.2.2.2.2.1 v.2.2.2.2.2.2.2.2.2.2.2.2.2.2.2.2.2.2.2.2.2.2.2.2.2.2.1 v.2.2.2.2.2.2.2.2.2.2.2.2.2.2.2.2.2.2.2.2.2.2.2.2.2.2.2
theorem NN : Nonempty VV := ⟨(default, 0, 0, 0, 0, fun _ => none, default, 0, [], 0, none, false, false, false, 0, 0, 0, 0, 0, 0, 0, 0, 0, 0, 0, instObj 0 0, instObj 0 0, [])⟩
@[irreducible] noncomputable def CC : VV := bad NN PP
@[irreducible] noncomputable def i9 : Nat := CC.2.2.2.2.1
@[irreducible] noncomputable def h9 : Heap := CC.2.2.2.2.2.2.1
@[irreducible] noncomputable def tk9 : Nat := CC.2.2.2.2.2.2.2.1
@[irreducible] noncomputable def k1' : Int := CC.2.2.2.2.2.2.2.2.2.1
@[irreducible] noncomputable def uc : Option Str := CC.2.2.2.2.2.2.2.2.2.2.1
@[irreducible] noncomputable def q : Bool := CC.2.2.2.2.2.2.2.2.2.2.2.1
@[irreducible] noncomputable def e : Bool := CC.2.2.2.2.2.2.2.2.2.2.2.2.1
@[irreducible] noncomputable def a : Bool := CC.2.2.2.2.2.2.2.2.2.2.2.2.2.1
@[irreducible] noncomputable def ml : Int := CC.2.2.2.2.2.2.2.2.2.2.2.2.2.2.1
@[irreducible] noncomputable def ln : Int := CC.2.2.2.2.2.2.2.2.2.2.2.2.2.2.2.1
@[irreducible] noncomputable def k : Int := CC.2.2.2.2.2.2.2.2.2.2.2.2.2.2.2.2.1
@[irreducible] noncomputable def d : Int := CC.2.2.2.2.2.2.2.2.2.2.2.2.2.2.2.2.2.1
@[irreducible] noncomputable def tk : Tok := CC.2.2.2.2.2.2.2.2.2.2.2.2.2.2.2.2.2.2.1
@[irreducible] noncomputable def td : Tok := CC.2.2.2.2.2.2.2.2.2.2.2.2.2.2.2.2.2.2.2.1
@[irreducible] noncomputable def tuc : Tok := CC.2.2.2.2.2.2.2.2.2.2.2.2.2.2.2.2.2.2.2.2.1
@[irreducible] noncomputable def tml : Tok := CC.2.2.2.2.2.2.2.2.2.2.2.2.2.2.2.2.2.2.2.2.2.1
@[irreducible] noncomputable def tln : Tok := CC.2.2.2.2.2.2.2.2.2.2.2.2.2.2.2.2.2.2.2.2.2.2.1
@[irreducible] noncomputable def ttx : Tok := CC.2.2.2.2.2.2.2.2.2.2.2.2.2.2.2.2.2.2.2.2.2.2.2.1
@[irreducible] noncomputable def tat : Tok := CC.2.2.2.2.2.2.2.2.2.2.2.2.2.2.2.2.2.2.2.2.2.2.2.2.1
@[irreducible] noncomputable def yD : Obj := CC.2.2.2.2.2.2.2.2.2.2.2.2.2.2.2.2.2.2.2.2.2.2.2.2.2.1
@[irreducible] noncomputable def yF : Obj := CC.2.2.2.2.2.2.2.2.2.2.2.2.2.2.2.2.2.2.2.2.2.2.2.2.2.2.1
@[irreducible] noncomputable def RS : List (Addr × Obj) := CC.2.2.2.2.2.2.2.2.2.2.2.2.2.2.2.2.2.2.2.2.2.2.2.2.2.2.2
set_option maxHeartbeats 20000000 in
set_option maxRecDepth 100000 in
noncomputable def core_S : Cut1 ((Int) → (Int) → (Int) → (Str) → (Bool) → (Option Str) → (Int) → (Option Str) → (Bool) → (Bool) → (Bool) → (Int) → (Int) → (Nat) → (Tok) → (Tok) → (Tok) → (Tok) → (Tok) → (Heap) → (Nat) → (Heap) → (Nat) → (Nat) → (Nat) → (Nat) → (Nat) → (Tok) → (Tok) → (Tok) → (Tok) → (Tok) → (Tok) → (Tok) → (Tok) → (Tok) → (Tok) → (Tok) → (Tok) → (Obj) → (Obj) → (Obj) → Prop) (fun p0 => (∀ (k' : Int) (d' : Int) (ty : Int) (v : Str) (e' : Bool) (cm : Option Str) (k1b : Int) (uc2 : Option Str) (q2 : Bool) (e2 : Bool) (a3 : Bool) (ml2 : Int) (ln2 : Int) (a2 : Nat) (u1 : Tok) (u2 : Tok) (u3 : Tok) (u4 : Tok) (u5 : Tok) (hp8 : Heap) (tk8 : Nat) (h9 : Heap) (tk9 : Nat) (r1 : Nat) (r2 : Nat) (X9 : Nat) (DX : Nat) (tuc : Tok) (tml : Tok) (tln : Tok) (ttx : Tok) (tat : Tok) (t0 : Tok) (t1 : Tok) (t2 : Tok) (t3 : Tok) (tty : Tok) (tv : Tok) (tcm : Tok) (yX : Obj) (yD : Obj) (yF : Obj), p0 k' d' ty v e' cm k1b uc2 q2 e2 a3 ml2 ln2 a2 u1 u2 u3 u4 u5 hp8 tk8 h9 tk9 r1 r2 X9 DX tuc tml tln ttx tat t0 t1 t2 t3 tty tv tcm yX yD yF) → c1.c2.core_S.a CC.1 CC.2.1 CC.2.2.1 CC.2.2.2.1 i9 CC.2.2.2.2.2.1 h9 tk9 CC.2.2.2.2.2.2.2.2.1 k1' uc q e a ml ln k d tk td tuc tml tln ttx tat yD yF RS) := by
  apply Cut1.mk
  case h =>
  intro hS0
  intro G Y hg KX X V GL T B TE TW M hcd K0 hD hx hcC hcn hPsm hA hn1 hn2 hn3 eD eF hI hik F9 N8 hR1 hR2 hR3
  have hgm := get_main (lead := lead) (note := note) (Nat.lt_of_le_of_lt hcn (by decide)) hI
  (refine fold_goal ?_; intro gG; obtain ⟨res, σ', k', d', hG, hN, hAf⟩ := hgm; k_unfold)
  replace F9 : Fr g1 g1.objs.size h9 _ := F9
  replace N8 : News g1 g1.objs.size h9 _ := N8
  have hcn6 : PS.length ≤ 6000 := Nat.le_trans hcn (by decide)
  cases res with
  | tok ty v e' cm =>
    have hAt := hAf _ _ _ _ rfl
    (refine fold_goal ?_; intro gG; obtain ⟨hI2, hA1, hA2, hA3, hA4, hA5⟩ := hAt; k_unfold)
    have hTs := nextM_sm hPsm hN _ _ _ _ rfl
    clear hAf
    obtain ⟨tx2, k1b, uc2, q2, e2, a3, ml2, ln2⟩ := σ'
    have htx2 := hI2.tx
    dsimp only at htx2
    have htx3 := htx2.symm
    subst htx3
    clear htx2
    k_steps
    (refine stop_out (ec ?_); intro _)
    try dsimp only
    k_steps
    refine stop_out ?_
    k_dflt ((show wpAny _ _ (call (Value.ref 498) _) _ _ _); (refine' Con.use (next_con hI.k0 hI.d0 hcn6 hN) ?kB ?kF ?kX ?kN ?kT ?kA ?kf ?ke ?kd ?ku ?kh ?h1 ?h2 ?h3 ?hP ?_; (case kB => k_asm); (case kF => k_asm); (case kX => k_asm); (case kN => k_asm); (case kT => k_asm); (case kA => exact rfl); (case kf => exact rfl); (case ke => exact rfl); (case kd => exact Nat.le_of_ble_eq_true rfl); (case ku => exact Nat.le_of_ble_eq_true rfl); (case kh => exact rfl); (case h1 => exact fun _ h => nomatch h); (case h2 => exact fun _ h => h); (case h3 => exact fun _ _ _ h => nomatch h)); (case hP => exact fun g _ hg => pcAt_sub hA hR1 sub4 hg); k_whole)
    intro z9 v9 led9 h9 tk9 hz9 F9 N9 hd9 R9
    refine next_tok_use R9 N9 hd9 ?_
    clear N9 hd9 R9
    intro a1 a2 u1 u2 u3 u4 u5 hlt N9 hd9 hv9
    subst hv9
    try dsimp only
    k_steps
    (refine stop_out (ec ?_); intro _)
    try dsimp only
    k_steps
    refine stop_out ?_
    have hao := off_new hd9 hR3
    k_dflt ((show wpAny _ _ (call (Value.ref 505) _) _ _ _); (refine' ConS.use (rest := ((a2 : Addr), tupO [.int ty u3, .str v u4, .bool e', vUC cm u5]) :: RS) (told_con2 (pt := none) hn1 hn2 hn3 hI.ok trivial hG) ?kB ?kF ?kX ?kN ?kT ?XB ?TB ?kA ?kf ?ke ?kd ?ku ?kh ?h1 ?h2 ?h3 ?_; (case kB => k_asm); (case kF => k_asm); (case kX => k_asm); (case kN => k_asm); (case kT => k_asm); (case XB => exact KX); (case TB => exact T); (case kA => exact rfl); (case kf => exact rfl); (case ke => exact rfl); (case kd => exact Nat.le_of_ble_eq_true rfl); (case ku => exact Nat.le_of_ble_eq_true rfl); (case kh => exact rfl); (case h2 => exact sub_rest); (case h1 => (dsimp only [putLed, putV, List.nil_append]; exact fm4E eD eF (by k_mem) (by k_mem) (by k_mem) (by k_mem))); (case h3 => exact tokOff_led hao)); k_whole)
    clear hd9 hz9
    intro z9 v9 led9 h9 tk9 hz9 F9 N9 hd9 R9
    refine told_tok_use R9 N9 hd9 ?_
    clear N9 hd9 R9
    intro r1 r2 X9 DX tuc tml tln ttx tat t0 t1 t2 t3 tty tv tcm yX yD yF eX eD eF hlt9 hX1 hX2 hX3 N9 hd9 hv9
    subst hv9
    rename_i hp8 _ _ tk8
    revert G Y hg KX X V GL T B TE TW M hcd K0 hD hx hcC hcn hPsm hA hn1 hn2 hn3 hik hR1 hR2 hR3 hcn6 hA1 hA3 hA4 hTs hI2 hA2 F9 eX eD eF hlt9 hX1 N9 hd9
    exact hS0 k' d' ty v e' cm k1b uc2 q2 e2 a3 ml2 ln2 a2 u1 u2 u3 u4 u5 hp8 tk8 h9 tk9 r1 r2 X9 DX tuc tml tln ttx tat t0 t1 t2 t3 tty tv tcm yX yD yF
  | syn =>
    --<
    k_steps
    (refine stop_out (ec ?_); intro _)
    try dsimp only
    k_steps
    refine stop_out ?_
    k_dflt ((show wpAny _ _ (call (Value.ref 498) _) _ _ _); (refine' Con.use (next_con hI.k0 hI.d0 hcn6 hN) ?kB ?kF ?kX ?kN ?kT ?kA ?kf ?ke ?kd ?ku ?kh ?h1 ?h2 ?h3 ?hP ?_; (case kB => k_asm); (case kF => k_asm); (case kX => k_asm); (case kN => k_asm); (case kT => k_asm); (case kA => exact rfl); (case kf => exact rfl); (case ke => exact rfl); (case kd => exact Nat.le_of_ble_eq_true rfl); (case ku => exact Nat.le_of_ble_eq_true rfl); (case kh => exact rfl); (case h1 => exact fun _ h => nomatch h); (case h2 => exact fun _ h => h); (case h3 => exact fun _ _ _ h => nomatch h)); (case hP => exact fun g _ hg => pcAt_sub hA hR1 sub4 hg); k_whole)
    intro z9 v9 led9 h9 tk9 hz9 F9 N9 hd9 R9
    refine next_syn_use R9 N9 ?_
    clear N9 R9
    intro a1 u1 u2 u3 N9 hv9
    subst hv9
    try dsimp only
    k_steps
    (refine stop_out (ec ?_); intro _)
    try dsimp only
    k_steps
    refine stop_out ?_
    k_dflt ((show wpAny _ _ (call (Value.ref 505) _) _ _ _); (refine' ConS.use (rest := RS) (told_none hn1 hn2 hn3 hI.ok hG) ?kB ?kF ?kX ?kN ?kT ?XB ?TB ?kA ?kf ?ke ?kd ?ku ?kh ?h1 ?h2 ?h3 ?_; (case kB => k_asm); (case kF => k_asm); (case kX => k_asm); (case kN => k_asm); (case kT => k_asm); (case XB => exact KX); (case TB => exact T); (case kA => exact rfl); (case kf => exact rfl); (case ke => exact rfl); (case kd => exact Nat.le_of_ble_eq_true rfl); (case ku => exact Nat.le_of_ble_eq_true rfl); (case kh => exact rfl); (case h2 => exact sub5); (case h1 => exact fm4E eD eF (by k_mem) (by k_mem) (by k_mem) (by k_mem)); (case h3 => exact (tokOff_led hR3))); k_whole)
    clear hd9 hz9
    intro z9 v9 led9 h9 tk9 hz9 F9 N9 hd9 R9
    refine told_syn_use R9 N9 ?_
    clear N9 R9
    intro r1 u4 N9 hv9
    subst hv9
    try dsimp only
    k_steps
    (refine stop_out (ec ?_); intro _)
    try dsimp only
    k_steps
    (refine stop_out (ec ?_); intro _)
    try dsimp only
    k_steps
    (refine stop_out (ec ?_); intro _)
    try dsimp only
    k_steps
    -->
  | fin =>
    --<
    k_steps
    (refine stop_out (ec ?_); intro _)
    try dsimp only
    k_steps
    refine stop_out ?_
    k_dflt ((show wpAny _ _ (call (Value.ref 498) _) _ _ _); (refine' Con.use (next_con hI.k0 hI.d0 hcn6 hN) ?kB ?kF ?kX ?kN ?kT ?kA ?kf ?ke ?kd ?ku ?kh ?h1 ?h2 ?h3 ?hP ?_; (case kB => k_asm); (case kF => k_asm); (case kX => k_asm); (case kN => k_asm); (case kT => k_asm); (case kA => exact rfl); (case kf => exact rfl); (case ke => exact rfl); (case kd => exact Nat.le_of_ble_eq_true rfl); (case ku => exact Nat.le_of_ble_eq_true rfl); (case kh => exact rfl); (case h1 => exact fun _ h => nomatch h); (case h2 => exact fun _ h => h); (case h3 => exact fun _ _ _ h => nomatch h)); (case hP => exact fun g _ hg => pcAt_sub hA hR1 sub4 hg); k_whole)
    intro z9 v9 led9 h9 tk9 hz9 F9 N9 hd9 R9
    refine next_fin_use R9 N9 ?_
    clear N9 R9
    intro a1 u1 u2 u3 N9 hv9
    subst hv9
    try dsimp only
    k_steps
    (refine stop_out (ec ?_); intro _)
    try dsimp only
    k_steps
    refine stop_out ?_
    k_dflt ((show wpAny _ _ (call (Value.ref 505) _) _ _ _); (refine' ConS.use (rest := RS) (told_none hn1 hn2 hn3 hI.ok hG) ?kB ?kF ?kX ?kN ?kT ?XB ?TB ?kA ?kf ?ke ?kd ?ku ?kh ?h1 ?h2 ?h3 ?_; (case kB => k_asm); (case kF => k_asm); (case kX => k_asm); (case kN => k_asm); (case kT => k_asm); (case XB => exact KX); (case TB => exact T); (case kA => exact rfl); (case kf => exact rfl); (case ke => exact rfl); (case kd => exact Nat.le_of_ble_eq_true rfl); (case ku => exact Nat.le_of_ble_eq_true rfl); (case kh => exact rfl); (case h2 => exact sub5); (case h1 => exact fm4E eD eF (by k_mem) (by k_mem) (by k_mem) (by k_mem)); (case h3 => exact (tokOff_led hR3))); k_whole)
    clear hd9 hz9
    intro z9 v9 led9 h9 tk9 hz9 F9 N9 hd9 R9
    refine told_fin_use R9 N9 ?_
    clear N9 R9
    intro r1 u4 N9 hv9
    subst hv9
    try dsimp only
    k_steps
    (refine stop_out (ec ?_); intro _)
    try dsimp only
    k_steps
    (refine stop_out (ec ?_); intro _)
    try dsimp only
    k_steps
    (refine stop_out (ec ?_); intro _)
    try dsimp only
    k_steps
    -->
namespace tokc
noncomputable abbrev VV := (Int) × (Int) × (Int) × (Str) × (Bool) × (Option Str) × (Int) × (Option Str) × (Bool) × (Bool) × (Bool) × (Int) × (Int) × (Nat) × (Tok) × (Tok) × (Tok) × (Tok) × (Tok) × (Heap) × (Nat) × (Heap) × (Nat) × (Nat) × (Nat) × (Nat) × (Nat) × (Tok) × (Tok) × (Tok) × (Tok) × (Tok) × (Tok) × (Tok) × (Tok) × (Tok) × (Tok) × (Tok) × (Tok) × (Obj) × (Obj) × (Obj)
noncomputable def PP (v : VV) : Prop := c1.c2.turn.core_S.a v.1 v.2.1 v.2.2.1 v.2.2.2.1 v.2.2.2.2.1 v.2.2.2.2.2.1 v.2.2.2.2.2.2.1 v.2.2.2.2.2.2.2.1 v.2.2.2.2.2.2.2.2.1 v.2.2.2.2.2.2.2.2.2.1 v.2.2.2.2.2.2.2.2.2.2.1 v.2.2.2.2.2.2.2.2.2.2.2.1 v.2.2.2.2.2.2.2.2.2.2.2.2.1 v.2.2.2.2.2.2.2.2.2.2.2.2.2.1 v.2.2.2.2.2.2.2.2.2.2.2.2.2.2.1 v.2.2.2.2.2.2.2.2.2.2.2.2.2.2.2.1 v.2.2.2.2.2.2.2.2.2.2.2.2.2.2.2.2.1 v.2.2.2.2.2.2.2.2.2.2.2.2.2.2.2.2.2.1 v.2.2.2.2.2.2.2.2.2.2.2.2.2.2.2.2.2.2.1 v.2.2.2.2.2.2.2.2.2.2.2.2.2.2.2.2.2.2.2.1 v.2.2.2.2.2.2.2.2.2.2.2.2.2.2.2.2.2.2.2.2.1 v.2.2.2.2.2.2.2.2.2.2.2.2.2.2.2.2.2.2.2.2.2.1 v.2.2.2.2.2.2.2.2.2.2.2.2.2.2.2.2.2.2.2.2.2.2.1 v.2.2.2.2.2.2.2.2.2.2.2.2.2.2.2.2.2.2.2.2.2.2.2.1 v.2.2.2.2.2.2.2.2.2.2.2.2.2.2.2.2.2.2.2.2.2.2.2.2.1 v.2.2.2.2.2.2.2.2.2.2.2.2.2.2.2.2.2.2.2.2.2.2.2.2.2.1 v.2.2.2.2.2.2.2.2.2.2.2.2.2.2.2.2.2.2.2.2.2.2.2.2.2.2.1 v.2.2.2.2.2.2.2.2.2.2.2.2.2.2.2.2.2.2.2.2.2.2.2.2.2.2.2.1 v.2.2.2.2.2.2.2.2.2.2.2.2.2.2.2.2.2.2.2.2.2.2.2.2.2.2.2.2.1 v.2.2.2.2.2.2.2.2.2.2.2.2.2.2.2.2.2.2.2.2.2.2.2.2.2.2.2.2.2.1 v.2.2.2.2.2.2.2.2.2.2.2.2.2.2.2.2.2.2.2.2.2.2.2.2.2.2.2.2.2.2.1 v.2.2.2.2.2.2.2.2.2.2.2.2.2.2.2.2.2.2.2.2.2.2.2.2.2.2.2.2.2.2.2.1 v.2.2.2.2.2.2.2.2.2.2.2.2.2.2.2.2.2.2.2.2.2.2.2.2.2.2.2.2.2.2.2.2.1 v.2.2.2.2.2.2.2.2.2.2.2.2.2.2.2.2.2.2.2.2.2.2.2.2.2.2.2.2.2.2.2.2.2.1 v.2.2.2.2.2.2.2.2.2.2.2.2.2.2.2.2.2.2.2.2.2.2.2.2.2.2.2.2.2.2.2.2.2.2.1 v.2.2.2.2.2.2.2.2.2.2.2.2.2.2.2.2.2.2.2.2.2.2.2.2.2.2.2.2.2.2.2.2.2.2.2.1 v.2.2.2.2.2.2.2.2.2.2.2.2.2.2.2.2.2.2.2.2.2.2.2.2.2.2.2.2.2.2.2.2.2.2.2.2.1 v.2.2.2.2.2.2.2.2.2.2.2.2.2.2.2.2.2.2.2.2.2.2.2.2.2.2.2.2.2.2.2.2.2.2.2.2.2.1 v.2.2.2.2.2.2.2.2.2.2.2.2.2.2.2.2.2.2.2.2.2.2.2.2.2.2.2.2.2.2.2.2.2.2.2.2.2.2.1 v.2.2.2.2.2.2.2.2.2.2.2.2.2.2.2.2.2.2.2.2.2.2.2.2.2.2.2.2.2.2.2.2.2.2.2.2.2.2.2.1 v.2.2.2.2.2.2.2.2.2.2.2.2.2.2.2.2.2.2.2.2.2.2.2.2.2.2.2.2.2.2.2.2.2.2.2.2.2.2.2.2.1 v.2.2.2.2.2.2.2.2.2.2.2.2.2.2.2.2.2.2.2.2.2.2.2.2.2.2.2.2.2.2.2.2.2.2.2.2.2.2.2.2.2
theorem NN : Nonempty VV := ⟨(0, 0, 0, default, false, none, 0, none, false, false, false, 0, 0, 0, 0, 0, 0, 0, 0, default, 0, default, 0, 0, 0, 0, 0, 0, 0, 0, 0, 0, 0, 0, 0, 0, 0, 0, 0, instObj 0 0, instObj 0 0, instObj 0 0)⟩
@[irreducible] noncomputable def CC : VV := bad NN PP
@[irreducible] noncomputable def k' : Int := CC.1
@[irreducible] noncomputable def d' : Int := CC.2.1
@[irreducible] noncomputable def ty : Int := CC.2.2.1
@[irreducible] noncomputable def v : Str := CC.2.2.2.1
@[irreducible] noncomputable def e' : Bool := CC.2.2.2.2.1
@[irreducible] noncomputable def cm : Option Str := CC.2.2.2.2.2.1
@[irreducible] noncomputable def k1b : Int := CC.2.2.2.2.2.2.1
@[irreducible] noncomputable def uc2 : Option Str := CC.2.2.2.2.2.2.2.1
@[irreducible] noncomputable def q2 : Bool := CC.2.2.2.2.2.2.2.2.1
@[irreducible] noncomputable def e2 : Bool := CC.2.2.2.2.2.2.2.2.2.1
@[irreducible] noncomputable def a3 : Bool := CC.2.2.2.2.2.2.2.2.2.2.1
@[irreducible] noncomputable def ml2 : Int := CC.2.2.2.2.2.2.2.2.2.2.2.1
@[irreducible] noncomputable def ln2 : Int := CC.2.2.2.2.2.2.2.2.2.2.2.2.1
@[irreducible] noncomputable def a2 : Nat := CC.2.2.2.2.2.2.2.2.2.2.2.2.2.1
@[irreducible] noncomputable def u1 : Tok := CC.2.2.2.2.2.2.2.2.2.2.2.2.2.2.1
@[irreducible] noncomputable def u2 : Tok := CC.2.2.2.2.2.2.2.2.2.2.2.2.2.2.2.1
@[irreducible] noncomputable def u3 : Tok := CC.2.2.2.2.2.2.2.2.2.2.2.2.2.2.2.2.1
@[irreducible] noncomputable def u4 : Tok := CC.2.2.2.2.2.2.2.2.2.2.2.2.2.2.2.2.2.1
@[irreducible] noncomputable def u5 : Tok := CC.2.2.2.2.2.2.2.2.2.2.2.2.2.2.2.2.2.2.1
@[irreducible] noncomputable def hp8 : Heap := CC.2.2.2.2.2.2.2.2.2.2.2.2.2.2.2.2.2.2.2.1
@[irreducible] noncomputable def tk8 : Nat := CC.2.2.2.2.2.2.2.2.2.2.2.2.2.2.2.2.2.2.2.2.1
@[irreducible] noncomputable def h9 : Heap := CC.2.2.2.2.2.2.2.2.2.2.2.2.2.2.2.2.2.2.2.2.2.1
@[irreducible] noncomputable def tk9 : Nat := CC.2.2.2.2.2.2.2.2.2.2.2.2.2.2.2.2.2.2.2.2.2.2.1
@[irreducible] noncomputable def r1 : Nat := CC.2.2.2.2.2.2.2.2.2.2.2.2.2.2.2.2.2.2.2.2.2.2.2.1
@[irreducible] noncomputable def r2 : Nat := CC.2.2.2.2.2.2.2.2.2.2.2.2.2.2.2.2.2.2.2.2.2.2.2.2.1
@[irreducible] noncomputable def X9 : Nat := CC.2.2.2.2.2.2.2.2.2.2.2.2.2.2.2.2.2.2.2.2.2.2.2.2.2.1
@[irreducible] noncomputable def DX : Nat := CC.2.2.2.2.2.2.2.2.2.2.2.2.2.2.2.2.2.2.2.2.2.2.2.2.2.2.1
@[irreducible] noncomputable def tuc : Tok := CC.2.2.2.2.2.2.2.2.2.2.2.2.2.2.2.2.2.2.2.2.2.2.2.2.2.2.2.1
@[irreducible] noncomputable def tml : Tok := CC.2.2.2.2.2.2.2.2.2.2.2.2.2.2.2.2.2.2.2.2.2.2.2.2.2.2.2.2.1
@[irreducible] noncomputable def tln : Tok := CC.2.2.2.2.2.2.2.2.2.2.2.2.2.2.2.2.2.2.2.2.2.2.2.2.2.2.2.2.2.1
@[irreducible] noncomputable def ttx : Tok := CC.2.2.2.2.2.2.2.2.2.2.2.2.2.2.2.2.2.2.2.2.2.2.2.2.2.2.2.2.2.2.1
@[irreducible] noncomputable def tat : Tok := CC.2.2.2.2.2.2.2.2.2.2.2.2.2.2.2.2.2.2.2.2.2.2.2.2.2.2.2.2.2.2.2.1
@[irreducible] noncomputable def t0 : Tok := CC.2.2.2.2.2.2.2.2.2.2.2.2.2.2.2.2.2.2.2.2.2.2.2.2.2.2.2.2.2.2.2.2.1
@[irreducible] noncomputable def t1 : Tok := CC.2.2.2.2.2.2.2.2.2.2.2.2.2.2.2.2.2.2.2.2.2.2.2.2.2.2.2.2.2.2.2.2.2.1
@[irreducible] noncomputable def t2 : Tok := CC.2.2.2.2.2.2.2.2.2.2.2.2.2.2.2.2.2.2.2.2.2.2.2.2.2.2.2.2.2.2.2.2.2.2.1
@[irreducible] noncomputable def t3 : Tok := CC.2.2.2.2.2.2.2.2.2.2.2.2.2.2.2.2.2.2.2.2.2.2.2.2.2.2.2.2.2.2.2.2.2.2.2.1
@[irreducible] noncomputable def tty : Tok := CC.2.2.2.2.2.2.2.2.2.2.2.2.2.2.2.2.2.2.2.2.2.2.2.2.2.2.2.2.2.2.2.2.2.2.2.2.1
@[irreducible] noncomputable def tv : Tok := CC.2.2.2.2.2.2.2.2.2.2.2.2.2.2.2.2.2.2.2.2.2.2.2.2.2.2.2.2.2.2.2.2.2.2.2.2.2.1
@[irreducible] noncomputable def tcm : Tok := CC.2.2.2.2.2.2.2.2.2.2.2.2.2.2.2.2.2.2.2.2.2.2.2.2.2.2.2.2.2.2.2.2.2.2.2.2.2.2.1
@[irreducible] noncomputable def yX : Obj := CC.2.2.2.2.2.2.2.2.2.2.2.2.2.2.2.2.2.2.2.2.2.2.2.2.2.2.2.2.2.2.2.2.2.2.2.2.2.2.2.1
@[irreducible] noncomputable def yD : Obj := CC.2.2.2.2.2.2.2.2.2.2.2.2.2.2.2.2.2.2.2.2.2.2.2.2.2.2.2.2.2.2.2.2.2.2.2.2.2.2.2.2.1
@[irreducible] noncomputable def yF : Obj := CC.2.2.2.2.2.2.2.2.2.2.2.2.2.2.2.2.2.2.2.2.2.2.2.2.2.2.2.2.2.2.2.2.2.2.2.2.2.2.2.2.2
set_option maxHeartbeats 20000000 in
set_option maxRecDepth 100000 in
noncomputable def core_S : Cut2 ((Heap) → (Nat) → (Heap) → (Nat) → (Obj) → (Obj) → (Obj) → Prop) ((Int) → (Str) → (Bool) → (Option Str) → (Nat) → (Tok) → (Tok) → (Tok) → (Int) → (Bool) → (Bool) → (Bool) → (Int) → (Int) → (Int) → (Tok) → (Tok) → (Tok) → (Tok) → (Tok) → (Tok) → (Tok) → (Obj) → (Obj) → (Heap) → (Str → Option Value) → (Nat) → (TS) → Prop) (fun p0 p1 => (∀ (hp8 : Heap) (tk8 : Nat) (h9 : Heap) (tk9 : Nat) (yX : Obj) (yD : Obj) (yF : Obj), p0 hp8 tk8 h9 tk9 yX yD yF) → (∀ (ty : Int) (v : Str) (e' : Bool) (cm : Option Str) (a2 : Nat) (u3 : Tok) (u4 : Tok) (u5 : Tok) (k1' : Int) (q : Bool) (e : Bool) (a : Bool) (ml : Int) (ln : Int) (k : Int) (tk : Tok) (td : Tok) (tuc : Tok) (tml : Tok) (tln : Tok) (ttx : Tok) (tat : Tok) (yD : Obj) (yF : Obj) (h5 : Heap) (u9 : Str → Option Value) (tk8 : Nat) (σe : TS), p1 ty v e' cm a2 u3 u4 u5 k1' q e a ml ln k tk td tuc tml tln ttx tat yD yF h5 u9 tk8 σe) → c1.c2.turn.core_S.a k' d' ty v e' cm k1b uc2 q2 e2 a3 ml2 ln2 a2 u1 u2 u3 u4 u5 hp8 tk8 h9 tk9 r1 r2 X9 DX tuc tml tln ttx tat t0 t1 t2 t3 tty tv tcm yX yD yF) := by
  apply Cut2.mk
  case h =>
  intro hS0 hS1
  intro G Y hg KX X V GL T B TE TW M hcd K0 hD hx hcC hcn hPsm hA hn1 hn2 hn3 hik hR1 hR2 hR3 hcn6 hA1 hA3 hA4 hTs hI2 hA2 F9 eX eD eF hlt9 hX1 N9 hd9
  try dsimp only
  k_steps
  refine stop_out (if_join True ?_ ?_)
  · skip
    k_steps
    refine stop_out (ne_tup4 (by k_asm) (by k_mem) (by k_mem) hTs.1 hTs.2 (by ke_room) ?_)
    try dsimp only
    k_steps
    exact True.intro
  intro tk8 _
  try dsimp only
  k_steps
  (refine stop_out (ec ?_); intro _)
  try dsimp only
  k_steps
  refine stop_out (if_joinX (LawC5 w g1 gs1 dr1 os1 PS (1 + nlc PS) tx b tb lead note l T9 D9 FA FD k0 k1 k2 k3 k4 k5 k6 k7 k8 k9 f0 f1 tfn RS i9) ?_ ?_)
  · --[
    try dsimp only
    k_steps
    · refine stop_out ?_
      refine wpAny_execs_cons ?_
      k_steps
      refine stop_out ?_
      k_dflt ((show wpAny _ _ (call (Value.ref 512) _) _ _ _); (refine' ConS.use (rest := ((a2 : Addr), tupO [.int ty u3, .str v u4, .bool e', vUC cm u5]) :: RS) (put_con hn1 hn2 hn3 hlt9.2.2.1 hX1) ?kB ?kF ?kX ?kN ?kT ?XB ?TB ?kA ?kf ?ke ?kd ?ku ?kh ?h1 ?h2 ?h3 ?_; (case kB => k_asm); (case kF => k_asm); (case kX => k_asm); (case kN => k_asm); (case kT => k_asm); (case XB => exact KX); (case TB => exact T); (case kA => exact rfl); (case kf => exact rfl); (case ke => exact rfl); (case kd => exact Nat.le_of_ble_eq_true rfl); (case ku => exact Nat.le_of_ble_eq_true rfl); (case kh => exact rfl); (case h2 => exact put_sub); (case h1 => exact fm6E eX eD eF (by k_mem) (by k_mem) (by k_mem) (by k_mem) (by k_mem) (by k_mem)); (case h3 => exact (offE hd9))); k_whole)
      intro z9 v9 led9 h9 tk9 hz8 F9 N9 hd8 R9
      refine put_use R9 N9 hd8 ?_
      clear N9 hd8 R9
      intro yX yD yF eX eD eF N9 hd8 hv9
      subst hv9
      rename_i hp8 _ _ _ tk8 _ _
      revert G Y hg KX X V GL T B TE TW M hcd K0 hD hcn hPsm hA hn1 hn2 hn3 hik hR1 hcn6 hA1 hA3 hA4 hTs hI2 hA2 hlt9 hX1 F9 eX eD eF N9 hd8
      exact hS0 hp8 tk8 h9 tk9 yX yD yF
    · ((repeat (first | (with_reducible show Mine.Fw _ _ _ _; constructor) | k_unfold | (dsimp only [WPost]) | dsimp only)); exact LawC5.mk ty v e' cm a2 u3 u4 u5 k1b uc2 q2 e2 a3 ml2 ln2 k' d' u1 u2 tuc tml tln ttx tat (frC_of (by k_asm) (by k_asm) (c5_subE eD eF) (fc rfl (fc rfl (fc rfl (fc rfl (fc rfl (fc rfl (fc rfl (fc rfl fz))))))))) hI2 (fun h => c5_le hik (hA1 h)) (fun h => ⟨(hA2 h).2.2.1, (hA2 h).2.2.2.1, (hA2 h).2.2.2.2⟩))
    · ((repeat (first | (with_reducible show Mine.Fw _ _ _ _; constructor) | k_unfold | (dsimp only [WPost]) | dsimp only)); exact LawC5.mk ty v e' cm a2 u3 u4 u5 k1b uc2 q2 e2 a3 ml2 ln2 k' d' u1 u2 tuc tml tln ttx tat (frC_of (by k_asm) (by k_asm) (c5_subE eD eF) (fc rfl (fc rfl (fc rfl (fc rfl (fc rfl (fc rfl (fc rfl (fc rfl fz))))))))) hI2 (fun h => c5_le hik (hA1 h)) (fun h => ⟨(hA2 h).2.2.1, (hA2 h).2.2.2.1, (hA2 h).2.2.2.2⟩))
    --]
  · refine c5_use ?_; intro ty v e' cm a2 u3 u4 u5 k1' uc q e a ml ln k d tk td tuc tml tln ttx tat yD yF h5 tk5 u9 eD eF mT F5 N5 hI5 hc1 hc2
    k_steps
    (refine stop_out (ec ?_); intro _)
    try dsimp only
    k_steps
    · have h0 := hc2 (by assumption)
      obtain ⟨hfin, huc, hd0⟩ := h0
      subst huc
      subst hd0
      have hln := end_lines hI5 hfin rfl
      have hea := end_again (lead := lead) (note := note) (Nat.lt_of_le_of_lt hcn (by decide)) hI5 hfin
      obtain ⟨σe, hGe⟩ := hea
      rename_i tk8 _
      revert G Y hg KX X V GL T B TE TW M hcd K0 hD hx hcC hcn hA hn1 hn2 hn3 hR1 hR3 eF N5 eD F5 hI5 hln hGe
      exact hS1 ty v e' cm a2 u3 u4 u5 k1' q e a ml ln k tk td tuc tml tln ttx tat yD yF h5 u9 tk8 σe
    · subst eD eF
      exact InvEndN.intro (by k_asm) (by k_asm) (LawJ.mk rfl (fc rfl (fc rfl (fc rfl (fc rfl (fc rfl (fc rfl (fc rfl fz))))))) hI5 (hc1 (by assumption))) rfl (end_sub hR1) (fun p hp => sub5 p (hR2 p hp))
namespace putc
noncomputable abbrev VV := (Heap) × (Nat) × (Heap) × (Nat) × (Obj) × (Obj) × (Obj)
noncomputable def PP (v : VV) : Prop := c1.c2.turn.tokc.core_S.a v.1 v.2.1 v.2.2.1 v.2.2.2.1 v.2.2.2.2.1 v.2.2.2.2.2.1 v.2.2.2.2.2.2
theorem NN : Nonempty VV := ⟨(default, 0, default, 0, instObj 0 0, instObj 0 0, instObj 0 0)⟩
@[irreducible] noncomputable def CC : VV := bad NN PP
@[irreducible] noncomputable def hp8 : Heap := CC.1
@[irreducible] noncomputable def tk8 : Nat := CC.2.1
@[irreducible] noncomputable def h9 : Heap := CC.2.2.1
@[irreducible] noncomputable def tk9 : Nat := CC.2.2.2.1
@[irreducible] noncomputable def yX : Obj := CC.2.2.2.2.1
@[irreducible] noncomputable def yD : Obj := CC.2.2.2.2.2.1
@[irreducible] noncomputable def yF : Obj := CC.2.2.2.2.2.2
set_option maxHeartbeats 20000000 in
set_option maxRecDepth 100000 in
noncomputable def core_S : Cut1 ((Nat) → (Addr) → (Int) → (Int) → (Heap) → (Nat) → (Int) → (Str) → (Bool) → (Option Str) → (Int) → (Option Str) → (Bool) → (Bool) → (Bool) → (Int) → (Int) → (Heap) → (Nat) → (Nat) → (Nat) → (Tok) → (Tok) → (Tok) → (Tok) → (Tok) → Prop) (fun p0 => (∀ (tk7 : Nat) (D7 : Addr) (k2 : Int) (d2 : Int) (hp7 : Heap) (tk8 : Nat) (ty2 : Int) (v2 : Str) (e2' : Bool) (cm2 : Option Str) (k1c : Int) (uc4 : Option Str) (q4 : Bool) (e4 : Bool) (a4 : Bool) (ml4 : Int) (ln4 : Int) (h9 : Heap) (tk9 : Nat) (b1 : Nat) (b2 : Nat) (y1 : Tok) (y2 : Tok) (y3 : Tok) (y4 : Tok) (y5 : Tok), p0 tk7 D7 k2 d2 hp7 tk8 ty2 v2 e2' cm2 k1c uc4 q4 e4 a4 ml4 ln4 h9 tk9 b1 b2 y1 y2 y3 y4 y5) → c1.c2.turn.tokc.core_S.a hp8 tk8 h9 tk9 yX yD yF) := by
  apply Cut1.mk
  case h =>
  intro hS0
  intro G Y hg KX X V GL T B TE TW M hcd K0 hD hcn hPsm hA hn1 hn2 hn3 hik hR1 hcn6 hA1 hA3 hA4 hTs hI2 hA2 hlt9 hX1 F9 eX eD eF N9 hd8
  try dsimp only
  k_steps
  (refine stop_out (ec ?_); intro _)
  try dsimp only
  k_steps
  · by_cases h25 : ty = 2 ∨ ty = 5
    · have hgm2 := get_main (lead := !(ty == 2)) (note := (ty == 2)) (Nat.lt_of_le_of_lt hcn (by decide)) hI2
      (refine fold_goal ?_; intro gG; obtain ⟨res2, σ2, k2, d2, hG2, hN2, hAf2⟩ := hgm2; k_unfold)
      refine stop_out (in25 true (by k_asm) (by k_mem) (by simp [h25]) ?_)
      try dsimp only
      k_steps
      (refine stop_out (ec ?_); intro _)
      try dsimp only
      k_steps
      (refine stop_out (ec ?_); intro _)
      try dsimp only
      cases res2 with
      | tok ty2 v2 e2' cm2 =>
        have hAt2 := hAf2 _ _ _ _ rfl
        (refine fold_goal ?_; intro gG; obtain ⟨hI3, hB1, hB2, hB3, hB4, hB5⟩ := hAt2; k_unfold)
        have hTs2 := nextM_sm hPsm hN2 _ _ _ _ rfl
        clear hAf2
        (refine fold_goal ?_; intro gG; obtain ⟨tx4, k1c, uc4, q4, e4, a4, ml4, ln4⟩ := σ2; k_unfold)
        have htx4 := hI3.tx
        dsimp only at htx4
        have htx5 := htx4.symm
        subst htx5
        clear htx4
        k_steps
        refine stop_out ?_
        k_dflt ((show wpAny _ _ (call (Value.ref 498) _) _ _ _); (refine' Con.use (next_con hI2.k0 hI2.d0 hcn6 hN2) ?kB ?kF ?kX ?kN ?kT ?kA ?kf ?ke ?kd ?ku ?kh ?h1 ?h2 ?h3 ?hP ?_; (case kB => k_asm); (case kF => k_asm); (case kX => k_asm); (case kN => k_asm); (case kT => k_asm); (case kA => exact rfl); (case kf => exact rfl); (case ke => exact rfl); (case kd => exact Nat.le_of_ble_eq_true rfl); (case ku => exact Nat.le_of_ble_eq_true rfl); (case kh => exact rfl); (case h1 => exact fun _ h => nomatch h); (case h2 => exact fun _ h => h); (case h3 => exact fun _ _ _ h => nomatch h)); (case hP => exact fun g _ hg => pcAt_sub hA hR1 sub8 hg); k_whole)
        intro z9 v9 led9 h9 tk9 hz7 F9 N9 hd7 R9
        refine next_tok_use R9 N9 hd7 ?_
        clear N9 hd7 R9
        intro b1 b2 y1 y2 y3 y4 y5 hlt2 N9 hd7 hv9
        subst hv9
        rename_i tk7 _ D7 _ _ _ _ hp7 _ _ tk8 _
        revert G Y hg KX X V GL T B TE TW M hcd K0 hD hn1 hn2 hn3 hik hR1 hA1 hI2 hlt9 hX1 eX eD eF hd8 h25 hB5 hTs2 hG2 hI3 hB2 F9 N9 hd7
        exact hS0 tk7 D7 k2 d2 hp7 tk8 ty2 v2 e2' cm2 k1c uc4 q4 e4 a4 ml4 ln4 h9 tk9 b1 b2 y1 y2 y3 y4 y5
      | syn =>
        k_steps
        refine stop_out ?_
        k_dflt ((show wpAny _ _ (call (Value.ref 498) _) _ _ _); (refine' Con.use (next_con hI2.k0 hI2.d0 hcn6 hN2) ?kB ?kF ?kX ?kN ?kT ?kA ?kf ?ke ?kd ?ku ?kh ?h1 ?h2 ?h3 ?hP ?_; (case kB => k_asm); (case kF => k_asm); (case kX => k_asm); (case kN => k_asm); (case kT => k_asm); (case kA => exact rfl); (case kf => exact rfl); (case ke => exact rfl); (case kd => exact Nat.le_of_ble_eq_true rfl); (case ku => exact Nat.le_of_ble_eq_true rfl); (case kh => exact rfl); (case h1 => exact fun _ h => nomatch h); (case h2 => exact fun _ h => h); (case h3 => exact fun _ _ _ h => nomatch h)); (case hP => exact fun g _ hg => pcAt_sub hA hR1 sub8 hg); k_whole)
        intro z9 v9 led9 h9 tk9 hz7 F9 N9 hd7 R9
        refine next_syn_use R9 N9 ?_
        clear N9 R9
        intro b1 y1 y2 y3 N9 hv9
        subst hv9
        try dsimp only
        k_steps
        (refine stop_out (ec ?_); intro _)
        try dsimp only
        k_steps
        refine stop_out ?_
        k_dflt ((show wpAny _ _ (call (Value.ref 505) _) _ _ _); (refine' ConS.use (rest := RS) (told_some hn1 hn2 hn3 hI2.ok (drops_of hlt9.2.2.1 hX1 h25) hG2) ?kB ?kF ?kX ?kN ?kT ?XB ?TB ?kA ?kf ?ke ?kd ?ku ?kh ?h1 ?h2 ?h3 ?_; (case kB => k_asm); (case kF => k_asm); (case kX => k_asm); (case kN => k_asm); (case kT => k_asm); (case XB => exact KX); (case TB => exact T); (case kA => exact rfl); (case kf => exact rfl); (case ke => exact rfl); (case kd => exact Nat.le_of_ble_eq_true rfl); (case ku => exact Nat.le_of_ble_eq_true rfl); (case kh => exact rfl); (case h2 => exact sub9); (case h1 => (dsimp only [putLed, List.cons_append, List.nil_append]; exact fm6E eX eD eF (by k_mem) (by k_mem) (by k_mem) (by k_mem) (by k_mem) (by k_mem))); (case h3 => exact (offE (fun p hp q hq => hd8 p (List.Mem.tail _ hp) q hq)))); k_whole)
        intro z9 v9 led9 h9 tk9 hz6 F9 N9 hd6 R9
        refine told_syn_use R9 N9 ?_
        clear N9 R9
        intro r3 y4 N9 hv9
        subst hv9
        try dsimp only
        k_steps
        (refine stop_out (ec ?_); intro _)
        try dsimp only
        k_steps
        (refine stop_out (ec ?_); intro _)
        try dsimp only
        k_steps
        (refine stop_out (ec ?_); intro _)
        try dsimp only
        k_steps
      | fin =>
        k_steps
        refine stop_out ?_
        k_dflt ((show wpAny _ _ (call (Value.ref 498) _) _ _ _); (refine' Con.use (next_con hI2.k0 hI2.d0 hcn6 hN2) ?kB ?kF ?kX ?kN ?kT ?kA ?kf ?ke ?kd ?ku ?kh ?h1 ?h2 ?h3 ?hP ?_; (case kB => k_asm); (case kF => k_asm); (case kX => k_asm); (case kN => k_asm); (case kT => k_asm); (case kA => exact rfl); (case kf => exact rfl); (case ke => exact rfl); (case kd => exact Nat.le_of_ble_eq_true rfl); (case ku => exact Nat.le_of_ble_eq_true rfl); (case kh => exact rfl); (case h1 => exact fun _ h => nomatch h); (case h2 => exact fun _ h => h); (case h3 => exact fun _ _ _ h => nomatch h)); (case hP => exact fun g _ hg => pcAt_sub hA hR1 sub8 hg); k_whole)
        intro z9 v9 led9 h9 tk9 hz7 F9 N9 hd7 R9
        refine next_fin_use R9 N9 ?_
        clear N9 R9
        intro b1 y1 y2 y3 N9 hv9
        subst hv9
        try dsimp only
        k_steps
        (refine stop_out (ec ?_); intro _)
        try dsimp only
        k_steps
        refine stop_out ?_
        k_dflt ((show wpAny _ _ (call (Value.ref 505) _) _ _ _); (refine' ConS.use (rest := RS) (told_some hn1 hn2 hn3 hI2.ok (drops_of hlt9.2.2.1 hX1 h25) hG2) ?kB ?kF ?kX ?kN ?kT ?XB ?TB ?kA ?kf ?ke ?kd ?ku ?kh ?h1 ?h2 ?h3 ?_; (case kB => k_asm); (case kF => k_asm); (case kX => k_asm); (case kN => k_asm); (case kT => k_asm); (case XB => exact KX); (case TB => exact T); (case kA => exact rfl); (case kf => exact rfl); (case ke => exact rfl); (case kd => exact Nat.le_of_ble_eq_true rfl); (case ku => exact Nat.le_of_ble_eq_true rfl); (case kh => exact rfl); (case h2 => exact sub9); (case h1 => (dsimp only [putLed, List.cons_append, List.nil_append]; exact fm6E eX eD eF (by k_mem) (by k_mem) (by k_mem) (by k_mem) (by k_mem) (by k_mem))); (case h3 => exact (offE (fun p hp q hq => hd8 p (List.Mem.tail _ hp) q hq)))); k_whole)
        intro z9 v9 led9 h9 tk9 hz6 F9 N9 hd6 R9
        refine told_fin_use R9 N9 ?_
        clear N9 R9
        intro r3 y4 N9 hv9
        subst hv9
        try dsimp only
        k_steps
        (refine stop_out (ec ?_); intro _)
        try dsimp only
        k_steps
        (refine stop_out (ec ?_); intro _)
        try dsimp only
        k_steps
        (refine stop_out (ec ?_); intro _)
        try dsimp only
        k_steps
    · refine stop_out (in25 false (by k_asm) (by k_mem) (by simp [h25]) ?_)
      try dsimp only
      k_steps
      (refine stop_out (ec ?_); intro _)
      try dsimp only
      k_steps
      refine stop_out ?_
      k_dflt ((show wpAny _ _ (call (Value.ref 505) _) _ _ _); (refine' Con.use (rest := ((a2 : Addr), tupO [.int ty u3, .str v u4, .bool e', vUC cm u5]) :: RS) (told_keep hn1 hn2 hn3 hlt9.2.2.1 hX1 hA3 hA4) ?kB ?kF ?kX ?kN ?kT ?kA ?kf ?ke ?kd ?ku ?kh ?h1 ?h2 ?h3 ?hP ?_; (case kB => k_asm); (case kF => k_asm); (case kX => k_asm); (case kN => k_asm); (case kT => k_asm); (case kA => exact rfl); (case kf => exact rfl); (case ke => exact rfl); (case kd => exact Nat.le_of_ble_eq_true rfl); (case ku => exact Nat.le_of_ble_eq_true rfl); (case kh => exact rfl); (case h2 => exact sub7); (case h1 => exact fm6E eX eD eF (by k_mem) (by k_mem) (by k_mem) (by k_mem) (by k_mem) (by k_mem)); (case h3 => exact (offE hd8)); (case hP => exact fun _ _ _ => trivial)); k_whole)
      intro z9 v9 led9 h9 tk9 hz7 F9 N9 hd7 R9
      refine keep_use R9 N9 ?_
      clear N9 R9
      intro r3 r4 tty2 tv2 tcm2 yX yD yF eX eD eF N9 hv9
      subst hv9
      try dsimp only
      k_steps
      (refine stop_out (ec ?_); intro _)
      try dsimp only
      k_steps
      refine stop_out (ne_tup4 (by k_asm) (by k_mem) (by k_mem) hTs.1 hTs.2 (by ke_room) ?_)
      try dsimp only
      k_steps
      (refine stop_out (ec ?_); intro _)
      try dsimp only
      k_steps
      ((repeat (first | (with_reducible show Mine.Fw _ _ _ _; constructor) | k_unfold | (dsimp only [WPost]) | dsimp only)); exact LawC5.mk ty v e' cm a2 u3 u4 u5 k1b uc2 q2 e2 a3 ml2 ln2 k' d' u1 u2 tuc tml tln ttx tat (frC_of (by k_asm) (by k_asm) (c5_subE eD eF) (fc rfl (fc rfl (fc rfl (fc rfl (fc rfl (fc rfl (fc rfl (fc rfl fz))))))))) hI2 (fun h => c5_le hik (hA1 h)) (fun h => ⟨(hA2 h).2.2.1, (hA2 h).2.2.2.1, (hA2 h).2.2.2.2⟩))
  · (refine stop_out (ec ?_); intro _)
    try dsimp only
    k_steps
    refine stop_out ?_
    k_dflt ((show wpAny _ _ (call (Value.ref 505) _) _ _ _); (refine' Con.use (rest := ((a2 : Addr), tupO [.int ty u3, .str v u4, .bool e', vUC cm u5]) :: RS) (told_keep hn1 hn2 hn3 hlt9.2.2.1 hX1 hA3 hA4) ?kB ?kF ?kX ?kN ?kT ?kA ?kf ?ke ?kd ?ku ?kh ?h1 ?h2 ?h3 ?hP ?_; (case kB => k_asm); (case kF => k_asm); (case kX => k_asm); (case kN => k_asm); (case kT => k_asm); (case kA => exact rfl); (case kf => exact rfl); (case ke => exact rfl); (case kd => exact Nat.le_of_ble_eq_true rfl); (case ku => exact Nat.le_of_ble_eq_true rfl); (case kh => exact rfl); (case h2 => exact sub6c); (case h1 => exact fm6E eX eD eF (by k_mem) (by k_mem) (by k_mem) (by k_mem) (by k_mem) (by k_mem)); (case h3 => exact (offE hd8)); (case hP => exact fun _ _ _ => trivial)); k_whole)
    intro z9 v9 led9 h9 tk9 hz7 F9 N9 hd7 R9
    refine keep_use R9 N9 ?_
    clear N9 R9
    intro r3 r4 tty2 tv2 tcm2 yX yD yF eX eD eF N9 hv9
    subst hv9
    try dsimp only
    k_steps
    (refine stop_out (ec ?_); intro _)
    try dsimp only
    k_steps
    refine stop_out (ne_tup4 (by k_asm) (by k_mem) (by k_mem) hTs.1 hTs.2 (by ke_room) ?_)
    try dsimp only
    k_steps
    (refine stop_out (ec ?_); intro _)
    try dsimp only
    k_steps
    ((repeat (first | (with_reducible show Mine.Fw _ _ _ _; constructor) | k_unfold | (dsimp only [WPost]) | dsimp only)); exact LawC5.mk ty v e' cm a2 u3 u4 u5 k1b uc2 q2 e2 a3 ml2 ln2 k' d' u1 u2 tuc tml tln ttx tat (frC_of (by k_asm) (by k_asm) (c5_subE eD eF) (fc rfl (fc rfl (fc rfl (fc rfl (fc rfl (fc rfl (fc rfl (fc rfl fz))))))))) hI2 (fun h => c5_le hik (hA1 h)) (fun h => ⟨(hA2 h).2.2.1, (hA2 h).2.2.2.1, (hA2 h).2.2.2.2⟩))
namespace agn
noncomputable abbrev VV := (Nat) × (Addr) × (Int) × (Int) × (Heap) × (Nat) × (Int) × (Str) × (Bool) × (Option Str) × (Int) × (Option Str) × (Bool) × (Bool) × (Bool) × (Int) × (Int) × (Heap) × (Nat) × (Nat) × (Nat) × (Tok) × (Tok) × (Tok) × (Tok) × (Tok)
noncomputable def PP (v : VV) : Prop := c1.c2.turn.tokc.putc.core_S.a v.1 v.2.1 v.2.2.1 v.2.2.2.1 v.2.2.2.2.1 v.2.2.2.2.2.1 v.2.2.2.2.2.2.1 v.2.2.2.2.2.2.2.1 v.2.2.2.2.2.2.2.2.1 v.2.2.2.2.2.2.2.2.2.1 v.2.2.2.2.2.2.2.2.2.2.1 v.2.2.2.2.2.2.2.2.2.2.2.1 v.2.2.2.2.2.2.2.2.2.2.2.2.1 v.2.2.2.2.2.2.2.2.2.2.2.2.2.1 v.2.2.2.2.2.2.2.2.2.2.2.2.2.2.1 v.2.2.2.2.2.2.2.2.2.2.2.2.2.2.2.1 v.2.2.2.2.2.2.2.2.2.2.2.2.2.2.2.2.1 v.2.2.2.2.2.2.2.2.2.2.2.2.2.2.2.2.2.1 v.2.2.2.2.2.2.2.2.2.2.2.2.2.2.2.2.2.2.1 v.2.2.2.2.2.2.2.2.2.2.2.2.2.2.2.2.2.2.2.1 v.2.2.2.2.2.2.2.2.2.2.2.2.2.2.2.2.2.2.2.2.1 v.2.2.2.2.2.2.2.2.2.2.2.2.2.2.2.2.2.2.2.2.2.1 v.2.2.2.2.2.2.2.2.2.2.2.2.2.2.2.2.2.2.2.2.2.2.1 v.2.2.2.2.2.2.2.2.2.2.2.2.2.2.2.2.2.2.2.2.2.2.2.1 v.2.2.2.2.2.2.2.2.2.2.2.2.2.2.2.2.2.2.2.2.2.2.2.2.1 v.2.2.2.2.2.2.2.2.2.2.2.2.2.2.2.2.2.2.2.2.2.2.2.2.2
theorem NN : Nonempty VV := ⟨(0, 0, 0, 0, default, 0, 0, default, false, none, 0, none, false, false, false, 0, 0, default, 0, 0, 0, 0, 0, 0, 0, 0)⟩
@[irreducible] noncomputable def CC : VV := bad NN PP
@[irreducible] noncomputable def k2 : Int := CC.2.2.1
@[irreducible] noncomputable def d2 : Int := CC.2.2.2.1
@[irreducible] noncomputable def tk8 : Nat := CC.2.2.2.2.2.1
@[irreducible] noncomputable def ty2 : Int := CC.2.2.2.2.2.2.1
@[irreducible] noncomputable def v2 : Str := CC.2.2.2.2.2.2.2.1
@[irreducible] noncomputable def e2' : Bool := CC.2.2.2.2.2.2.2.2.1
@[irreducible] noncomputable def cm2 : Option Str := CC.2.2.2.2.2.2.2.2.2.1
@[irreducible] noncomputable def k1c : Int := CC.2.2.2.2.2.2.2.2.2.2.1
@[irreducible] noncomputable def uc4 : Option Str := CC.2.2.2.2.2.2.2.2.2.2.2.1
@[irreducible] noncomputable def q4 : Bool := CC.2.2.2.2.2.2.2.2.2.2.2.2.1
@[irreducible] noncomputable def e4 : Bool := CC.2.2.2.2.2.2.2.2.2.2.2.2.2.1
@[irreducible] noncomputable def a4 : Bool := CC.2.2.2.2.2.2.2.2.2.2.2.2.2.2.1
@[irreducible] noncomputable def ml4 : Int := CC.2.2.2.2.2.2.2.2.2.2.2.2.2.2.2.1
@[irreducible] noncomputable def ln4 : Int := CC.2.2.2.2.2.2.2.2.2.2.2.2.2.2.2.2.1
@[irreducible] noncomputable def h9 : Heap := CC.2.2.2.2.2.2.2.2.2.2.2.2.2.2.2.2.2.1
@[irreducible] noncomputable def tk9 : Nat := CC.2.2.2.2.2.2.2.2.2.2.2.2.2.2.2.2.2.2.1
@[irreducible] noncomputable def b2 : Nat := CC.2.2.2.2.2.2.2.2.2.2.2.2.2.2.2.2.2.2.2.2.1
@[irreducible] noncomputable def y1 : Tok := CC.2.2.2.2.2.2.2.2.2.2.2.2.2.2.2.2.2.2.2.2.2.1
@[irreducible] noncomputable def y2 : Tok := CC.2.2.2.2.2.2.2.2.2.2.2.2.2.2.2.2.2.2.2.2.2.2.1
@[irreducible] noncomputable def y3 : Tok := CC.2.2.2.2.2.2.2.2.2.2.2.2.2.2.2.2.2.2.2.2.2.2.2.1
@[irreducible] noncomputable def y4 : Tok := CC.2.2.2.2.2.2.2.2.2.2.2.2.2.2.2.2.2.2.2.2.2.2.2.2.1
@[irreducible] noncomputable def y5 : Tok := CC.2.2.2.2.2.2.2.2.2.2.2.2.2.2.2.2.2.2.2.2.2.2.2.2.2
set_option maxHeartbeats 20000000 in
set_option maxRecDepth 100000 in
noncomputable def core_S : Cut1 ((Heap) → (Nat) → (Heap) → (Nat) → (Nat) → (Nat) → (Nat) → (Nat) → (Tok) → (Tok) → (Tok) → (Tok) → (Tok) → (Tok) → (Tok) → (Tok) → (Obj) → (Obj) → (Obj) → Prop) (fun p0 => (∀ (hp8 : Heap) (tk8 : Nat) (h9 : Heap) (tk9 : Nat) (r3 : Nat) (r4 : Nat) (X8 : Nat) (DX8 : Nat) (tuc3 : Tok) (tml3 : Tok) (tln3 : Tok) (ttx3 : Tok) (tat3 : Tok) (tty3 : Tok) (tv3 : Tok) (tcm3 : Tok) (yX : Obj) (yD : Obj) (yF : Obj), p0 hp8 tk8 h9 tk9 r3 r4 X8 DX8 tuc3 tml3 tln3 ttx3 tat3 tty3 tv3 tcm3 yX yD yF) → c1.c2.turn.tokc.putc.core_S.a CC.1 CC.2.1 k2 d2 CC.2.2.2.2.1 tk8 ty2 v2 e2' cm2 k1c uc4 q4 e4 a4 ml4 ln4 h9 tk9 CC.2.2.2.2.2.2.2.2.2.2.2.2.2.2.2.2.2.2.2.1 b2 y1 y2 y3 y4 y5) := by
  apply Cut1.mk
  case h =>
  intro hS0
  intro G Y hg KX X V GL T B TE TW M hcd K0 hD hn1 hn2 hn3 hik hR1 hA1 hI2 hlt9 hX1 eX eD eF hd8 h25 hB5 hTs2 hG2 hI3 hB2 F9 N9 hd7
  try dsimp only
  k_steps
  (refine stop_out (ec ?_); intro _)
  try dsimp only
  k_steps
  refine stop_out ?_
  k_dflt ((show wpAny _ _ (call (Value.ref 505) _) _ _ _); (refine' ConS.use (rest := ((b2 : Addr), tupO [.int ty2 y3, .str v2 y4, .bool e2', vUC cm2 y5]) :: RS) (told_some hn1 hn2 hn3 hI2.ok (drops_of hlt9.2.2.1 hX1 h25) hG2) ?kB ?kF ?kX ?kN ?kT ?XB ?TB ?kA ?kf ?ke ?kd ?ku ?kh ?h1 ?h2 ?h3 ?_; (case kB => k_asm); (case kF => k_asm); (case kX => k_asm); (case kN => k_asm); (case kT => k_asm); (case XB => exact KX); (case TB => exact T); (case kA => exact rfl); (case kf => exact rfl); (case ke => exact rfl); (case kd => exact Nat.le_of_ble_eq_true rfl); (case ku => exact Nat.le_of_ble_eq_true rfl); (case kh => exact rfl); (case h2 => exact sub2); (case h1 => (dsimp only [putLed, List.cons_append, List.nil_append]; exact fm6E eX eD eF (by k_mem) (by k_mem) (by k_mem) (by k_mem) (by k_mem) (by k_mem))); (case h3 => exact (offE (off6 (fun p hp => hd7 p (List.Mem.tail _ hp)) hd8)))); k_whole)
  intro z9 v9 led9 h9 tk9 hz6 F9 N9 hd6 R9
  refine told_tok_use R9 N9 hd6 ?_
  clear N9 hd6 R9
  intro r3 r4 X8 DX8 tuc3 tml3 tln3 ttx3 tat3 s0' s1' s2' s3' tty3 tv3 tcm3 yX yD yF eX eD eF hlt8 hX4 hX5 hX6 N9 hd6 hv9
  subst hv9
  rename_i hp8 _ _ tk8
  revert G Y hg KX X V GL T B TE TW M hcd K0 hD hik hA1 h25 hB5 hTs2 hI3 hB2 F9 eD eF N9
  exact hS0 hp8 tk8 h9 tk9 r3 r4 X8 DX8 tuc3 tml3 tln3 ttx3 tat3 tty3 tv3 tcm3 yX yD yF
namespace agn2
noncomputable abbrev VV := (Heap) × (Nat) × (Heap) × (Nat) × (Nat) × (Nat) × (Nat) × (Nat) × (Tok) × (Tok) × (Tok) × (Tok) × (Tok) × (Tok) × (Tok) × (Tok) × (Obj) × (Obj) × (Obj)
noncomputable def PP (v : VV) : Prop := c1.c2.turn.tokc.putc.agn.core_S.a v.1 v.2.1 v.2.2.1 v.2.2.2.1 v.2.2.2.2.1 v.2.2.2.2.2.1 v.2.2.2.2.2.2.1 v.2.2.2.2.2.2.2.1 v.2.2.2.2.2.2.2.2.1 v.2.2.2.2.2.2.2.2.2.1 v.2.2.2.2.2.2.2.2.2.2.1 v.2.2.2.2.2.2.2.2.2.2.2.1 v.2.2.2.2.2.2.2.2.2.2.2.2.1 v.2.2.2.2.2.2.2.2.2.2.2.2.2.1 v.2.2.2.2.2.2.2.2.2.2.2.2.2.2.1 v.2.2.2.2.2.2.2.2.2.2.2.2.2.2.2.1 v.2.2.2.2.2.2.2.2.2.2.2.2.2.2.2.2.1 v.2.2.2.2.2.2.2.2.2.2.2.2.2.2.2.2.2.1 v.2.2.2.2.2.2.2.2.2.2.2.2.2.2.2.2.2.2
theorem NN : Nonempty VV := ⟨(default, 0, default, 0, 0, 0, 0, 0, 0, 0, 0, 0, 0, 0, 0, 0, instObj 0 0, instObj 0 0, instObj 0 0)⟩
@[irreducible] noncomputable def CC : VV := bad NN PP
@[irreducible] noncomputable def tuc3 : Tok := CC.2.2.2.2.2.2.2.2.1
@[irreducible] noncomputable def tml3 : Tok := CC.2.2.2.2.2.2.2.2.2.1
@[irreducible] noncomputable def tln3 : Tok := CC.2.2.2.2.2.2.2.2.2.2.1
@[irreducible] noncomputable def ttx3 : Tok := CC.2.2.2.2.2.2.2.2.2.2.2.1
@[irreducible] noncomputable def tat3 : Tok := CC.2.2.2.2.2.2.2.2.2.2.2.2.1
set_option maxHeartbeats 20000000 in
set_option maxRecDepth 100000 in
theorem core : c1.c2.turn.tokc.putc.agn.core_S.a CC.1 CC.2.1 CC.2.2.1 CC.2.2.2.1 CC.2.2.2.2.1 CC.2.2.2.2.2.1 CC.2.2.2.2.2.2.1 CC.2.2.2.2.2.2.2.1 tuc3 tml3 tln3 ttx3 tat3 CC.2.2.2.2.2.2.2.2.2.2.2.2.2.1 CC.2.2.2.2.2.2.2.2.2.2.2.2.2.2.1 CC.2.2.2.2.2.2.2.2.2.2.2.2.2.2.2.1 CC.2.2.2.2.2.2.2.2.2.2.2.2.2.2.2.2.1 CC.2.2.2.2.2.2.2.2.2.2.2.2.2.2.2.2.2.1 CC.2.2.2.2.2.2.2.2.2.2.2.2.2.2.2.2.2.2 := by
  intro G Y hg KX X V GL T B TE TW M hcd K0 hD hik hA1 h25 hB5 hTs2 hI3 hB2 F9 eD eF N9
  try dsimp only
  k_steps
  (refine stop_out (ec ?_); intro _)
  try dsimp only
  k_steps
  refine stop_out (ne_tup4 (by k_asm) (by k_mem) (by k_mem) hTs2.1 hTs2.2 (by ke_room) ?_)
  try dsimp only
  k_steps
  (refine stop_out (ec ?_); intro _)
  try dsimp only
  k_steps
  ((repeat (first | (with_reducible show Mine.Fw _ _ _ _; constructor) | k_unfold | (dsimp only [WPost]) | dsimp only)); exact LawC5.mk ty2 v2 e2' cm2 b2 y3 y4 y5 k1c uc4 q4 e4 a4 ml4 ln4 k2 d2 y1 y2 tuc3 tml3 tln3 ttx3 tat3 (frC_of (by k_asm) (by k_asm) (c5_subE eD eF) (fc rfl (fc rfl (fc rfl (fc rfl (fc rfl (fc rfl (fc rfl (fc rfl fz))))))))) hI3 (fun _ => c5_le2 hik (hA1 (ne_zero25 h25)) hB5) (fun h => ⟨(hB2 h).2.2.1, (hB2 h).2.2.2.1, (hB2 h).2.2.2.2⟩))
theorem over (v : VV) : PP v := by
  with_unfolding_all exact bad_all (hn := NN) (P := PP) core v
end agn2
theorem core : c1.c2.turn.tokc.putc.core_S.a CC.1 CC.2.1 k2 d2 CC.2.2.2.2.1 tk8 ty2 v2 e2' cm2 k1c uc4 q4 e4 a4 ml4 ln4 h9 tk9 CC.2.2.2.2.2.2.2.2.2.2.2.2.2.2.2.2.2.2.2.1 b2 y1 y2 y3 y4 y5 := core_S.h (fun hp8 tk8 h9 tk9 r3 r4 X8 DX8 tuc3 tml3 tln3 ttx3 tat3 tty3 tv3 tcm3 yX yD yF => agn2.over (hp8, tk8, h9, tk9, r3, r4, X8, DX8, tuc3, tml3, tln3, ttx3, tat3, tty3, tv3, tcm3, yX, yD, yF) )
theorem over (v : VV) : PP v := by
  with_unfolding_all exact bad_all (hn := NN) (P := PP) core v
end agn
theorem core : c1.c2.turn.tokc.core_S.a hp8 tk8 h9 tk9 yX yD yF := core_S.h (fun tk7 D7 k2 d2 hp7 tk8 ty2 v2 e2' cm2 k1c uc4 q4 e4 a4 ml4 ln4 h9 tk9 b1 b2 y1 y2 y3 y4 y5 => agn.over (tk7, D7, k2, d2, hp7, tk8, ty2, v2, e2', cm2, k1c, uc4, q4, e4, a4, ml4, ln4, h9, tk9, b1, b2, y1, y2, y3, y4, y5) )
theorem over (v : VV) : PP v := by
  with_unfolding_all exact bad_all (hn := NN) (P := PP) core v
end putc
namespace fin
noncomputable abbrev VV := (Int) × (Str) × (Bool) × (Option Str) × (Nat) × (Tok) × (Tok) × (Tok) × (Int) × (Bool) × (Bool) × (Bool) × (Int) × (Int) × (Tok) × (Tok) × (Tok) × (Tok) × (Tok) × (Tok) × (Tok) × (Heap) × (Str → Option Value) × (Nat) × (TS)
noncomputable def PP (v : VV) : Prop := ∀ (ln : Int) (yD : Obj) (yF : Obj), c1.c2.turn.tokc.core_S.b v.1 v.2.1 v.2.2.1 v.2.2.2.1 v.2.2.2.2.1 v.2.2.2.2.2.1 v.2.2.2.2.2.2.1 v.2.2.2.2.2.2.2.1 v.2.2.2.2.2.2.2.2.1 v.2.2.2.2.2.2.2.2.2.1 v.2.2.2.2.2.2.2.2.2.2.1 v.2.2.2.2.2.2.2.2.2.2.2.1 v.2.2.2.2.2.2.2.2.2.2.2.2.1 ln v.2.2.2.2.2.2.2.2.2.2.2.2.2.1 v.2.2.2.2.2.2.2.2.2.2.2.2.2.2.1 v.2.2.2.2.2.2.2.2.2.2.2.2.2.2.2.1 v.2.2.2.2.2.2.2.2.2.2.2.2.2.2.2.2.1 v.2.2.2.2.2.2.2.2.2.2.2.2.2.2.2.2.2.1 v.2.2.2.2.2.2.2.2.2.2.2.2.2.2.2.2.2.2.1 v.2.2.2.2.2.2.2.2.2.2.2.2.2.2.2.2.2.2.2.1 v.2.2.2.2.2.2.2.2.2.2.2.2.2.2.2.2.2.2.2.2.1 yD yF v.2.2.2.2.2.2.2.2.2.2.2.2.2.2.2.2.2.2.2.2.2.1 v.2.2.2.2.2.2.2.2.2.2.2.2.2.2.2.2.2.2.2.2.2.2.1 v.2.2.2.2.2.2.2.2.2.2.2.2.2.2.2.2.2.2.2.2.2.2.2.1 v.2.2.2.2.2.2.2.2.2.2.2.2.2.2.2.2.2.2.2.2.2.2.2.2
theorem NN : Nonempty VV := ⟨(0, default, false, none, 0, 0, 0, 0, 0, false, false, false, 0, 0, 0, 0, 0, 0, 0, 0, 0, default, fun _ => none, 0, ⟨default, 0, none, false, false, false, 0, 0⟩)⟩
@[irreducible] noncomputable def CC : VV := bad NN PP
@[irreducible] noncomputable def tk : Tok := CC.2.2.2.2.2.2.2.2.2.2.2.2.2.2.1
set_option maxHeartbeats 20000000 in
set_option maxRecDepth 100000 in
noncomputable def core_S : Cut1 ((Int) → (Obj) → (Obj) → (Tok) → (Heap) → (Nat) → (Str → Option Value) → Prop) (fun p0 => (∀ (ln : Int) (yD : Obj) (yF : Obj) (t5 : Tok) (h6 : Heap) (tk6 : Nat) (u6 : Str → Option Value), p0 ln yD yF t5 h6 tk6 u6) → ∀ (ln : Int) (yD : Obj) (yF : Obj), c1.c2.turn.tokc.core_S.b CC.1 CC.2.1 CC.2.2.1 CC.2.2.2.1 CC.2.2.2.2.1 CC.2.2.2.2.2.1 CC.2.2.2.2.2.2.1 CC.2.2.2.2.2.2.2.1 CC.2.2.2.2.2.2.2.2.1 CC.2.2.2.2.2.2.2.2.2.1 CC.2.2.2.2.2.2.2.2.2.2.1 CC.2.2.2.2.2.2.2.2.2.2.2.1 CC.2.2.2.2.2.2.2.2.2.2.2.2.1 ln CC.2.2.2.2.2.2.2.2.2.2.2.2.2.1 tk CC.2.2.2.2.2.2.2.2.2.2.2.2.2.2.2.1 CC.2.2.2.2.2.2.2.2.2.2.2.2.2.2.2.2.1 CC.2.2.2.2.2.2.2.2.2.2.2.2.2.2.2.2.2.1 CC.2.2.2.2.2.2.2.2.2.2.2.2.2.2.2.2.2.2.1 CC.2.2.2.2.2.2.2.2.2.2.2.2.2.2.2.2.2.2.2.1 CC.2.2.2.2.2.2.2.2.2.2.2.2.2.2.2.2.2.2.2.2.1 yD yF CC.2.2.2.2.2.2.2.2.2.2.2.2.2.2.2.2.2.2.2.2.2.1 CC.2.2.2.2.2.2.2.2.2.2.2.2.2.2.2.2.2.2.2.2.2.2.1 CC.2.2.2.2.2.2.2.2.2.2.2.2.2.2.2.2.2.2.2.2.2.2.2.1 CC.2.2.2.2.2.2.2.2.2.2.2.2.2.2.2.2.2.2.2.2.2.2.2.2) := by
  apply Cut1.mk
  case h =>
  intro hS0
  intro ln yD yF G Y hg KX X V GL T B TE TW M hcd K0 hD hx hcC hcn hA hn1 hn2 hn3 hR1 hR3 eF N5 eD F5 hI5 hln hGe
  refine stop_out (if_joinX (LawCx g1 gs1 dr1 os1 (fun t => [(Str.ofString "lead", Value.bool lead), (Str.ofString "note", .bool note), (Str.ofString "pieces", .ref l), (Str.ofString "tokens", .ref T9), (Str.ofString "lines", .int ((lineVals PS).length : Int) t)]) (((T9 : Addr), instObj 451 D9) :: ((D9 : Addr), yD) :: ((FA : Addr), instObj 84 FD) :: ((FD : Addr), yF) :: RS)) ?_ ?_)
  · try dsimp only
    k_steps
    refine stop_out ?_
    refine LCt.ListComp_T (F₀ := by k_asm) (by with_unfolding_all rfl) (by decide) (by rfl) (by decide) (by rfl) ?_
    try dsimp only
    k_steps
    refine stop_out ?_
    refine LCt.CompSrcT.ledger (by rfl) (by k_asm) (by k_asm) (sub5 _ (hR1 _ (List.Mem.head _))) (pl_size hA hcn) ?_
    intro g'
    refine rest_test (fun p => p.kind == Str.ofString "line") (fun _ _ => True) hA (fun p hp => sub5 p (hR1 p (List.Mem.tail _ hp))) ?_ ?_
    · intro a9 p9 t1 t2 I' oI' C' oC' D' m' ys' h' tk' E' hT' hC' hx' F' N' off' ne'
      try dsimp only
      k_steps
      · exact LCg.CompEnd.intro (by k_asm) (by k_asm) _ (fun _ h => h) off' (.inr ⟨_, sub5 _ (hR1 _ (List.Mem.head _)), rfl, _, rfl⟩) ⟨rfl, by first | with_reducible assumption | exact beq_iff_eq.mpr (by assumption), True.intro⟩
      · exact LCg.CompEnd.intro (by k_asm) (by k_asm) _ (fun _ h => h) off' (.inr ⟨_, sub5 _ (hR1 _ (List.Mem.head _)), rfl, _, rfl⟩) ⟨rfl, by first | with_reducible assumption | exact beq_eq_false_iff_ne.mpr (by assumption)⟩
    · intro ys hy D h tk F9 N9 off9
      try dsimp only
      walk1
      refine len_lines N9 (List.Mem.head _) hy hcn ?_
      intro t9 k9'
      try dsimp only
      walk1
      (repeat (first | (with_reducible show Mine.Fw _ _ _ _; constructor) | k_unfold | (dsimp only [WPost]) | dsimp only))
      exact ⟨_, frC_of (by k_asm) (by k_asm) (fun p hp => List.Mem.tail _ (List.Mem.tail _ hp)) (fc rfl (fc rfl (fc rfl (fc rfl (fc rfl fz)))))⟩
  · refine cx_use ?_; intro t5 h6 tk6 u6 F6 N6
    revert G Y hg KX X V GL T B TE TW M hcd K0 hD hx hcC hcn hA hn1 hn2 hn3 hR1 hR3 eF eD hI5 hln hGe F6 N6
    exact hS0 ln yD yF t5 h6 tk6 u6
namespace fin2
noncomputable abbrev VV := (Tok) × (Heap) × (Nat) × (Str → Option Value)
noncomputable def PP (v : VV) : Prop := ∀ (ln : Int) (yD : Obj) (yF : Obj), c1.c2.turn.tokc.fin.core_S.a ln yD yF v.1 v.2.1 v.2.2.1 v.2.2.2
theorem NN : Nonempty VV := ⟨(0, default, 0, fun _ => none)⟩
@[irreducible] noncomputable def CC : VV := bad NN PP
@[irreducible] noncomputable def t5 : Tok := CC.1
set_option maxHeartbeats 20000000 in
set_option maxRecDepth 100000 in
noncomputable def core_S : Cut1 ((Int) → (Obj) → (Obj) → (Tok) → (Heap) → (Nat) → (Str → Option Value) → Prop) (fun p0 => (∀ (ln : Int) (yD : Obj) (yF : Obj) (t6 : Tok) (h7 : Heap) (tk7 : Nat) (u7 : Str → Option Value), p0 ln yD yF t6 h7 tk7 u7) → ∀ (ln : Int) (yD : Obj) (yF : Obj), c1.c2.turn.tokc.fin.core_S.a ln yD yF t5 CC.2.1 CC.2.2.1 CC.2.2.2) := by
  apply Cut1.mk
  case h =>
  intro hS0
  intro ln yD yF G Y hg KX X V GL T B TE TW M hcd K0 hD hx hcC hcn hA hn1 hn2 hn3 hR1 hR3 eF eD hI5 hln hGe F6 N6
  k_steps
  refine stop_out (if_joinX (LawCx g1 gs1 dr1 os1 (fun t => [(Str.ofString "lead", Value.bool lead), (Str.ofString "note", .bool note), (Str.ofString "tokens", .ref T9), (Str.ofString "lines", .int ((lineVals PS).length : Int) t5), (Str.ofString "strings", .str (Txt.join (Str.ofString "") (strVals PS)) t)]) (((T9 : Addr), instObj 451 D9) :: ((D9 : Addr), yD) :: ((FA : Addr), instObj 84 FD) :: ((FD : Addr), yF) :: RS)) ?_ ?_)
  · try dsimp only
    k_steps
    refine stop_out ?_
    refine LCt.ListComp_T (F₀ := by k_asm) (by with_unfolding_all rfl) (by decide) (by rfl) (by decide) (by rfl) ?_
    try dsimp only
    k_steps
    refine stop_out ?_
    refine LCt.CompSrcT.ledger (by rfl) (by k_asm) (by k_asm) (sub4 _ (hR1 _ (List.Mem.head _))) (pl_size hA hcn) ?_
    intro g'
    refine rest_test (fun p => p.kind == Str.ofString "string") (fun p y => ∃ t, y = .str p.val t) hA (fun p hp => sub4 p (hR1 p (List.Mem.tail _ hp))) ?_ ?_
    · intro a9 p9 t1 t2 I' oI' C' oC' D' m' ys' h' tk' E' hT' hC' hx' F' N' off' ne'
      try dsimp only
      k_steps
      · exact LCg.CompEnd.intro (by k_asm) (by k_asm) _ (fun _ h => h) off' (.inr ⟨_, sub4 _ (hR1 _ (List.Mem.head _)), rfl, _, rfl⟩) ⟨rfl, by first | with_reducible assumption | exact beq_iff_eq.mpr (by assumption), ⟨_, rfl⟩⟩
      · exact LCg.CompEnd.intro (by k_asm) (by k_asm) _ (fun _ h => h) off' (.inr ⟨_, sub4 _ (hR1 _ (List.Mem.head _)), rfl, _, rfl⟩) ⟨rfl, by first | with_reducible assumption | exact beq_eq_false_iff_ne.mpr (by assumption)⟩
    · intro ys hy D h tk F9 N9 off9
      try dsimp only
      walk1
      refine join_strs N9 (List.Mem.head _) hy hcC (tl_len hx) ?_
      intro t9 k9'
      try dsimp only
      walk1
      (repeat (first | (with_reducible show Mine.Fw _ _ _ _; constructor) | k_unfold | (dsimp only [WPost]) | dsimp only))
      exact ⟨_, frC_of (by k_asm) (by k_asm) (fun p hp => List.Mem.tail _ hp) (fc rfl (fc rfl (fc rfl (fc rfl (fc rfl fz)))))⟩
  · refine cx_use ?_; intro t6 h7 tk7 u7 F7 N7
    revert G Y hg KX X V GL T B TE TW M hcd K0 hD hn1 hn2 hn3 hR1 hR3 eF eD hI5 hln hGe F7 N7
    exact hS0 ln yD yF t6 h7 tk7 u7
namespace fin3
noncomputable abbrev VV := (Tok) × (Heap) × (Nat) × (Str → Option Value)
noncomputable def PP (v : VV) : Prop := ∀ (ln : Int) (yD : Obj) (yF : Obj), c1.c2.turn.tokc.fin.fin2.core_S.a ln yD yF v.1 v.2.1 v.2.2.1 v.2.2.2
theorem NN : Nonempty VV := ⟨(0, default, 0, fun _ => none)⟩
@[irreducible] noncomputable def CC : VV := bad NN PP
set_option maxHeartbeats 20000000 in
set_option maxRecDepth 100000 in
theorem core : ∀ (ln : Int) (yD : Obj) (yF : Obj), c1.c2.turn.tokc.fin.fin2.core_S.a ln yD yF CC.1 CC.2.1 CC.2.2.1 CC.2.2.2 := by
  intro ln yD yF G Y hg KX X V GL T B TE TW M hcd K0 hD hn1 hn2 hn3 hR1 hR3 eF eD hI5 hln hGe F7 N7
  dsimp only at hln
  have hln2 := ln_eq hln
  subst hln2
  subst eD eF
  k_steps
  (refine stop_out (ec ?_); intro _)
  try dsimp only
  k_steps
  refine stop_out ?_
  k_dflt ((show wpAny _ _ (call (Value.ref 242) _) _ _ _); (refine' Con.use (rest := RS) (where_con hn1 hn2 hn3) ?kB ?kF ?kX ?kN ?kT ?kA ?kf ?ke ?kd ?ku ?kh ?h1 ?h2 ?h3 ?hP ?_; (case kB => k_asm); (case kF => k_asm); (case kX => k_asm); (case kN => k_asm); (case kT => k_asm); (case kA => exact rfl); (case kf => exact rfl); (case ke => exact rfl); (case kd => exact Nat.le_of_ble_eq_true rfl); (case ku => exact Nat.le_of_ble_eq_true rfl); (case kh => exact rfl); (case h2 => exact sub4); (case h1 => exact fm4 (by k_mem) (by k_mem) (by k_mem) (by k_mem)); (case h3 => exact (tokOff_led hR3)); (case hP => exact fun _ _ _ => trivial)); k_whole)
  intro z9 v9 led9 h9 tk9 hz7 F9 N9 hd7 R9
  refine where_use R9 N9 ?_
  clear N9 R9
  intro r9 yD yF eD eF N9 hv9
  subst hv9
  try dsimp only
  k_steps
  refine stop_out (count_nl ?_)
  intro t7 k7'
  try dsimp only
  k_steps
  refine stop_out (ne_tup2 (by k_asm) (by k_mem) (by k_mem) sm_file (by ke_room) ?_)
  try dsimp only
  k_steps
  (refine stop_out (ec ?_); intro _)
  try dsimp only
  k_steps
  refine stop_out ?_
  k_dflt ((show wpAny _ _ (call (Value.ref 505) _) _ _ _); (refine' ConS.use (rest := RS) (told_none hn1 hn2 hn3 hI5.ok hGe) ?kB ?kF ?kX ?kN ?kT ?XB ?TB ?kA ?kf ?ke ?kd ?ku ?kh ?h1 ?h2 ?h3 ?_; (case kB => k_asm); (case kF => k_asm); (case kX => k_asm); (case kN => k_asm); (case kT => k_asm); (case XB => exact KX); (case TB => exact T); (case kA => exact rfl); (case kf => exact rfl); (case ke => exact rfl); (case kd => exact Nat.le_of_ble_eq_true rfl); (case ku => exact Nat.le_of_ble_eq_true rfl); (case kh => exact rfl); (case h2 => exact sub6c); (case h1 => exact fm4E eD eF (by k_mem) (by k_mem) (by k_mem) (by k_mem)); (case h3 => exact (tokOff_led hR3))); k_whole)
  intro z9 v9 led9 h9 tk9 hz9 F9 N9 hd9 R9
  refine told_tok_use R9 N9 hd9 ?_
  clear N9 hd9 R9
  intro r1 r2 X9 DX tuc' tml' tln' ttx' tat' t0 t1 t2 t3 tty tv tcm yX yD yF eX eD eF hlt9 hX1 hX2 hX3 N9 hd9 hv9
  subst hv9
  try dsimp only
  k_steps
  refine stop_out (eq_tup4 (by k_asm) (by k_mem) (reads_tuple_at (News.get (by k_asm) (by k_mem)) rfl rfl (.cons (.int _ _) (.cons (.str _ _) (.cons (.bool _) (.cons .none .nil))))) sm_nil (by ke_room) ?_)
  try dsimp only
  k_steps
theorem over (v : VV) : PP v := by
  with_unfolding_all exact bad_all (hn := NN) (P := PP) core v
end fin3
theorem core : ∀ (ln : Int) (yD : Obj) (yF : Obj), c1.c2.turn.tokc.fin.core_S.a ln yD yF t5 CC.2.1 CC.2.2.1 CC.2.2.2 := core_S.h (fun ln yD yF t6 h7 tk7 u7 => fin3.over (t6, h7, tk7, u7) ln yD yF)
theorem over (v : VV) : PP v := by
  with_unfolding_all exact bad_all (hn := NN) (P := PP) core v
end fin2
theorem core : ∀ (ln : Int) (yD : Obj) (yF : Obj), c1.c2.turn.tokc.core_S.b CC.1 CC.2.1 CC.2.2.1 CC.2.2.2.1 CC.2.2.2.2.1 CC.2.2.2.2.2.1 CC.2.2.2.2.2.2.1 CC.2.2.2.2.2.2.2.1 CC.2.2.2.2.2.2.2.2.1 CC.2.2.2.2.2.2.2.2.2.1 CC.2.2.2.2.2.2.2.2.2.2.1 CC.2.2.2.2.2.2.2.2.2.2.2.1 CC.2.2.2.2.2.2.2.2.2.2.2.2.1 ln CC.2.2.2.2.2.2.2.2.2.2.2.2.2.1 tk CC.2.2.2.2.2.2.2.2.2.2.2.2.2.2.2.1 CC.2.2.2.2.2.2.2.2.2.2.2.2.2.2.2.2.1 CC.2.2.2.2.2.2.2.2.2.2.2.2.2.2.2.2.2.1 CC.2.2.2.2.2.2.2.2.2.2.2.2.2.2.2.2.2.2.1 CC.2.2.2.2.2.2.2.2.2.2.2.2.2.2.2.2.2.2.2.1 CC.2.2.2.2.2.2.2.2.2.2.2.2.2.2.2.2.2.2.2.2.1 yD yF CC.2.2.2.2.2.2.2.2.2.2.2.2.2.2.2.2.2.2.2.2.2.1 CC.2.2.2.2.2.2.2.2.2.2.2.2.2.2.2.2.2.2.2.2.2.2.1 CC.2.2.2.2.2.2.2.2.2.2.2.2.2.2.2.2.2.2.2.2.2.2.2.1 CC.2.2.2.2.2.2.2.2.2.2.2.2.2.2.2.2.2.2.2.2.2.2.2.2 := core_S.h (fun ln yD yF t5 h6 tk6 u6 => fin2.over (t5, h6, tk6, u6) ln yD yF)
theorem over (v : VV) : PP v := by
  with_unfolding_all exact bad_all (hn := NN) (P := PP) core v
end fin
theorem core : c1.c2.turn.core_S.a k' d' ty v e' cm k1b uc2 q2 e2 a3 ml2 ln2 a2 u1 u2 u3 u4 u5 hp8 tk8 h9 tk9 r1 r2 X9 DX tuc tml tln ttx tat t0 t1 t2 t3 tty tv tcm yX yD yF := core_S.h (fun hp8 tk8 h9 tk9 yX yD yF => putc.over (hp8, tk8, h9, tk9, yX, yD, yF) ) (fun ty v e' cm a2 u3 u4 u5 k1' q e a ml ln k tk td tuc tml tln ttx tat yD yF h5 u9 tk8 σe => fin.over (ty, v, e', cm, a2, u3, u4, u5, k1', q, e, a, ml, k, tk, td, tuc, tml, tln, ttx, tat, h5, u9, tk8, σe) ln yD yF)
theorem over (v : VV) : PP v := by
  with_unfolding_all exact bad_all (hn := NN) (P := PP) core v
end tokc
theorem core : c1.c2.core_S.a CC.1 CC.2.1 CC.2.2.1 CC.2.2.2.1 i9 CC.2.2.2.2.2.1 h9 tk9 CC.2.2.2.2.2.2.2.2.1 k1' uc q e a ml ln k d tk td tuc tml tln ttx tat yD yF RS := core_S.h (fun k' d' ty v e' cm k1b uc2 q2 e2 a3 ml2 ln2 a2 u1 u2 u3 u4 u5 hp8 tk8 h9 tk9 r1 r2 X9 DX tuc tml tln ttx tat t0 t1 t2 t3 tty tv tcm yX yD yF => tokc.over (k', d', ty, v, e', cm, k1b, uc2, q2, e2, a3, ml2, ln2, a2, u1, u2, u3, u4, u5, hp8, tk8, h9, tk9, r1, r2, X9, DX, tuc, tml, tln, ttx, tat, t0, t1, t2, t3, tty, tv, tcm, yX, yD, yF) )
theorem over (v : VV) : PP v := by
  with_unfolding_all exact bad_all (hn := NN) (P := PP) core v
end turn
theorem core : c1.core_S.a b tb lead note l PL nn T9 D9 FA FD k0 k1 k2 k3 k4 k5 k6 k7 k8 k9 f0 f1 tml tln tfn ttx tat CC.2.2.2.2.2.2.2.2.2.2.2.2.2.2.2.2.2.2.2.2.2.2.2.2.2.2.2.2.1 CC.2.2.2.2.2.2.2.2.2.2.2.2.2.2.2.2.2.2.2.2.2.2.2.2.2.2.2.2.2.1 u4 := core_S.h (fun hr9 tkr9 tn9 tt9 i9 m9 h9 tk9 own k1' uc q e a ml ln k d tk td tuc tml tln ttx tat yD yF RS => turn.over (hr9, tkr9, tn9, tt9, i9, m9, h9, tk9, own, k1', uc, q, e, a, ml, ln, k, d, tk, td, tuc, tml, tln, ttx, tat, yD, yF, RS) )
theorem over (v : VV) : PP v := by
  with_unfolding_all exact bad_all (hn := NN) (P := PP) core v
end c2
theorem core : law0_S.a w CC.2.1 CC.2.2.1 CC.2.2.2.1 CC.2.2.2.2.1 CC.2.2.2.2.2.1 CC.2.2.2.2.2.2.1 CC.2.2.2.2.2.2.2.1 CC.2.2.2.2.2.2.2.2.1 CC.2.2.2.2.2.2.2.2.2.1 g1 gs1 dr1 CC.2.2.2.2.2.2.2.2.2.2.2.2.2.1 os1 b tb lead note tx CC.2.2.2.2.2.2.2.2.2.2.2.2.2.2.2.2.2.2.2.2.1 h3 CC.2.2.2.2.2.2.2.2.2.2.2.2.2.2.2.2.2.2.2.2.2.2.1 u3 PS := core_S.h (fun b tb lead note l PL nn T9 D9 FA FD k0 k1 k2 k3 k4 k5 k6 k7 k8 k9 f0 f1 tml tln tfn ttx tat h4 tk4 u4 => c2.over (b, tb, lead, note, l, PL, nn, T9, D9, FA, FD, k0, k1, k2, k3, k4, k5, k6, k7, k8, k9, f0, f1, tml, tln, tfn, ttx, tat, h4, tk4, u4) )
theorem over (v : VV) : PP v := by
  with_unfolding_all exact bad_all (hn := NN) (P := PP) core v
end c1
theorem law0 : PySem.Challenge.rw_jf0021_01.Holds := law0_S.h (fun w s0 mg mb fa kV w1 w2 w3 ns g1 gs1 dr1 tq1 os1 b tb lead note tx tt h3 tk3 u3 PS => c1.over (w, s0, mg, mb, fa, kV, w1, w2, w3, ns, g1, gs1, dr1, tq1, os1, b, tb, lead, note, tx, tt, h3, tk3, u3, PS) )
end
end Mine
end

set_option maxRecDepth 100000 in
set_option maxHeartbeats 8000000 in
theorem PySem.Challenge.cw_jf0021_01_holds : PySem.Challenge.rw_jf0021_01.Holds := by
  exact Mine.law0
