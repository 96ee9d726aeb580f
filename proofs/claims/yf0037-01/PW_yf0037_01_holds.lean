import PyProof.Rows.All
import Wide.All
import OpenK.AllK
import Wide.FinOn
import Lean
import PySem.Challenge.RW_yf0037_01
open PySem PySem.W PyProof.Rows PySem.Calls
set_option Elab.async false
set_option maxRecDepth 100000
set_option maxHeartbeats 4000000
set_option compiler.extract_closed false
namespace Mine
/-- a list of objects laid as a tree -/
noncomputable def layT : BT → Nat → List Obj → Option (BT × Nat)
  | t, n, [] => some (t, n)
  | t, n, o :: r => match ((t.ins n o).get n).isSome with
    | true => layT (t.ins n o) (n + 1) r
    | false => none
theorem layT_spec {life : Life} : ∀ (l : List Obj) (t t' : BT) (n n' : Nat) (h : Array Obj), layT t n l = some (t', n') → absHeap t n life = ⟨h, life⟩ → absHeap t' n' life = ⟨h ++ l.toArray, life⟩
  | [], t, t', n, n', h, e, k => by cases e; simpa using k
  | o :: r, t, t', n, n', h, e, k => by
    unfold layT at e
    cases q : ((t.ins n o).get n).isSome with
    | false => rw [q] at e; cases e
    | true =>
      rw [q] at e
      have := layT_spec r _ _ _ _ (h.push o) e (by rw [absHeap_ins q, k]; rfl)
      simpa using this
noncomputable def treeOf (s : Shared) : Option SharedT := match s with
  | ⟨⟨⟨l⟩, life⟩, gens, drawn, toks, os⟩ => match layT .nil 0 l with
    | some (t, n) => some ⟨t, n, life, gens, drawn, toks, os⟩
    | none => none
theorem treeOf_spec {s : Shared} {r : SharedT} (e : treeOf s = some r) : r.abs = s := by
  obtain ⟨⟨⟨l⟩, life⟩, gens, drawn, toks, os⟩ := s
  unfold treeOf at e
  dsimp only at e
  cases q : layT .nil 0 l with
  | none => rw [q] at e; cases e
  | some x =>
    obtain ⟨t, n⟩ := x
    rw [q] at e
    cases e
    have := layT_spec (life := life) l .nil t 0 n #[] q rfl
    show Shared.mk (absHeap t n life) gens drawn toks os = _
    rw [this]
    simp
noncomputable def impT (st : Program → World → SharedT → Thread → Option (SharedT × Thread)) (p : Program) (w : World) : Nat → SharedT → Thread → Option SharedT
  | 0, _, _ => none
  | n + 1, s, t => match t.atExitBegin with
    | some [] => some s
    | some (_ :: _) => none
    | none => match st p w s t with
      | some (s', t') => impT st p w n s' t'
      | none => none
theorem impT_spec {tb : String → Option Builtin} {p : Program} {w : World} : ∀ {n : Nat} {s r : SharedT} {t : Thread}, impT (stepT (denote tb)) p w n s t = some r → importEnds tb p w n s.abs t = some r.abs
  | 0, _, _, _, h => by cases h
  | n + 1, s, r, t, h => by
    unfold impT at h
    unfold importEnds
    cases he : t.atExitBegin with
    | some l => cases l with
      | nil => rw [he] at h; cases h; rfl
      | cons a b => rw [he] at h; cases h
    | none =>
      rw [he] at h
      cases hs : stepT (denote tb) p w s t with
      | none => rw [hs] at h; cases h
      | some x => obtain ⟨s₂, t₂⟩ := x; rw [hs] at h; dsimp only; rw [stepT_spec hs]; exact impT_spec h
noncomputable def topT (st : Program → World → SharedT → Thread → Option (SharedT × Thread)) (p : Program) (w : World) (n₀ : Nat) (ann : Option Value) : Nat → SharedT → Thread → Option SharedT
  | 0, _, _ => none
  | n + 1, s, t => match through t with
    | true => some s
    | false => match stepOk n₀ ann t with
      | false => none
      | true => match st p w s t with
        | some (s', t') => topT st p w n₀ ann n s' t'
        | none => none
theorem topT_spec {tb : String → Option Builtin} {p : Program} {w : World} {n₀ : Nat} {ann : Option Value} : ∀ {n : Nat} {s r : SharedT} {t : Thread}, topT (stepT (denote tb)) p w n₀ ann n s t = some r → topRun tb p w n₀ ann n s.abs t = some r.abs
  | 0, _, _, _, h => by cases h
  | n + 1, s, r, t, h => by
    unfold topT at h
    unfold topRun
    cases he : through t with
    | true => rw [he] at h; cases h; rfl
    | false =>
      rw [he] at h
      cases hk : stepOk n₀ ann t with
      | false => rw [hk] at h; cases h
      | true =>
        rw [hk] at h
        cases hs : stepT (denote tb) p w s t with
        | none => rw [hs] at h; cases h
        | some x => obtain ⟨s₂, t₂⟩ := x; rw [hs] at h; dsimp only; rw [stepT_spec hs]; exact topT_spec h
noncomputable def endsT (st : Program → World → SharedT → Thread → Option (SharedT × Thread)) (go : Program → Shared × Thread) (fence : Program → Shared → Option Shared) (nm : Heap → Addr → Str → Option Value) (p : Program) (w : World) (N : Nat) : Option (Shared × SharedT) :=
  match treeOf (go (opening p)).1 with
  | none => none
  | some a => match impT st (opening p) w N a (go (opening p)).2 with
    | none => none
    | some b => match fence p b.abs with
      | none => none
      | some s₀ => match s₀.heap.isNs mainGlobals && s₀.gens.size == 0 with
        | false => none
        | true => match treeOf s₀ with
          | none => none
          | some c => match topT st p w s₀.heap.objs.size (nm s₀.heap mainGlobals "__annotations__") N c (topStub p) with
            | none => none
            | some d => some (s₀, d)

theorem endsT_spec {p : Program} {w : World} {N : Nat} {s₀ : Shared} {d : SharedT} (e : endsT (stepT (denote treeTable)) start fenceModules? Heap.nsMap p w N = some (s₀, d))
    (ok : (staticsOk (importedModules p.main.body) s₀.heap d.abs.heap && namesBound p d.abs.heap && gensDone d.abs && laidKept s₀.heap d.abs.heap) = true) : openEnds treeTable p w N = some d.abs := by
  unfold endsT at e
  split at e
  · cases e
  · rename_i a ha
    split at e
    · cases e
    · rename_i b hb
      split at e
      · cases e
      · rename_i s₁ hs
        split at e
        · cases e
        · rename_i hg
          split at e
          · cases e
          · rename_i c hc
            split at e
            · cases e
            · rename_i d' hd'
              cases e
              have h1 : fencedOpening treeTable p w N = some s₀ := by
                unfold fencedOpening
                have := impT_spec hb
                rw [treeOf_spec ha] at this
                rw [this]
                exact hs
              unfold openEnds
              rw [h1]
              show topFrom treeTable p w N s₀ = _
              unfold topFrom
              rw [hg]
              dsimp only
              have h2 := topT_spec hd'
              rw [treeOf_spec hc] at h2
              rw [h2]
              show (match _ with | true => _ | false => _) = _
              rw [ok]
noncomputable def endsY (p : Program) (w : World) (N : Nat) : Option (Shared × SharedT) := endsT (PySem.W.Fast.tw10156331382660048174 (PySem.W.Fast.tw11892475500146522536 PySem.W.Fast.tw14364793385576792824)) PySem.W.Fast.tw1435165496053646825 PySem.W.Fast.tw14289696077712309145 PySem.W.Fast.tw8920871248978507458 p w N
theorem endsY_eq : endsY = endsT (stepT (denote treeTable)) start fenceModules? Heap.nsMap := by
  rw [PySem.W.Fast.te10156331382660048174, PySem.W.Fast.te11892475500146522536, PySem.W.Fast.te14364793385576792824, PySem.W.Fast.te1435165496053646825, PySem.W.Fast.te14289696077712309145, PySem.W.Fast.te8920871248978507458]
  rfl
theorem leftT {p q : Program} {loose : List Str} {Xt : Shared → Bool} {α : Type} {Yf : Shared → α} {Ya : World → α} {N : Nat}
    (h : ∀ w, (endsY p w N).map (fun x => ((staticsOk (PySem.W.Fast.tw5923862056798008813 p.main.body) x.1.heap x.2.abs.heap && namesBound p x.2.abs.heap && gensDone x.2.abs && laidKept x.1.heap x.2.abs.heap),
      PySem.W.Fast.tw4187177175401517315 q loose (PySem.W.Fast.tw5923862056798008813 p.main.body) Xt true x.2.abs, Yf x.2.abs)) = some (true, openGood q loose, Ya w)) : LeftO p q loose Xt Yf Ya N := fun w => by
  have h := h w
  rw [endsY_eq, ← PySem.W.Fast.te5923862056798008813, ← PySem.W.Fast.te4187177175401517315] at h
  obtain ⟨⟨s₀, d⟩, e, k⟩ := Option.map_eq_some_iff.mp h
  obtain ⟨k1, k2⟩ := Prod.mk.inj k
  rw [endsT_spec e k1]
  exact congrArg some k2
noncomputable def viewS : {p : Program // p = PySem.W.view PySem.Challenge.pw_yf0037_01 [0, 1, 3, 4, 5, 7, 8, 9, 10, 11, 13, 14, 15, 16, 17, 18, 20, 21, 22, 23, 24, 25, 26, 27]} := by
  refine ⟨?p, ?h⟩
  rotate_left
  · unfold PySem.W.view PySem.Challenge.pw_yf0037_01
    dsimp only [List.filterMap_cons, List.filterMap_nil, List.getElem?_cons_zero, List.getElem?_cons_succ]
    rfl
noncomputable def view : Program := viewS.1
noncomputable abbrev loose0 : List PySem.Str := [PySem.Str.ofString "_name_disallowed_re", PySem.Str.ofString "_value_disallowed_re"]
theorem saidY : PySem.W.Fast.tw9446332074065402090 PySem.Challenge.rw_yf0037_01 = true := by decide +kernel
theorem said : PySem.Challenge.rw_yf0037_01.wellSaid = true := (congrFun PySem.W.Fast.te9446332074065402090 _).trans saidY
local macro_rules | `(tactic| o_law) => `(tactic| refine holds_law said fun said => ?_)
local macro_rules | `(tactic| o_head $H) => `(tactic| (
  refine W.holds_open (q := view) (d := ?d) (kwd := ?kwd) (loose := loose0) (Xt := fun s => xlAt view [] s && recOk (RowW.records (PySem.Challenge.rw_yf0037_01.row.toRowW)) s) (XP := XL view []) (Yf := Hook.obs $H) (Ya := Hook.val $H) (YP := Hook.says $H) (N := 4212) ?hl (Hook.of $H) (Hook.keeps $H) (fun s e => xl_of s (Bool.and_eq_true_iff.mp e).1) XL.keeps ?hdef ?hp ?hk (fun s e => recFacts_of (Bool.and_eq_true_iff.mp e).2) ?hwr ?k1 ?ok ?hb ?hw ?hc
  case hdef => rfl
  case hp => rfl
  case hk => rfl
  case hwr => rfl
  case k1 => assumption
  case ok => decide +kernel
  case hb => exact ⟨rfl, rfl, rfl, rfl, rfl, by decide +kernel⟩
  case hl => (refine leftT ?_; intro w; kernel_rfl)))
open_top hd for PySem.Challenge.rw_yf0037_01
theorem offTop : True := by (w_top off); trivial
noncomputable abbrev View : Program := view
noncomputable abbrev Loose : List Str := looseW view [Str.ofString "_name_disallowed_re", Str.ofString "_value_disallowed_re"]
noncomputable abbrev Led := List (Addr × Obj)
noncomputable abbrev tupOf (vs : List Value) : Obj := { cls := .type "tuple", data := .seq vs.toArray }

/-- the frames above, rooms of d -/
noncomputable abbrev Lv (d : Nat) (outer : List Env) : Around := { handled := none, depth := d, frames := some outer, guards := none, units := d }

theorem codeAny_lv {M : Model} {A : Around} {d : Nat} {outer : List Env} {c : Code} {R : Result → Shared → Prop} {s : Shared}
    (hh : A.handled = none) (hf : A.frames = some outer) (hd : A.depth ≤ d) (hu : A.units ≤ d) (h : codeAny M (Lv d outer) c R s) : codeAny M A c R s :=
  fun Γ p hc hΓ => h Γ p hc ⟨hΓ.1.trans hh, Nat.le_trans hΓ.2.1 hd, fun l hl => hΓ.2.2.1 l (hf.trans hl), (fun g hg => by cases hg), Nat.le_trans hΓ.2.2.2.2 hu⟩
theorem wpAny_lv {α : Type} {M : Model} {A : Around} {d : Nat} {outer : List Env} {t : Sem α} {Q : α → Shared → Prop} {E : Value → Shared → Prop} {s : Shared}
    (hh : A.handled = none) (hf : A.frames = some outer) (hd : A.depth ≤ d) (hu : A.units ≤ d) (h : wpAny M (Lv d outer) t Q E s) : wpAny M A t Q E s :=
  fun Γ p hΓ => h Γ p ⟨hΓ.1.trans hh, Nat.le_trans hΓ.2.1 hd, fun l hl => hΓ.2.2.1 l (hf.trans hl), (fun g hg => by cases hg), Nat.le_trans hΓ.2.2.2.2 hu⟩

/-- the world at a call: g stays as it is, the ledger fp is known beside it -/
structure Wd (w : World) (outer : List Env) (g : Heap) (fp : Led) (s : Shared) : Prop where
  below : ∃ A base, Below A base outer g
  kin : (hd.heap_1 w.params).In g
  top : ∃ mean mg mb, Top View Loose mean mg mb g
  keep : ∀ b o, g.get? b = some o → s.heap.get? b = some o
  size : g.objs.size ≤ s.heap.objs.size
  led : ∀ p ∈ fp, s.heap.get? p.1 = some p.2 ∧ g.get? p.1 = none

theorem Wd.step {w : World} {outer : List Env} {g : Heap} {fp fp' : Led} {s s' : Shared} {L : Addr} {m : Str → Option Value} (W : Wd w outer g fp s) (F : Fr g L s'.heap m) (N : News g L s'.heap fp') : Wd w outer g fp' s' :=
  ⟨W.below, W.kin, W.top, F.keep, Nat.le_trans F.above (Nat.le_of_lt F.ns.lt), fun p hp => ⟨(N p hp).1, (N p hp).2.2⟩⟩
theorem Wd.sub {w : World} {outer : List Env} {g : Heap} {fp fp' : Led} {s : Shared} (W : Wd w outer g fp s) (h : ∀ p ∈ fp', p ∈ fp) : Wd w outer g fp' s :=
  ⟨W.below, W.kin, W.top, W.keep, W.size, fun p hp => W.led p (h p hp)⟩

section
variable {w : World} {outer : List Env} {g : Heap} {fp : Led} {s : Shared} {d : Nat}
  {R : Result → Shared → Prop} {name qual : Str} {params : Arguments} {body : List Stmt} {scope : Scope} {dV kV doc pm cdv ct oc : Value} {an od : Option Addr} {osl : Array (Option Value)} {f : Addr} {args : Args} {binds : List (Str × Value)} {prog : Program}

theorem enter (W : Wd w outer g fp s) (ho : (hd.heap_1 w.params).lookup f = some ⟨oc, od, .func (fnOf name qual params body scope dV kV doc pm an cdv ct), osl⟩) (hcd : codeIn (hd.heap_1 w.params) cdv qual = true) (hroom : d < recursionLimit)
    (hbind : BindsTo s (fnOf name qual params body scope dV kV doc pm an cdv ct) args binds) (hloc : ∀ y ∈ binds, scope.names.lookup y.1 = some .local)
    (h : ∀ L' h₁, Fr g L' h₁ (fun y => binds.reverse.lookup y) → News g L' h₁ fp → (∀ p ∈ fp, p.1 < L') →
      wpAny (model prog w) ((Lv d outer).deeper (envOf qual scope L' f cdv)) (execs body (envOf qual scope L' f cdv))
        (fun fl s' => R (.ok (.ret (match fl with | .ret v => v | _ => .none))) s')
        (fun e s' => wpAny (model prog w) ((Lv d outer).deeper (envOf qual scope L' f cdv)) (leaving (envOf qual scope L' f cdv) e) (fun _ s'' => R (.error e) s'') (fun e' s'' => R (.error e') s'') s')
        { s with heap := h₁, toks := s.toks + binds.length })
    (hcell : ∀ x ∈ scope.names, x.2 ≠ .cell) (hco : scope.isCoroutine = false) (hgen : scope.isGenerator = false) (hk : scope.kind = .function) : codeAny (model prog w) (Lv d outer) (.call (.ref f) args) R s := by
  obtain ⟨mean, mg, mb, T⟩ := W.top
  refine codeAny_call_def (fd := fnOf name qual params body scope dV kV doc pm an cdv ct) (body := body) (binds := binds) hroom (W.keep _ _ (W.kin _ _ ho)) rfl ((T.nolimit).keeps W.keep) (codeRec_of (W.kin.keeps W.keep) hcd) rfl hbind hcell hloc (fun h₁ hns hk₁ => ?_) hco hgen hk
  exact h s.heap.objs.size h₁ ⟨hns, fun b o e => hk₁ b o (W.keep b o e), W.size⟩ (fun p hp => ⟨hk₁ _ _ (W.led p hp).1, Nat.ne_of_lt (Heap.lt_size (W.led p hp).1), (W.led p hp).2⟩) fun p hp => Heap.lt_size (W.led p hp).1
end

/-- the frames above, wherever all of h₀ and the frame at hand stand -/
noncomputable def FB (A : Around) (h₀ : Heap) (L : Addr) (m : Str → Option Value) (all : List Env) : Prop := ∀ g, h₀.StaysIn g → Fr h₀ L g m → ∃ base, Below A base all g
theorem fbFun {A A₀ : Around} {base h₀ : Heap} {outer : List Env} {env : Env} {L : Addr} {m : Str → Option Value} (B : Below A₀ base outer h₀) (hA : A.frames = some (env :: outer)) (hf : env.frame = some L) (hke : env.scope.kind = .function) : FB A h₀ L m (env :: outer) :=
  fun _ _ F => ⟨base, hA, (pushX B F hf hke).stays, (pushX B F hf hke).frames⟩
theorem fbComp {A : Around} {base h₀ : Heap} {all : List Env} {L : Addr} {m : Str → Option Value} (B : Below A base all h₀) : FB A h₀ L m all :=
  fun _ st _ => ⟨base, B.stack, fun b o e => st b o (B.stays b o e), B.frames.of_keeps fun b o e _ => ⟨o, st b o e, rfl⟩⟩
/-- a contract used inside a walk: the footprint fp out of the ledger, the rest stays -/
theorem use {w : World} {prog : Program} {A : Around} {h₀ : Heap} {all : List Env} {L : Addr} {m : Str → Option Value} {s : Shared} {c : Code} {R : Result → Shared → Prop} {mean : ExcName → Option Value} {mg mb : Str → Option Value} {fp rest : Led} {d : Nat}
    (F : Fr h₀ L s.heap m) (X : (hd.heap_1 w.params).In h₀) (T : Top View Loose mean mg mb h₀) (hB : FB A h₀ L m all) (N : News h₀ L s.heap (fp ++ rest)) (hdis : ∀ p ∈ rest, ∀ q ∈ fp, @Ne Nat p.1 q.1)
    (hh : A.handled = none) (hd : A.depth ≤ d) (hu : A.units ≤ d)
    (spec : ∀ g, Wd w all g fp s → codeAny (model prog w) (Lv d all) c (fun r s' => ∃ fp', Wd w all g fp' s' ∧ (Fr h₀ L s'.heap m → News h₀ L s'.heap (fp' ++ rest) → (∀ p ∈ rest, ∀ q ∈ fp', @Ne Nat p.1 q.1) → R r s')) s) :
    codeAny (model prog w) A c R s := by
  have N₁ : News h₀ L s.heap fp := fun p hp => N p (List.mem_append_left _ hp)
  have N₂ : News h₀ L s.heap rest := fun p hp => N p (List.mem_append_right _ hp)
  have hsz : (hideAll s.heap (fp.map (·.1))).objs.size = s.heap.objs.size := hideAll_size _ _
  have hk : ∀ b o, (hideAll s.heap (fp.map (·.1))).get? b = some o → s.heap.get? b = some o := fun b o e => of_hideAll _ e
  have hn : ∀ p ∈ fp, (hideAll s.heap (fp.map (·.1))).get? p.1 = none := fun p hp => hideAll_none _ (List.mem_map_of_mem hp)
  have hg2 : ∀ p ∈ rest, (hideAll s.heap (fp.map (·.1))).get? p.1 = some p.2 := fun p hp => hideAll_get _ (N₂ p hp).1 fun q => by
    obtain ⟨q, hq, e⟩ := List.mem_map.mp q
    exact hdis p hp q hq e.symm
  have nm : ∀ b o, h₀.get? b = some o → b ∉ fp.map (·.1) := fun b o e q => by
    obtain ⟨p, hp, rfl⟩ := List.mem_map.mp q
    rw [(N₁ p hp).2.2] at e; cases e
  have st : h₀.StaysIn (hideAll s.heap (fp.map (·.1))) := fun b o e => hideAll_get _ (F.keep b o e) (nm b o e)
  obtain ⟨oL, es, ep, hL, hLd, hLk, hLf⟩ := F.ns
  have nL : L ∉ fp.map (·.1) := fun q => by
    obtain ⟨p, hp, e⟩ := List.mem_map.mp q
    exact (N₁ p hp).2.1 e
  have hLg := hideAll_get (fp.map (·.1)) hL nL
  have FG : Fr h₀ L (hideAll s.heap (fp.map (·.1))) m := ⟨⟨oL, es, ep, hLg, hLd, hLk, hLf⟩, st, F.above⟩
  generalize hideAll s.heap (fp.map (·.1)) = g at FG st hsz hk hn hg2 hLg
  obtain ⟨base, BG⟩ := hB g st FG
  refine codeAny_lv hh BG.stack hd hu ?_
  refine codeAny_mono (spec g ⟨⟨A, base, BG⟩, X.keeps st, ⟨mean, mg, mb, T.keeps st⟩, hk, Nat.le_of_eq hsz, fun p hp => ⟨(N₁ p hp).1, hn p hp⟩⟩) fun r s' hr => ?_
  obtain ⟨fp', W', k⟩ := hr
  refine k ⟨⟨oL, es, ep, W'.keep L oL hLg, hLd, hLk, hLf⟩, fun b o e => W'.keep b o (st b o e), F.above⟩ (fun p hp => ?_) fun p hp q hq e => ?_
  · rcases List.mem_append.mp hp with hp | hp
    · refine ⟨(W'.led p hp).1, fun q => ?_, ?_⟩
      · have := (W'.led p hp).2; rw [q, hLg] at this; cases this
      · cases q : h₀.get? p.1 with
        | none => rfl
        | some o => have := (W'.led p hp).2; rw [st _ _ q] at this; cases this
    · exact ⟨W'.keep _ _ (hg2 p hp), (N₂ p hp).2.1, (N₂ p hp).2.2⟩
  · have h1 := hg2 p hp
    have h2 := (W'.led q hq).2
    rw [e, h2] at h1; cases h1
/-- two addresses differ (closed to omega, which would split on it) -/
noncomputable def Ap (a b : Addr) : Prop := @Ne Nat a b
theorem callN {M : Model} {A : Around} {as : List Value} {ks : List (Str × Value)} {Q E : Value → Shared → Prop} {s : Shared} (n : Nat) (h : wpAny M A (call (.ref n) as ks) Q E s) : wpAny M A (call (.ref n) as ks) Q E s := h
theorem Ap.of {a b : Addr} (h : @Ne Nat a b) : Ap a b := h
theorem Ap.ne {a b : Addr} (h : Ap a b) : @Ne Nat a b := h
theorem Ap.ne' {a b : Addr} (h : Ap b a) : @Ne Nat a b := Ne.symm h
theorem Ap.symm {a b : Addr} (h : Ap a b) : Ap b a := Ne.symm h
theorem AllLt.one {d : Addr} {a : Addr} {o : Obj} {r : Led} (h : AllLt d ((a, o) :: r)) : @LT.lt Nat _ a d := h.1
theorem AllLt.rest {d : Addr} {a : Addr} {o : Obj} {r : Led} (h : AllLt d ((a, o) :: r)) : AllLt d r := h.2
local macro_rules | `(tactic| k_lt $h:ident) => `(tactic| (replace $h := allLt_of $h; k_dflt (have := AllLt.one $h; replace $h := AllLt.rest $h); k_dflt (repeat (have := AllLt.one $h; replace $h := AllLt.rest $h))))
local macro_rules | `(tactic| k_ne) => `(tactic| (refine neN ?_; (try dsimp only); first | with_reducible (first | exact Ap.ne ‹_› | exact Ap.ne' ‹_› | exact Nat.ne_of_lt ‹_› | exact Nat.ne_of_gt ‹_› | exact Nat.ne_of_lt (Nat.lt_succ_of_lt ‹_›) | exact Nat.ne_of_gt (Nat.lt_succ_of_lt ‹_›)) | omega))
local macro_rules | `(tactic| k_extra "q") => `(tactic| (with_reducible assumption))
local macro_rules | `(tactic| k_extra "b") => `(tactic| exact Nat.le_of_ble_eq_true rfl)
local macro_rules | `(tactic| k_extra "om") => `(tactic| first | assumption | omega)
local macro_rules | `(tactic| k_extra "s") => `(tactic| (try k_sweep))
local macro_rules | `(tactic| k_extra "z") => `(tactic| (intros; (try dsimp only); (try k_sweep)))
local macro_rules | `(tactic| k_extra "zn") => `(tactic| (intros; rename News _ _ _ _ => N'; (try dsimp only at N'); (try dsimp only); (try k_sweep)))
local macro_rules | `(tactic| k_extra "zl") => `(tactic| (intro _ _ _ _ l1; (try k_lt l1); (try dsimp only)))
local macro_rules | `(tactic| k_extra "FN") => `(tactic| ((case F => k_asm); (case N => k_asm)))
local macro_rules | `(tactic| k_extra "FNU") => `(tactic| (k_extra "FN"; (case hU => k_updF)))
section
open PySem.Builtin PySem.Builtin.Re

theorem rp_slot : Slot "re.Pattern" "search" "re.Pattern.search" :=
  .of (owner := "re.Pattern") (n := "search") (by rw [typeLookup_type, builtinLookup_eq_fast]; kernel_rfl) (by decide +kernel) (by decide +kernel) (by decide +kernel)
    (by first | exact .inl (by decide +kernel) | exact .inr (by decide +kernel)) (by rw [isSubtype_type]; kernel_rfl)
theorem rp_type : typeOf (.builtin "re.Pattern.search") = pure (.type "method_descriptor") := by show builtinType _ = _; rw [builtinType_eq_fast]; kernel_rfl
theorem rp_entry : entryFor table "re.Pattern.search" = some Builtin.«re.Pattern.search» := entryFor_of_tree (by kernel_rfl)
theorem rp_plain : PlainAttrs "re.Pattern" :=
  ⟨⟨"object.__getattribute__", by rw [typeLookup_type, builtinLookup_eq_fast]; kernel_rfl, by decide +kernel⟩, by rw [typeLookup_type, builtinLookup_eq_fast]; kernel_rfl⟩
theorem rp_owner : Manifest.owners.lookup (String.ofList ['n', 'r', 'e', 't', 't', 'a', 'P', '.', 'e', 'r'].reverse) = some Manifest.sig_re_Pattern := by kernel_rfl
theorem rp_sig : Manifest.signature? "re.Pattern.search" = some ⟨.keywords, "Pattern.search", "search", .self, [⟨"string", .posOrKw, true⟩, ⟨"pos", .posOrKw, false⟩, ⟨"endpos", .posOrKw, false⟩]⟩ := by kernel_rfl
theorem rp_args (a b : Value) : argsOk "re.Pattern.search" ⟨[a, b], []⟩ := by
  unfold argsOk; rw [rp_sig]; kernel_rfl

theorem runFor_some (m : Sre.M) (h : m.outcome.isSome = true) : ∀ n, m.runFor n = m
  | 0 => rfl
  | n + 1 => by rw [Sre.M.runFor, if_pos h]
theorem runFor_add (a b : Nat) : ∀ m : Sre.M, m.runFor (a + b) = (m.runFor a).runFor b := by
  induction a with
  | zero => intro m; rw [Nat.zero_add]; rfl
  | succ a ih =>
    intro m
    rw [Nat.succ_add, Sre.M.runFor, Sre.M.runFor]
    by_cases h : m.outcome.isSome = true
    · rw [if_pos h, if_pos h, runFor_some m h]
    · rw [if_neg h, if_neg h, ih]
section
variable {M : Model} {A : Around} {E : Value → Shared → Prop} {s : Shared}
theorem wpAny_reDrive : ∀ (k turns : Nat) (m : Sre.M) {Q : Sre.M → Shared → Prop}, k < turns → (m.runFor (4 * k)).outcome.isSome = true → Q (m.runFor (4 * k)) s → wpAny M A (reDrive turns m) Q E s := by
  intro k
  induction k with
  | zero =>
    intro turns m Q hk ho h
    obtain ⟨t, rfl⟩ : ∃ t, turns = t + 1 := ⟨turns - 1, by omega⟩
    rw [reDrive]
    have e : m.runFor reTurnSteps = m := runFor_some m ho _
    simp only [e]
    have ho' : m.outcome.isSome = true := ho
    rw [if_pos ho']
    exact wpAny_pure h
  | succ k ih =>
    intro turns m Q hk ho h
    obtain ⟨t, rfl⟩ : ∃ t, turns = t + 1 := ⟨turns - 1, by omega⟩
    rw [reDrive]
    have e : 4 * (k + 1) = reTurnSteps + 4 * k := by show 4 * (k + 1) = 4 + 4 * k; omega
    rw [e, runFor_add] at ho h
    by_cases hs : (m.runFor reTurnSteps).outcome.isSome = true
    · rw [if_pos hs]
      rw [runFor_some _ hs] at h
      exact wpAny_pure h
    · rw [if_neg hs]
      exact wpAny_bind (wpAny_rule (ih t _ (by omega) ho h))
theorem wp_rules (c : Nat → Bool) (t : Nat → String) {Q : PUnit → Shared → Prop} (h : Q ⟨⟩ s) : ∀ l : List Nat, wpAny M A (forIn l PUnit.unit fun i _ => do
      if c i = true then do rule (t i); pure (ForInStep.yield PUnit.unit) else pure (ForInStep.yield PUnit.unit)) Q E s
  | [] => wpAny_pure h
  | i :: l => by
    rw [List.forIn_cons]
    refine wpAny_bind ?_
    by_cases hc : c i = true
    · rw [if_pos hc]; exact wpAny_bind (wpAny_rule (wpAny_pure (wp_rules c t h l)))
    · rw [if_neg hc]; exact wpAny_pure (wp_rules c t h l)
theorem wpAny_runToEnd {m : Sre.M} {Q : Option Sre.M → Shared → Prop} (ho : (m.runFor 2000).outcome = some .failed) (h : Q none s) : wpAny M A (reRunToEnd m) Q E s := by
  unfold reRunToEnd
  refine wpAny_bind (wpAny_reDrive 500 _ _ (by decide) (by rw [show 4 * 500 = 2000 from rfl, ho]; rfl) ?_)
  refine wpAny_bind (wp_rules (fun i => (m.runFor (4 * 500)).seen.has i) (fun i => Sre.names.getD i "") ?_ _)
  rw [show 4 * 500 = 2000 from rfl, ho]
  exact wpAny_pure h
end
noncomputable def cleanBy (code : Array Nat) (x : Str) : Prop := (Sre.M.runFor 2000 (Sre.forSearch code x.cps 0 0 x.cps.size false)).outcome = some .failed ∧ x.cps.size < 2 ^ 62
section
variable {prog : Program} {w : World} {A : Around} {E : Value → Shared → Prop} {s : Shared}
theorem reNamed_one (v : Value) : reNamed "re.Pattern.search" "search" ["string", "pos", "endpos"] 1 [v] [] = pure [some v, none, none] := by rfl
theorem search_none {pa ca : Addr} {x pat : Str} {t tk tk2 : Tok} {vals : Array Value} {Q : Value → Shared → Prop}
    (hp : s.heap.get? pa = some { cls := .type "re.Pattern", data := .fields #[.str pat tk, .int 32 tk2, .int 0 0, .none, .none, .ref ca, .int 0 0] })
    (hc : s.heap.get? ca = some { cls := .type "tuple", data := .seq vals }) (hx : cleanBy ((vals.map reRawOf).map (·.toNat)) x) (h : Q .none s) :
    wpAny (model prog w) A (call (.builtin "re.Pattern.search") [.ref pa, .str x t]) Q E s := by
  have hT : s.TypeIs (.ref pa) "re.Pattern" := ⟨_, hp, rfl⟩
  refine wpAny_call_entry rp_slot hT rp_entry ?_ (rp_args _ _)
  unfold «re.Pattern.search»
  refine wpAny_bind ?_
  unfold reTarget
  show wpAny _ _ (reNamed "re.Pattern.search" "search" ["string", "pos", "endpos"] 1 [.str x t] [] >>= _) _ _ _
  rw [reNamed_one]
  refine wpAny_bind (wpAny_pure ?_)
  refine wpAny_bind (wpAny_pure ?_)
  refine wpAny_bind (wpAny_pure ?_)
  refine wpAny_bind (wpAny_fieldsOf hp rfl ?_)
  refine wpAny_bind (m := reTextOf (.str x t)) ?_
  refine wpAny_bind (m := asStr? (.str x t)) (wpAny_pure (wpAny_pure ?_))
  dsimp only
  refine wpAny_bind (m := reNoCollectionInside (.str x t) 0) (wpAny_pure ?_)
  refine wpAny_bind (m := reRawItems (.ref ca)) ?_
  refine wpAny_bind (wpAny_seqItems hc rfl (wpAny_pure ?_))
  refine wpAny_pure ?_
  unfold reAnswer
  refine wpAny_bind (wpAny_runToEnd ?_ (wpAny_pure ⟨_, rfl, h⟩))
  have e1 : min ((0 : Int).toNat) x.cps.size = 0 := by simp
  have e2 : min (((2 : Int) ^ 63 - 1).toNat) x.cps.size = x.cps.size := by have := hx.2; omega
  show (Sre.M.runFor 2000 (Sre.forSearch ((vals.map reRawOf).map (·.toNat)) x.cps 0 (min ((0 : Int).toNat) x.cps.size) (min (((2 : Int) ^ 63 - 1).toNat) x.cps.size) false)).outcome = some .failed
  rw [e1, e2]
  exact hx.1
end
noncomputable abbrev valsN : Array Value := #[.int 14 0, .int 10 0, .int 4 0, .int 1 0, .int 1 0, .int 22 0, .int 0 0, .int 31 0, .int 16 0, .int 127 0, .int 0 0, .int 13 0, .int 7 0, .int 22 0, .int 0 0, .int 31 0, .int 16 0, .int 127 0, .int 0 0, .int 1 0]
noncomputable abbrev codeN : Array Nat := (valsN.map Builtin.Re.reRawOf).map (·.toNat)
noncomputable abbrev valsV : Array Value := #[.int 14 0, .int 14 0, .int 4 0, .int 1 0, .int 1 0, .int 9 0, .int 4294966783 0, .int 0 0, .int 0 0, .int 2147483648 0, .int 0 0, .int 0 0, .int 0 0, .int 0 0, .int 0 0, .int 13 0, .int 11 0, .int 9 0, .int 4294966783 0, .int 0 0, .int 0 0, .int 2147483648 0, .int 0 0, .int 0 0, .int 0 0, .int 0 0, .int 0 0, .int 1 0]
noncomputable abbrev codeV : Array Nat := (valsV.map Builtin.Re.reRawOf).map (·.toNat)
noncomputable abbrev cleanN (x : Str) : Prop := cleanBy codeN x
noncomputable abbrev cleanV (x : Str) : Prop := cleanBy codeV x
section
variable {prog : Program} {w : World} {A : Around} {E : Value → Shared → Prop} {s : Shared}
theorem searchN {x : Str} {t : Tok} {Q : Value → Shared → Prop} (X : (hd.heap_1 w.params).In s.heap) (hx : cleanN x) (h : Q .none s) : wpAny (model prog w) A (call (.builtin "re.Pattern.search") [.ref 43, .str x t]) Q E s := by
  refine search_none (X 43 _ (by k_dflt k_is)) (X 42 _ (by k_dflt k_is)) ?_ h
  exact hx
theorem searchV {x : Str} {t : Tok} {Q : Value → Shared → Prop} (X : (hd.heap_1 w.params).In s.heap) (hx : cleanV x) (h : Q .none s) : wpAny (model prog w) A (call (.builtin "re.Pattern.search") [.ref 48, .str x t]) Q E s := by
  refine search_none (X 48 _ (by k_dflt k_is)) (X 47 _ (by k_dflt k_is)) ?_ h
  exact hx
theorem getSearch {pa : Addr} {o : Obj} {pl : Sem Bool} {Q : Value × List Value → Shared → Prop} (ho : s.heap.get? pa = some o) (hc : o.cls = .type "re.Pattern") (hd : o.dict = none) (h : Q (.builtin "re.Pattern.search", [.ref pa]) s) :
    wpAny (model prog w) A (getMethod (.ref pa) "search" pl) Q E s :=
  getMethod_builtin ⟨_, ho, hc⟩ rp_plain rp_slot rp_type (fun a e => by cases e; exact ⟨_, ho, hd⟩) h
theorem getSearchN {pl : Sem Bool} {Q : Value × List Value → Shared → Prop} (X : (hd.heap_1 w.params).In s.heap) (h : Q (.builtin "re.Pattern.search", [.ref 43]) s) :
    wpAny (model prog w) A (getMethod (.ref 43) "search" pl) Q E s := getSearch (X 43 _ (by k_dflt k_is)) rfl rfl h
theorem getSearchV {pl : Sem Bool} {Q : Value × List Value → Shared → Prop} (X : (hd.heap_1 w.params).In s.heap) (h : Q (.builtin "re.Pattern.search", [.ref 48]) s) :
    wpAny (model prog w) A (getMethod (.ref 48) "search" pl) Q E s := getSearch (X 48 _ (by k_dflt k_is)) rfl rfl h
end
end
noncomputable abbrev iterG (l : Addr) (i : Nat) (d : Option Addr) (sl : Array (Option Value)) : Obj := ⟨.type "list_iterator", d, .fields #[.ref l, .int i 0], sl⟩
theorem iteT {b : Bool} {X Y : Prop} (h : b = true) (x : X) : if b = true then X else Y := by rw [if_pos h]; exact x
theorem iteF {b : Bool} {X Y : Prop} (h : b = false) (y : Y) : if b = true then X else Y := by rw [if_neg (by rw [h]; exact Bool.false_ne_true)]; exact y
section
variable {prog : Program} {w : World} {A : Around} {E : Value → Shared → Prop} {s : Shared} {R : Result → Shared → Prop}
theorem forLoop_once {target it body orelse env}
    (turn : wpAny (model prog w) A (pyNext it) (fun r s₁ => match r with
      | none => wpAny (model prog w) A (execs orelse env) (fun f s₃ => R (.ok f) s₃) (notedBy (model prog w) A env fun e s' => R (.error e) s') s₁
      | some v => wpAny (model prog w) A (letOwnedTupleGo target it v) (fun _ s₁' =>
          wpAny (model prog w) A (assign target env v) (fun _ s₂ => wpAny (model prog w) A (execs body env) (fun f s₃ => match f with
            | .next | .cont => codeAny (model prog w) A (.forLoop target it body orelse env) R s₃
            | .brk => R (.ok .next) s₃
            | .ret v => R (.ok (.ret v)) s₃) (notedBy (model prog w) A env fun e s' => R (.error e) s') s₂) (notedBy (model prog w) A env fun e s' => R (.error e) s') s₁') (notedBy (model prog w) A env fun e s' => R (.error e) s') s₁) (notedBy (model prog w) A env fun e s' => R (.error e) s') s) :
    codeAny (model prog w) A (.forLoop target it body orelse env) R s := by
  refine codeAny_of_tree ?_
  show wpAny _ A ((forTurn target it body orelse env).onRaise (fun x => do noteFrame x env; theTreesLotGoes x)) _ _ s
  refine wpAny_noted ?_
  simp only [forTurn]
  refine wpAny_bind (wpAny_standAt (wpAny_bind (wpAny_onRaise (wpAny_mono turn (fun r s₁ h₁ => ?_) fun _ _ h' => wpAny_standAt h'))))
  cases r with
  | none => exact wpAny_pure ⟨rfl, codeAny_block h₁⟩
  | some v =>
    refine wpAny_bind (wpAny_mono h₁ (fun _ s₁' h₁' => ?_) fun _ _ h' => h')
    refine wpAny_bind (wpAny_mono h₁' (fun _ s₂ h₂ => wpAny_bind (wpAny_mono h₂ (fun f s₃ h₃ => ?_) fun _ _ h' => h')) fun _ _ h' => h')
    cases f with
    | next => exact wpAny_pure ⟨rfl, h₃⟩
    | cont => exact wpAny_pure ⟨rfl, h₃⟩
    | brk => exact wpAny_pure h₃
    | ret v => exact wpAny_pure h₃
variable {h₀ : Heap} {L : Addr} {m : Str → Option Value} {news : Led}
theorem pyIterN {l : Addr} {its : Array Value} {n : Nat} {Q : Value → Shared → Prop} (F : Fr h₀ L s.heap m) (N : News h₀ L s.heap news) (hm : (l, listOf its n) ∈ news)
    (h : ∀ I h', Fr h₀ L h' m → News h₀ L h' ((I, iterG l 0 none #[]) :: news) → (∀ p ∈ news, p.1 < I) → Q (.ref I) { s with heap := h' }) : wpAny (model prog w) A (pyIter (.ref l)) Q E s :=
  wpAny_pyIter_list (N.isList hm) (h _ _ (F.push _) (N.push F _) fun p hp => Heap.lt_size (N p hp).1)
noncomputable def GoOk (target : Expr) (v : Value) : Prop := ∀ (prog : Program) (w : World) (A : Around) (s : Shared) (I l : Addr) (i : Nat) (Q : Unit → Shared → Prop) (E : Value → Shared → Prop), s.heap.IsListIter I l i → Q () s → wpAny (model prog w) A (letOwnedTupleGo target (.ref I) v) Q E s
theorem goName {x : Str} {px : Pos} {v : Value} : GoOk (.Name x px) v := fun _ _ _ _ _ _ _ _ _ _ h => wpAny_pure h
theorem goTuple {elts k pos} {t : Addr} : GoOk (.Tuple elts k pos) (.ref t) := fun _ _ _ _ _ _ _ _ _ hi h => wpAny_letOwnedTupleGo_listiter hi h
theorem for_turnN {target : Expr} {body : List Stmt} {env : Env} {I l : Addr} {i n : Nat} {d : Option Addr} {sl : Array (Option Value)} {its : Array Value} {v : Value} {gf : Obj → Led} (F : Fr h₀ L s.heap m) (N : News h₀ L s.heap news) (hl : (l, listOf its n) ∈ news) (hx : its.toList[i]? = some v)
    (hU : UpdF I (iterG l i d sl) news gf) (hg : GoOk target v)
    (h : ∀ h' d' sl', Fr h₀ L h' m → News h₀ L h' (gf (iterG l (i + 1) d' sl')) → wpAny (model prog w) A (assign target env v) (fun _ s₂ => wpAny (model prog w) A (execs body env) (fun f s₃ => match f with
            | .next | .cont => codeAny (model prog w) A (.forLoop target (.ref I) body [] env) R s₃
            | .brk => R (.ok .next) s₃
            | .ret v => R (.ok (.ret v)) s₃) (notedBy (model prog w) A env fun e s' => R (.error e) s') s₂) (notedBy (model prog w) A env fun e s' => R (.error e) s') { s with heap := h' }) :
    codeAny (model prog w) A (.forLoop target (.ref I) body [] env) R s := by
  obtain ⟨pre, post, rfl, hgf, h1, h2⟩ := hU.split
  have hi : (I, iterG l i d sl) ∈ pre ++ (I, iterG l i d sl) :: post := by simp
  have hit : s.heap.IsListIter I l i := ⟨_, (N _ hi).1, rfl, rfl⟩
  refine forLoop_once (wpAny_pyNext_list_item hit (N.isList hl) (by rw [← Array.getElem?_toList]; exact hx) fun h' hit' hs' => ?_)
  obtain ⟨⟨c', d', dt', sl'⟩, ho', hc', hd'⟩ := id hit'
  dsimp only at hc' hd'
  subst hc' hd'
  refine hg _ _ _ _ _ _ _ _ _ hit' (h h' d' sl' (F.update N hi hs') ?_)
  rw [hgf]
  exact news_set N h1 h2 hs' ho'
inductive Drop (d : Addr) : Led → Led → Prop
  | head {o r} : (∀ p ∈ r, p.1 ≠ d) → Drop d ((d, o) :: r) r
  | tail {p r r'} : p.1 ≠ d → Drop d r r' → Drop d (p :: r) (p :: r')
theorem Drop.mem {d : Addr} {l l' : Led} (t : Drop d l l') : ∀ p ∈ l', p ∈ l ∧ p.1 ≠ d := by
  induction t with
  | head h => exact fun p hp => ⟨.tail _ hp, h p hp⟩
  | tail h _ ih => exact List.forall_mem_cons.mpr ⟨⟨.head _, h⟩, fun p hp => ⟨.tail _ (ih p hp).1, (ih p hp).2⟩⟩
theorem for_endN {target : Expr} {body : List Stmt} {env : Env} {I l : Addr} {i n : Nat} {d : Option Addr} {sl : Array (Option Value)} {its : Array Value} {news' : Led} (F : Fr h₀ L s.heap m) (N : News h₀ L s.heap news) (hl : (l, listOf its n) ∈ news) (hi : (I, iterG l i d sl) ∈ news) (hx : its.toList[i]? = none) (hh : A.handled = none)
    (hU : Drop I news news')
    (h : ∀ h', Fr h₀ L h' m → News h₀ L h' news' → R (.ok .next) { s with heap := h' }) :
    codeAny (model prog w) A (.forLoop target (.ref I) body [] env) R s := by
  have hit : s.heap.IsListIter I l i := ⟨_, (N _ hi).1, rfl, rfl⟩
  refine forLoop_once (wpAny_pyNext_list_end hh hit (N.isList hl) (by rw [← Array.getElem?_toList]; exact hx) fun h' he' => wpAny_execs_nil (h h' ?_ fun p hp => ?_))
  · have hne : ∀ b x, h₀.get? b = some x → b ≠ I := fun b x e hba => by have := (N _ hi).2.2; rw [← hba, e] at this; cases this
    exact ⟨F.ns.extBut he' ((N _ hi).2.1).symm, fun b o e => he' b o (hne b o e) (F.keep b o e), F.above⟩
  · exact ⟨he' _ _ (hU.mem p hp).2 (N p (hU.mem p hp).1).1, (N p (hU.mem p hp).1).2⟩
end
section
variable {w : World} {outer : List Env} {g : Heap} {fp : Led} {s : Shared} {d : Nat}
  {R : Result → Shared → Prop} {name qual : Str} {params : Arguments} {body : List Stmt} {scope : Scope} {dV kV doc pm cdv ct oc : Value} {an od : Option Addr} {osl : Array (Option Value)} {f : Addr} {args : Args} {binds : List (Str × Value)} {prog : Program}
theorem enterC (W : Wd w outer g fp s) (ho : (hd.heap_1 w.params).lookup f = some ⟨oc, od, .func (fnOf name qual params body scope dV kV doc pm an cdv ct), osl⟩) (hcd : codeIn (hd.heap_1 w.params) cdv qual = true) (hroom : d < recursionLimit)
    (hbind : BindsTo s (fnOf name qual params body scope dV kV doc pm an cdv ct) args binds)
    (hkind : (binds.all fun y => scope.names.lookup y.1 == some .local || scope.names.lookup y.1 == some .cell) = true)
    (hnd : ((cellsFrom 0 scope.names []).map (·.1)).Nodup)
    (h : ∀ L' h₁ tk cells, Fr g L' h₁ (bindL (envOfC qual scope L' f cdv).kindOf binds fun _ => none) → News g L' h₁ (cells ++ fp) →
      CellsAre (bindC (envOfC qual scope L' f cdv).kindOf binds fun _ => none) (cellsFrom (L' + 1) scope.names []) cells → (∀ p ∈ fp, p.1 < L') →
      wpAny (model prog w) ((Lv d outer).deeper (envOfC qual scope L' f cdv)) (execs body (envOfC qual scope L' f cdv))
        (fun fl s' => R (.ok (.ret (match fl with | .ret v => v | _ => .none))) s')
        (fun e s' => wpAny (model prog w) ((Lv d outer).deeper (envOfC qual scope L' f cdv)) (leaving (envOfC qual scope L' f cdv) e) (fun _ s'' => R (.error e) s'') (fun e' s'' => R (.error e') s'') s')
        { s with heap := h₁, toks := tk })
    (hco : scope.isCoroutine = false) (hgen : scope.isGenerator = false) (hk : scope.kind = .function) : codeAny (model prog w) (Lv d outer) (.call (.ref f) args) R s := by
  obtain ⟨mean, mg, mb, T⟩ := W.top
  refine codeAny_call_function hroom (W.keep _ _ (W.kin _ _ ho)) rfl hco hgen rfl (codeRec_of (W.kin.keeps W.keep) hcd) (hbind _ _ _ _ ?_)
  refine wpAny_newFunctionEnv_cells hk (kindsX hkind _) fun env' he s' x => ?_
  subst he
  refine ⟨((T.nolimit).keeps W.keep).keeps x.toInCall.keep, codeAny_func ?_⟩
  obtain ⟨h₁, tk, rfl, _⟩ := x.done
  have hk₁ := x.toInCall.keep
  obtain ⟨cells, NC, Y⟩ := Cl.news (h₀ := s.heap) (Nat.le_refl _) fun n c hm => ⟨x.cell n c (lookup_of_mem_nodup (cellsFrom_names scope.names 0 (s.heap.objs.size + 1) [] [] rfl ▸ hnd) hm), x.above n c hm⟩
  refine h s.heap.objs.size h₁ tk cells ⟨x.toInCall.ns, fun b o e => hk₁ b o (W.keep b o e), W.size⟩ (fun p hp => ?_) Y (fun p hp => Heap.lt_size (W.led p hp).1)
  rcases List.mem_append.mp hp with hp | hp
  · refine ⟨(NC p hp).1, (NC p hp).2.1, ?_⟩
    cases q : g.get? p.1 with
    | none => rfl
    | some o => have := W.keep _ _ q; rw [(NC p hp).2.2] at this; cases this
  · exact ⟨hk₁ _ _ (W.led p hp).1, Nat.ne_of_lt (Heap.lt_size (W.led p hp).1), (W.led p hp).2⟩
end
local macro_rules | `(tactic| walk_at "execs cons") => `(tactic| ((try k_fold); (with_reducible refine wpAny_execs_cons ?_); (try dsimp only)))
local macro_rules | `(tactic| walk_at "getMethod ref") => `(tactic| first | (refine getSearchN (by k_in) ?_) | (refine getSearchV (by k_in) ?_))
local macro_rules | `(tactic| walk_at "call builtin:re.Pattern.search") => `(tactic| first | (refine searchN (by k_in) ‹_› ?_) | (refine searchV (by k_in) ‹_› ?_))
local macro_rules | `(tactic| k_extra "en1") => `(tactic| ((case k6 => k_dflt k_is); (case k7 => k_dflt k_is); (case k8 => decide); (case k9 => first | exact BindsTo.of_eq rfl | exact binds_K (by k_in) rfl (by k_is) rfl rfl rfl)))
local macro_rules | `(tactic| k_extra "en2") => `(tactic| ((case c2 => exact rfl); (case c3 => exact rfl); (case c4 => exact rfl)))
local macro_rules | `(tactic| k_extra "my enter") => `(tactic| (k_extra "en1"; (case kB => exact locs rfl); (case c5 => decide); k_extra "en2"))
theorem conv_name {w : World} {outer : List Env} {g : Heap} {s : Shared} {R : Result → Shared → Prop} {self : Value} {x : Str} {t : Tok} (W : Wd w outer g [] s) (hx : cleanN x)
  (hret : ∀ h' tk', Wd w outer g [] { s with heap := h', toks := tk' } → R (.ok (.ret (.str x t))) { s with heap := h', toks := tk' }) :
  codeAny (model PySem.Challenge.rw_yf0037_01.row.prog w) (Lv 490 outer) (.call (.ref 70) ⟨[self, .str x t], [("name", .bool true)]⟩) R s := by
  obtain ⟨⟨A₀, base, B⟩, X, ⟨mean, mg, mb, T⟩, -, -, -⟩ := id W
  refine' enter (binds := [("self", self), ("value", .str x t), ("name", .bool true)]) W ?k6 ?k7 ?k8 ?k9 ?kB ?_ ?c5 ?c2 ?c3 ?c4
  k_extra "my enter"
  intro L' h₁ F N _
  (try dsimp only)
  k_steps
  exact hret _ _ (W.step (by k_asm) News.nil)
theorem conv_value {w : World} {outer : List Env} {g : Heap} {s : Shared} {R : Result → Shared → Prop} {self : Value} {x : Str} {t : Tok} (W : Wd w outer g [] s) (hx : cleanV x)
  (hret : ∀ h' tk', Wd w outer g [] { s with heap := h', toks := tk' } → R (.ok (.ret (.str x t))) { s with heap := h', toks := tk' }) :
  codeAny (model PySem.Challenge.rw_yf0037_01.row.prog w) (Lv 490 outer) (.call (.ref 70) ⟨[self, .str x t], [("name", .bool false)]⟩) R s := by
  obtain ⟨⟨A₀, base, B⟩, X, ⟨mean, mg, mb, T⟩, -, -, -⟩ := id W
  refine' enter (binds := [("self", self), ("value", .str x t), ("name", .bool false)]) W ?k6 ?k7 ?k8 ?k9 ?kB ?_ ?c5 ?c2 ?c3 ?c4
  k_extra "my enter"
  intro L' h₁ F N _
  (try dsimp only)
  k_steps
  exact hret _ _ (W.step (by k_asm) News.nil)
section
variable {w : World} {A : Around} {h₀ : Heap} {all : List Env} {L : Addr} {m : Str → Option Value} {s : Shared} {mean : ExcName → Option Value} {mg mb : Str → Option Value} {news : Led} {Q E : Value → Shared → Prop}
theorem conv_name_use {self : Value} {x : Str} {t : Tok} (F : Fr h₀ L s.heap m) (X : (hd.heap_1 w.params).In h₀) (T : Top View Loose mean mg mb h₀) (hB : FB A h₀ L m all) (N : News h₀ L s.heap news)
    (hh : A.handled = none) (hd : A.depth ≤ 490) (hu : A.units ≤ 490) (hx : cleanN x)
    (h : ∀ h' tk', Fr h₀ L h' m → News h₀ L h' news → Q (.str x t) { s with heap := h', toks := tk' }) :
    wpAny (model PySem.Challenge.rw_yf0037_01.row.prog w) A (call (.ref 70) [self, .str x t] [("name", .bool true)]) Q E s :=
  wpAny_call (use (fp := []) (rest := news) F X T hB N (fun _ _ _ h => nomatch h) hh hd hu fun g W => conv_name W hx fun h' tk' W' => ⟨[], W', fun F' N' _ => h h' tk' F' N'⟩)
theorem conv_value_use {self : Value} {x : Str} {t : Tok} (F : Fr h₀ L s.heap m) (X : (hd.heap_1 w.params).In h₀) (T : Top View Loose mean mg mb h₀) (hB : FB A h₀ L m all) (N : News h₀ L s.heap news)
    (hh : A.handled = none) (hd : A.depth ≤ 490) (hu : A.units ≤ 490) (hx : cleanV x)
    (h : ∀ h' tk', Fr h₀ L h' m → News h₀ L h' news → Q (.str x t) { s with heap := h', toks := tk' }) :
    wpAny (model PySem.Challenge.rw_yf0037_01.row.prog w) A (call (.ref 70) [self, .str x t] [("name", .bool false)]) Q E s :=
  wpAny_call (use (fp := []) (rest := news) F X T hB N (fun _ _ _ h => nomatch h) hh hd hu fun g W => conv_value W hx fun h' tk' W' => ⟨[], W', fun F' N' _ => h h' tk' F' N'⟩)
end
local macro_rules | `(tactic| k_extra "my enterC") => `(tactic| (k_extra "en1"; (case kB => exact rfl); (case kD => decide +kernel); k_extra "en2"))
local macro_rules | `(tactic| k_extra "u5") => `(tactic| (k_asm; k_asm; k_asm; (first | exact fbComp (by k_asm) | exact fbFun (by k_asm) rfl rfl rfl); k_asm))
local macro_rules | `(tactic| k_extra "u3") => `(tactic| (exact rfl; k_extra "b"; k_extra "b"))
local macro_rules | `(tactic| k_extra "my use") => `(tactic| (k_extra "u5"; k_extra "u3"))
local macro_rules | `(tactic| k_extra "c0") => `(tactic| (k_dflt (k_extra "my use"); intros))
local macro_rules | `(tactic| k_extra "c1") => `(tactic| (k_dflt (k_extra "my use"; k_extra "q"); intros))
local macro_rules | `(tactic| k_extra "c3") => `(tactic| (k_dflt (k_extra "my use"; iterate 3 k_extra "q"); intros))
local macro_rules | `(tactic| k_extra "c5") => `(tactic| (k_dflt (k_extra "my use"; iterate 5 k_extra "q"); intros))
local macro_rules | `(tactic| k_extra "e6") => `(tactic| (k_dflt (k_extra "my use"; iterate 6 k_asm)))
local macro_rules | `(tactic| walk_at "call ref") => `(tactic| (with_reducible refine callN 70 ?_; first | (k_dflt (apply conv_name_use; k_extra "c1")) | (k_dflt (apply conv_value_use; k_extra "c1"))))
local macro_rules | `(tactic| walk_at "exec For") => `(tactic| refine wpAny_For ?_)
local macro_rules | `(tactic| walk_at "pyIter ref") => `(tactic| (k_dflt (apply pyIterN; k_extra "FN"; k_mem; k_whole); k_extra "zl"))
local macro_rules | `(tactic| k_extra "my go") => `(tactic| first | exact goName | exact goTuple)
local macro_rules | `(tactic| walk_at "assign Tuple") => `(tactic| (k_dflt (apply unpackN_; k_extra "FN"; exact News.isTup (by k_asm) (by k_mem); exact rfl; exact rfl; exact rfl; k_whole); k_extra "z"))
local macro_rules | `(tactic| walk_at "ite") => `(tactic| first | (refine iteT (by k_extra "q") ?_) | (refine iteF (by k_extra "q") ?_))
section
variable {prog : Program} {w : World} {A : Around} {E : Value → Shared → Prop} {s : Shared} {R : Result → Shared → Prop}
/-- one turn of a list comprehension's loop -/
theorem compLoop_once {elt target iter : Expr} {ifs : List Expr} {scope : Scope} {pos : Pos} {it acc : Value} {env : Env}
    (turn : wpAny (model prog w) A (pyNext it) (fun r s₁ => match r with
      | none => R (.ok .next) s₁
      | some v => wpAny (model prog w) A (letOwnedTupleGo target it v) (fun _ s₁' => wpAny (model prog w) A (assign target env v) (fun _ s₂ =>
          wpAny (model prog w) A (forIn ifs true fun c r => if r = true then do let ok ← isTrue c env (eval c env); pure (ForInStep.yield ok) else pure (ForInStep.yield r)) (fun ok s₃ =>
            if ok = true then wpAny (model prog w) A (eval elt env) (fun x s₄ =>
              wpAny (model prog w) A (call (.builtin "list.append") [acc, x]) (fun _ s₅ => codeAny (model prog w) A (.compLoop (.ListComp elt [⟨target, iter, ifs, 0⟩] scope pos) 0 it acc env) R s₅) (notedBy (model prog w) A env fun e s' => R (.error e) s') s₄) (notedBy (model prog w) A env fun e s' => R (.error e) s') s₃
            else codeAny (model prog w) A (.compLoop (.ListComp elt [⟨target, iter, ifs, 0⟩] scope pos) 0 it acc env) R s₃) (notedBy (model prog w) A env fun e s' => R (.error e) s') s₂) (notedBy (model prog w) A env fun e s' => R (.error e) s') s₁') (notedBy (model prog w) A env fun e s' => R (.error e) s') s₁) (notedBy (model prog w) A env fun e s' => R (.error e) s') s) :
    codeAny (model prog w) A (.compLoop (.ListComp elt [⟨target, iter, ifs, 0⟩] scope pos) 0 it acc env) R s := by
  refine codeAny_of_tree ?_
  show wpAny _ A ((compTurn (.ListComp elt [⟨target, iter, ifs, 0⟩] scope pos) 0 it acc env).onRaise (fun x => do noteFrame x env; theTreesLotGoes x)) _ _ s
  refine wpAny_noted ?_
  rw [compTurn_list]
  refine wpAny_bind (wpAny_standAt (wpAny_bind (wpAny_mono turn (fun r s₁ h₁ => ?_) fun _ _ h' => h')))
  cases r with
  | none => exact wpAny_pure h₁
  | some v =>
    refine wpAny_bind (wpAny_mono h₁ (fun _ s₁' h₁' => ?_) fun _ _ h' => h')
    refine wpAny_bind (wpAny_mono h₁' (fun _ s₂ h₂ => wpAny_bind (wpAny_mono h₂ (fun ok s₃ h₃ => ?_) fun _ _ h' => h')) fun _ _ h' => h')
    cases ok with
    | false => exact wpAny_pure ⟨rfl, h₃⟩
    | true =>
      exact wpAny_bind (wpAny_bind (wpAny_mono h₃ (fun x s₄ h₄ => wpAny_bind (wpAny_mono h₄ (fun _ s₅ h₅ => wpAny_pure (wpAny_pure ⟨rfl, h₅⟩)) fun _ _ h' => h')) fun _ _ h' => h'))
variable {h₀ : Heap} {L : Addr} {m : Str → Option Value} {news : Led}
/-- what the comprehension's loop owes at its end -/
noncomputable def CompR (prog : Program) (w : World) (A : Around) (E : Value → Shared → Prop) (h₀ : Heap) (L : Addr) (m : Str → Option Value) (g : Heap) (C : Addr) (Q : Value → Shared → Prop) (acc : Value) : Result → Shared → Prop := fun r s' => match r with
  | .ok _ => ∃ m' news', Fr g C s'.heap m' ∧ News g C s'.heap news' ∧ ∀ h'', Fr h₀ L h'' m → News h₀ L h'' news' → Q acc { s' with heap := h'' }
  | .error x => compPost (model prog w) A E none Q acc C (.error x) s'
theorem compR_end {g : Heap} {C : Addr} {Q : Value → Shared → Prop} {acc : Value} {m' : Str → Option Value} {news' : Led} {f : Flow} {s' : Shared} (F : Fr g C s'.heap m') (N : News g C s'.heap news')
    (h : ∀ h'', Fr h₀ L h'' m → News h₀ L h'' news' → Q acc { s' with heap := h'' }) : CompR prog w A E h₀ L m g C Q acc (.ok f) s' := ⟨m', news', F, N, h⟩
theorem compEnvN {A₀ : Around} {base : Heap} {outer : List Env} {env : Env} {elt target iter : Expr} {ifs : List Expr} {scope : Scope} {pos : Pos} {cl : List (Str × Addr)} {I l : Addr} {i : Nat} {d : Option Addr} {sl : Array (Option Value)} {acc : Value} {Q : Value → Shared → Prop}
    (B : Below A₀ base outer h₀) (F : Fr h₀ L s.heap m) (N : News h₀ L s.heap news) (hm : (I, iterG l i d sl) ∈ news) (hA : A.frames = some (env :: outer)) (hf : env.frame = some L) (hke : env.scope.kind = .function)
    (hcell : ∀ y ∈ scope.names, y.2 ≠ .cell) (hk : scope.kind = .function)
    (h : ∀ g C h' tk, Fr g C h' (fun _ => none) → News g C h' news → (∀ p ∈ news, p.1 < C) → h₀.StaysIn g → Below A base (env :: outer) g →
      codeAny (model prog w) A (.compLoop (.ListComp elt [⟨target, iter, ifs, 0⟩] scope pos) 0 (.ref I) acc (compEnvC scope cl C env)) (CompR prog w A E h₀ L m g C Q acc) { s with heap := h', toks := tk }) :
    wpAny (model prog w) A (newFunctionEnv scope env.globals cl [] env.qual none .none (some env)) (fun cenv s₄ =>
      codeAny (model prog w) A (.compStart (.ListComp elt [⟨target, iter, ifs, 0⟩] scope pos) 0 (.ref I) acc { cenv with scope := relabel scope env }) (compPost (model prog w) A E none Q acc cenv.locals) s₄) E s := by
  obtain ⟨FG, BG, st, _⟩ := groundX (R := fun _ _ => True) B F N hA hf hke
  have hsz : (hideAll s.heap (news.map (·.1))).objs.size = s.heap.objs.size := hideAll_size _ _
  have hkp : ∀ b o, (hideAll s.heap (news.map (·.1))).get? b = some o → s.heap.get? b = some o := fun b o e => of_hideAll _ e
  have hn : ∀ p ∈ news, (hideAll s.heap (news.map (·.1))).get? p.1 = none := fun p hp => hideAll_none _ (List.mem_map_of_mem hp)
  generalize hideAll s.heap (news.map (·.1)) = g at FG BG st hsz hkp hn
  refine wpAny_newFunctionEnv hcell (by intro y hy; simp at hy) (fun h₁ hns₁ hsb₁ => ?_) hk
  have old : ∀ b o, s.heap.get? b = some o → h₁.get? b = some o := fun b o e => hsb₁.extBut b o (Nat.ne_of_lt (Heap.lt_size e)) (Heap.get?_push_of_some _ e)
  have F₁ : Fr g s.heap.objs.size h₁ (fun _ => none) := ⟨hns₁, fun b o e => old b o (hkp b o e), Nat.le_of_eq hsz⟩
  have N₁ : News g s.heap.objs.size h₁ news := fun p hp => ⟨old _ _ (N p hp).1, Nat.ne_of_lt (Heap.lt_size (N p hp).1), hn p hp⟩
  have lp := h g s.heap.objs.size h₁ (s.toks + ([] : List (Str × Value)).length) F₁ N₁ (fun p hp => Heap.lt_size (N p hp).1) st BG
  have hpost : ∀ r s', CompR prog w A E h₀ L m g s.heap.objs.size Q acc r s' → compPost (model prog w) A E none Q acc s.heap.objs.size r s' := fun r s' hr => by
    cases r with
    | error x => exact hr
    | ok f =>
      obtain ⟨m', news', F', N', k⟩ := hr
      refine ⟨m', F'.ns, fun h'' hs'' => k h'' ?_ fun p hp => ?_⟩
      · obtain ⟨oL, es, ep, hL, hLd, hLk, hLf⟩ := FG.ns
        have hC : ∀ b o, g.get? b = some o → b ≠ s.heap.objs.size := fun b o e q => by
          have h1 := Heap.lt_size e
          rw [q, hsz] at h1
          exact Nat.lt_irrefl _ h1
        have hall : ∀ b o, g.get? b = some o → h''.get? b = some o := fun b o e => (hs''.2 b (hC b o e)).trans (F'.keep b o e)
        exact ⟨⟨oL, es, ep, hall L oL hL, hLd, hLk, hLf⟩, fun b o e => hall b o (st b o e), F.above⟩
      · obtain ⟨oL, es, ep, hL, -, -, -⟩ := FG.ns
        refine ⟨(hs''.2 _ (N' p hp).2.1).trans (N' p hp).1, fun q => ?_, ?_⟩
        · have := (N' p hp).2.2; rw [q, hL] at this; cases this
        · cases q : h₀.get? p.1 with
          | none => rfl
          | some o => have := (N' p hp).2.2; rw [st _ _ q] at this; cases this
  have lp' := codeAny_mono lp hpost
  have hit : h₁.IsListIter I l i := ⟨_, (N₁ _ hm).1, rfl, rfl⟩
  exact codeAny_compStart_list lp' (wpAny_pyIter_listiter hit lp')
theorem comp_turnN {target iter elt : Expr} {scope : Scope} {pos : Pos} {acc : Value} {env : Env} {I l : Addr} {i n : Nat} {d : Option Addr} {sl : Array (Option Value)} {its : Array Value} {v : Value} {gf : Obj → Led} (F : Fr h₀ L s.heap m) (N : News h₀ L s.heap news) (hl : (l, listOf its n) ∈ news) (hx : its.toList[i]? = some v)
    (hU : UpdF I (iterG l i d sl) news gf) (hg : GoOk target v)
    (h : ∀ h' d' sl', Fr h₀ L h' m → News h₀ L h' (gf (iterG l (i + 1) d' sl')) → wpAny (model prog w) A (assign target env v) (fun _ s₂ => wpAny (model prog w) A (eval elt env) (fun x s₄ =>
              wpAny (model prog w) A (call (.builtin "list.append") [acc, x]) (fun _ s₅ => codeAny (model prog w) A (.compLoop (.ListComp elt [⟨target, iter, [], 0⟩] scope pos) 0 (.ref I) acc env) R s₅) (notedBy (model prog w) A env fun e s' => R (.error e) s') s₄) (notedBy (model prog w) A env fun e s' => R (.error e) s') s₂) (notedBy (model prog w) A env fun e s' => R (.error e) s') { s with heap := h' }) :
    codeAny (model prog w) A (.compLoop (.ListComp elt [⟨target, iter, [], 0⟩] scope pos) 0 (.ref I) acc env) R s := by
  obtain ⟨pre, post, rfl, hgf, h1, h2⟩ := hU.split
  have hi : (I, iterG l i d sl) ∈ pre ++ (I, iterG l i d sl) :: post := by simp
  have hit : s.heap.IsListIter I l i := ⟨_, (N _ hi).1, rfl, rfl⟩
  refine compLoop_once (wpAny_pyNext_list_item hit (N.isList hl) (by rw [← Array.getElem?_toList]; exact hx) fun h' hit' hs' => ?_)
  obtain ⟨⟨c', d', dt', sl'⟩, ho', hc', hd'⟩ := id hit'
  dsimp only at hc' hd'
  subst hc' hd'
  refine hg _ _ _ _ _ _ _ _ _ hit' (wpAny_mono (h h' d' sl' (F.update N hi hs') ?_) (fun _ s₂ h₂ => wpAny_tests_nil (by rw [if_pos rfl]; exact h₂)) fun _ _ e => e)
  rw [hgf]
  exact news_set N h1 h2 hs' ho'
theorem comp_turnN1 {target iter elt c : Expr} {scope : Scope} {pos : Pos} {acc : Value} {env : Env} {I l : Addr} {i n : Nat} {d : Option Addr} {sl : Array (Option Value)} {its : Array Value} {v : Value} {gf : Obj → Led} (F : Fr h₀ L s.heap m) (N : News h₀ L s.heap news) (hl : (l, listOf its n) ∈ news) (hx : its.toList[i]? = some v)
    (hU : UpdF I (iterG l i d sl) news gf) (hg : GoOk target v)
    (h : ∀ h' d' sl', Fr h₀ L h' m → News h₀ L h' (gf (iterG l (i + 1) d' sl')) → wpAny (model prog w) A (assign target env v) (fun _ s₂ => wpAny (model prog w) A (isTrue c env (eval c env)) (fun ok s₃ => if ok = true then wpAny (model prog w) A (eval elt env) (fun x s₄ =>
              wpAny (model prog w) A (call (.builtin "list.append") [acc, x]) (fun _ s₅ => codeAny (model prog w) A (.compLoop (.ListComp elt [⟨target, iter, [c], 0⟩] scope pos) 0 (.ref I) acc env) R s₅) (notedBy (model prog w) A env fun e s' => R (.error e) s') s₄) (notedBy (model prog w) A env fun e s' => R (.error e) s') s₃
            else codeAny (model prog w) A (.compLoop (.ListComp elt [⟨target, iter, [c], 0⟩] scope pos) 0 (.ref I) acc env) R s₃) (notedBy (model prog w) A env fun e s' => R (.error e) s') s₂) (notedBy (model prog w) A env fun e s' => R (.error e) s') { s with heap := h' }) :
    codeAny (model prog w) A (.compLoop (.ListComp elt [⟨target, iter, [c], 0⟩] scope pos) 0 (.ref I) acc env) R s := by
  obtain ⟨pre, post, rfl, hgf, h1, h2⟩ := hU.split
  have hi : (I, iterG l i d sl) ∈ pre ++ (I, iterG l i d sl) :: post := by simp
  have hit : s.heap.IsListIter I l i := ⟨_, (N _ hi).1, rfl, rfl⟩
  refine compLoop_once (wpAny_pyNext_list_item hit (N.isList hl) (by rw [← Array.getElem?_toList]; exact hx) fun h' hit' hs' => ?_)
  obtain ⟨⟨c', d', dt', sl'⟩, ho', hc', hd'⟩ := id hit'
  dsimp only at hc' hd'
  subst hc' hd'
  refine hg _ _ _ _ _ _ _ _ _ hit' (wpAny_mono (h h' d' sl' (F.update N hi hs') ?_) (fun _ s₂ h₂ => wpAny_tests_one h₂) fun _ _ e => e)
  rw [hgf]
  exact news_set N h1 h2 hs' ho'
theorem comp_endN {target iter elt : Expr} {ifs : List Expr} {scope : Scope} {pos : Pos} {acc : Value} {env : Env} {I l : Addr} {i n : Nat} {d : Option Addr} {sl : Array (Option Value)} {its : Array Value} {news' : Led} (F : Fr h₀ L s.heap m) (N : News h₀ L s.heap news) (hl : (l, listOf its n) ∈ news) (hi : (I, iterG l i d sl) ∈ news) (hx : its.toList[i]? = none) (hh : A.handled = none)
    (hU : Drop I news news')
    (h : ∀ h', Fr h₀ L h' m → News h₀ L h' news' → R (.ok .next) { s with heap := h' }) :
    codeAny (model prog w) A (.compLoop (.ListComp elt [⟨target, iter, ifs, 0⟩] scope pos) 0 (.ref I) acc env) R s := by
  have hit : s.heap.IsListIter I l i := ⟨_, (N _ hi).1, rfl, rfl⟩
  refine compLoop_once (wpAny_pyNext_list_end hh hit (N.isList hl) (by rw [← Array.getElem?_toList]; exact hx) fun h' he' => h h' ?_ fun p hp => ?_)
  · have hne : ∀ b x, h₀.get? b = some x → b ≠ I := fun b x e hba => by have := (N _ hi).2.2; rw [← hba, e] at this; cases this
    exact ⟨F.ns.extBut he' ((N _ hi).2.1).symm, fun b o e => he' b o (hne b o e) (F.keep b o e), F.above⟩
  · exact ⟨he' _ _ (hU.mem p hp).2 (N p (hU.mem p hp).1).1, (N p (hU.mem p hp).1).2⟩
theorem listCompN {env : Env} {elt target iter : Expr} {ifs : List Expr} {scope : Scope} {pos : Pos} {cl : List (Str × Addr)} {Q : Value → Shared → Prop} (hclos : closureFor scope env = pure cl) (hkind : scope.kind = .function)
    (hnames : (scope.names.all fun x => x.2 != .local || scope.names.lookup x.1 == some .local) = true) (hs : ∀ x, foldedSetIterable iter env x = pure x)
    (h : wpAny (model prog w) A (eval iter env) (fun x s₁ => wpAny (model prog w) A (pyIter x) (fun it s₂ => wpAny (model prog w) A (newList []) (fun acc s₃ =>
      wpAny (model prog w) A (newFunctionEnv scope env.globals cl [] env.qual none .none (some env)) (fun cenv s₄ =>
        codeAny (model prog w) A (.compStart (.ListComp elt [⟨target, iter, ifs, 0⟩] scope pos) 0 it acc { cenv with scope := relabel scope env }) (compPost (model prog w) A E none Q acc cenv.locals) s₄) E s₃) E s₂) E s₁) E s) :
    wpAny (model prog w) A (eval (.ListComp elt [⟨target, iter, ifs, 0⟩] scope pos) env) Q E s := by
  rw [eval_ListComp]
  refine wpAny_comprehension_free (use := none) rfl hs hclos hkind (fun x hx hl => ?_) h
  have := List.all_eq_true.mp hnames x hx
  rw [hl] at this
  simpa using this
theorem ldComp {scope : Scope} {cl : List (Str × Addr)} {C : Addr} {env : Env} {x : Str} {pos : Pos} {v : Value} {Q : Value → Shared → Prop} (F : Fr h₀ C s.heap m) (hx : m x = some v) (h : Q v s)
    (hk : (compEnvC scope cl C env).scope.kind = .function) (hl : (compEnvC scope cl C env).kindOf x = some .local) (hd : (x == ("__debug__" : Str)) = false) :
    wpAny (model prog w) A (eval (.Name x pos) (compEnvC scope cl C env)) Q E s := wpAny_Name (wpAny_loadName_local hk hl F.ns hx h) hd
theorem stComp {scope : Scope} {cl : List (Str × Addr)} {C : Addr} {env : Env} {x : Str} {v : Value} {Q : Unit → Shared → Prop} (F : Fr h₀ C s.heap m) (N : News h₀ C s.heap news)
    (h : ∀ h' tk', Fr h₀ C h' (fun y => if y = x then some v else m y) → News h₀ C h' news → Q () { s with heap := h', toks := tk' })
    (hk : (compEnvC scope cl C env).scope.kind = .function) (hl : (compEnvC scope cl C env).kindOf x = some .local) : wpAny (model prog w) A (storeName (compEnvC scope cl C env) x v) Q E s :=
  wpAny_storeName_local hl F.ns (fun h' hn hs => h h' _ (F.set hn hs) (N.set hs)) (by rw [hk]; rfl)
end
theorem kinKeeps {w : World} {h₀ g : Heap} (X : (hd.heap_1 w.params).In h₀) (st : h₀.StaysIn g) : (hd.heap_1 w.params).In g := X.keeps st
theorem topKeeps {mean : ExcName → Option Value} {mg mb : Str → Option Value} {h₀ g : Heap} (T : Top View Loose mean mg mb h₀) (st : h₀.StaysIn g) : Top View Loose mean mg mb g := T.keeps st
local macro_rules | `(tactic| k_extra "my drop") => `(tactic| first | (apply Drop.head; k_all) | (apply Drop.tail; k_ne; k_extra "my drop"))
local macro_rules | `(tactic| walk_at "eval ListComp") => `(tactic| (k_dflt (apply listCompN; with_unfolding_all rfl; exact rfl; exact rfl; (intro _; exact rfl); k_whole)))
local macro_rules | `(tactic| k_extra "ce") => `(tactic| (k_extra "FN"; (case B => k_asm); k_mem; exact rfl; exact rfl; exact rfl; decide; exact rfl))
local macro_rules | `(tactic| k_extra "zc") => `(tactic| (intro g' C' h' tk' F' N' l1 st' B'; (have X' := kinKeeps (by k_asm) st'); (have T' := topKeeps (by k_asm) st'); (try k_lt l1); (try dsimp only)))
local macro_rules | `(tactic| walk_at "newFunctionEnv") => `(tactic| (k_dflt (apply compEnvN; k_extra "ce"; k_whole); k_extra "zc"))
local macro_rules | `(tactic| k_extra "tn") => `(tactic| (k_extra "FNU"; k_mem; exact rfl; k_extra "my go"; k_whole))
local macro_rules | `(tactic| k_extra "te") => `(tactic| (k_extra "FN"; (case hi => k_mem); k_mem; exact rfl; exact rfl; k_extra "my drop"; k_whole))
local macro_rules | `(tactic| walk_at "codeAny") => `(tactic| (k_dflt (first | (apply for_turnN; k_extra "tn") | (apply comp_turnN; k_extra "tn") | (apply comp_turnN1; k_extra "tn")); k_extra "zn"))
local macro_rules | `(tactic| walk_at "codeAny") => `(tactic| (k_dflt (first | (apply for_endN; k_extra "te") | (apply comp_endN; k_extra "te")); k_extra "z"))
local macro_rules | `(tactic| walk_at "CompR") => `(tactic| (k_dflt (apply compR_end; k_extra "FN"; k_whole); intros; (try dsimp only)))
local macro_rules | `(tactic| walk_at "storeName") => `(tactic| (with_reducible (show wpAny _ _ (storeName (compEnvC _ _ _ _) _ _) _ _ _); k_dflt (refine' stComp ?F ?N ?_ rfl rfl; k_extra "FN"; k_whole); k_extra "z"))
section
variable {prog : Program} {w : World} {A : Around} {E : Value → Shared → Prop} {s : Shared}
theorem setItem_all {l sl v : Addr} {items new : Array Value} {n k : Nat} {Q : Unit → Shared → Prop} (hl : s.heap.get? l = some (listOf items n))
    (hs : s.heap.get? sl = some { cls := .type "slice", data := .fields #[.none, .none, .none] }) (hv : s.heap.get? v = some (listOf new k)) (hne : l ≠ v) (hz : items.size + new.size ≤ 1000)
    (h : ∀ h' n', h'.get? l = some (listOf new n') → Heap.SameBut l s.heap h' → Q () { s with heap := h' }) : wpAny (model prog w) A (setItem (.ref l) (.ref sl) (.ref v)) Q E s := by
  have hL : s.heap.IsList l items := ⟨_, hl, rfl, _, rfl⟩
  have hTs : s.TypeIs (.ref sl) "slice" := ⟨_, hs, rfl⟩
  have hTv : s.TypeIs (.ref v) "list" := ⟨_, hv, rfl⟩
  unfold setItem
  refine wpAny_holding ?_
  refine wpAny_bind (wpAny_sequenceKey hL.typeIs (by decide) ?_)
  refine wpAny_bind (wpAny_callSpecial?_slot (name := Str.ofString "__setitem__") hL.typeIs slot_list_setitem
    (wpAny_call_entry slot_list_setitem hL.typeIs entry_list_setitem ?_ (args_list_setitem _ _ _)))
  show wpAny _ _ (Builtin.List.listSubscript? (.ref sl) >>= _) _ _ s
  refine wpAny_bind ?_
  unfold Builtin.List.listSubscript?
  refine wpAny_bind (wpAny_specialOf hTs slice_no_index ?_)
  simp only [Option.isNone_none, if_true]
  refine wpAny_pure ?_
  show wpAny _ _ (typeOf (.ref sl) >>= _) _ _ s
  refine wpAny_bind (wpAny_typeOf hTs ?_)
  rw [if_neg (by decide)]
  rw [listSliceParts_eq]
  refine wpAny_bind (wpAny_bind (wpAny_field hs rfl (x := .none) rfl (wpAny_bind (wpAny_listPart .none ?_))))
  rw [if_neg (show ¬ ((rawPart none == rawInt 0) = true) from Bool.false_ne_true)]
  refine wpAny_bind (wpAny_field hs rfl (x := .none) rfl (wpAny_bind (wpAny_listPart .none ?_)))
  refine wpAny_bind (wpAny_field hs rfl (x := .none) rfl (wpAny_bind (wpAny_listPart .none (wpAny_pure ?_))))
  have hsame : Builtin.List.listSameRef (.ref l) (.ref v) = false := by
    show (l == v) = false
    simpa using hne
  rw [if_neg (by rw [hsame]; exact Bool.false_ne_true)]
  refine wpAny_bind (m := Builtin.List.listAllItems (.ref v) "must assign iterable to extended slice") ?_
  unfold Builtin.List.listAllItems
  refine wpAny_bind (wpAny_typeOf hTv ?_)
  rw [if_pos (by decide)]
  unfold Builtin.List.listItems
  refine wpAny_bind (wpAny_seqItems hv rfl (wpAny_pure ?_))
  refine wpAny_bind (m := Builtin.List.listItems (.ref l)) ?_
  unfold Builtin.List.listItems
  refine wpAny_bind (wpAny_seqItems hl rfl (wpAny_pure ?_))
  refine wpAny_bind (wpAny_of_eq (sliceIndices_raw none none none items.size (by simp)) ?_)
  rw [if_pos (by rfl)]
  refine wpAny_bind (wpAny_rule ?_)
  rw [if_neg (by show ¬ (decide (items.size + new.size > sizeLine) = true); rw [decide_eq_true_eq, sizeLine_eq]; omega)]
  have e : items.extract 0 (sliceBounds none none none items.size).1.toNat ++ new ++ items.extract (max (sliceBounds none none none items.size).1 (sliceBounds none none none items.size).2.1).toNat = new := by
    have h0 : (sliceBounds none none none items.size).1.toNat = 0 := rfl
    have h1 : (max (sliceBounds none none none items.size).1 (sliceBounds none none none items.size).2.1).toNat = items.size := by
      show (max (0 : Int) (items.size : Int)).toNat = items.size
      omega
    rw [h0, h1]
    simp
  refine wpAny_bind (m := Builtin.List.listUpdate (.ref l) _) ?_
  show wpAny _ _ (updateSeq l _) _ _ s
  refine wpAny_updateSeq hl rfl ?_ (by rw [sizeLine_eq]; omega) (by rw [e, sizeLine_eq]; omega)
  refine wpAny_bind (wpAny_letGo (wpAny_pure ⟨_, rfl, ?_⟩))
  refine wpAny_pure (h _ (if new.size == items.size then n else n + 1) ?_ (Heap.SameBut.update ..))
  rw [Heap.get?_update_self _ hl (by rfl)]
  show some (Obj.mapSeq _ (listOf items n)) = _
  unfold Obj.mapSeq
  dsimp only
  rw [e]
end
section
variable {prog : Program} {w : World} {A : Around} {E : Value → Shared → Prop} {h₀ hp : Heap} {L : Addr} {m : Str → Option Value} {news : Led} {gn : Array GenState} {dr : Drawn} {tk : Nat} {os : OsState}
theorem setSliceN {l v : Addr} {items new : Array Value} {n k : Nat} {gf : Obj → Led} {Q : Unit → Shared → Prop} (F : Fr h₀ L hp m) (N : News h₀ L hp news) (hU : UpdF l (listOf items n) news gf) (hv : (v, listOf new k) ∈ news) (hne : l ≠ v) (hz : items.size + new.size ≤ 1000)
    (h : ∀ h' n', Fr h₀ L h' m → News h₀ L h' (gf (listOf new n')) → Q () ⟨h', gn, dr, tk, os⟩) :
    wpAny (model prog w) A (setItem (.ref l) (.ref hp.objs.size) (.ref v)) Q E ⟨hp.push { cls := .type "slice", data := .fields #[.none, .none, .none] }, gn, dr, tk, os⟩ := by
  obtain ⟨pre, post, rfl, hgf, h1, h2⟩ := hU.split
  have hl : (l, listOf items n) ∈ pre ++ (l, listOf items n) :: post := by simp
  have NP := N.push F { cls := .type "slice", data := .fields #[.none, .none, .none] }
  have FP := F.push { cls := .type "slice", data := .fields #[.none, .none, .none] }
  refine setItem_all (s := ⟨hp.push { cls := .type "slice", data := .fields #[.none, .none, .none] }, gn, dr, tk, os⟩) (NP _ (.tail _ hl)).1 (NP _ (.head _)).1 (NP _ (.tail _ hv)).1 hne hz fun h' n' hg hs' => h h' n' (FP.update NP (.tail _ hl) hs') ?_
  rw [hgf]
  exact news_set (fun p hp => NP p (.tail _ hp)) h1 h2 hs' hg
end
local macro_rules | `(tactic| k_extra "sl") => `(tactic| (k_extra "FNU"; k_mem; k_ne))
local macro_rules | `(tactic| walk_at "setItem ref ref ref") => `(tactic| (dsimp only; k_dflt (apply setSliceN; k_extra "sl"; k_extra "b"; k_whole); k_extra "zn"))
noncomputable abbrev deckL (P : Params) (D dd Lh : Addr) (tk : Tok) (items : List Value) (n : Nat) : Led :=
  [(D, instObj 171 dd), (dd, dictOf [⟨PyData.keyHash P (Str.ofString "_headers"), .str (Str.ofString "_headers") tk, .ref Lh⟩] 1), (Lh, listOf items.toArray n)]
structure Card where
  t : Addr
  k : Str
  v : Str
  a : Tok
  b : Tok
noncomputable abbrev cardO (c : Card) : Addr × Obj := (c.t, tupOf [.str c.k c.a, .str c.v c.b])
noncomputable def deckC (P : Params) (D dd Lh : Addr) (tk : Tok) (n : Nat) (cs : List Card) : Led := deckL P D dd Lh tk (cs.map fun c => .ref c.t) n ++ cs.map cardO
/-- the deck's own three things; its cards lie among the tuples E -/
noncomputable def deckE (P : Params) (D dd Lh : Addr) (tk : Tok) (n : Nat) (cs : List Card) (E : Led) : Led := deckL P D dd Lh tk (cs.map fun c => .ref c.t) n ++ E
noncomputable def Tups (E : Led) : Prop := ∀ p ∈ E, ∃ vs, p.2 = tupOf vs
noncomputable def Has (cs : List Card) (E : Led) : Prop := ∀ c ∈ cs, (c.t, tupOf [.str c.k c.a, .str c.v c.b]) ∈ E
theorem neObj {h₀ h : Heap} {L a b : Addr} {o o' : Obj} {news : Led} (N : News h₀ L h news) (ha : (a, o) ∈ news) (hb : (b, o') ∈ news) (hne : o ≠ o') : Ap a b := fun e => hne (by
  have h1 := (N _ ha).1
  have h2 := (N _ hb).1
  dsimp only at h1 h2
  rw [show a = b from e, h2] at h1
  exact (Option.some.inj h1).symm)
theorem objNe {o o' : Obj} (h : (o.cls == o'.cls) = false) : o ≠ o' := fun e => by
  rw [e] at h
  simp at h
theorem ledSub {h₀ h : Heap} {L : Addr} {fp news : Led} (N : News h₀ L h news) (hs : ∀ p ∈ fp, p ∈ news) : News h₀ L h fp := fun p hp => N p (hs p hp)
/-- x differs from every address of dk -/
noncomputable def OffD (x : Addr) (dk : Led) : Prop := ∀ q ∈ dk, Ap x q.1
theorem OffD.ne {x : Addr} {dk : Led} (h : OffD x dk) : ∀ p ∈ dk, p.1 ≠ x := fun p hp => (h p hp).ne'
theorem OffD.ofLt {x : Addr} : ∀ {dk : Led}, AllLt x dk → OffD x dk
  | [], _ => fun _ h => nomatch h
  | p :: r, ⟨h, k⟩ => fun q hq => by
    rcases List.mem_cons.mp hq with rfl | hq
    · exact Ne.symm (Nat.ne_of_lt h)
    · exact OffD.ofLt k q hq
theorem OffD.ofLt1 {x : Addr} : ∀ {dk : Led}, AllLt x dk → OffD (x + 1) dk
  | [], _ => fun _ h => nomatch h
  | p :: r, ⟨h, k⟩ => fun q hq => by
    rcases List.mem_cons.mp hq with rfl | hq
    · exact Ne.symm (Nat.ne_of_lt (Nat.lt_succ_of_lt h))
    · exact OffD.ofLt1 k q hq
theorem offTups {h₀ h : Heap} {L a : Addr} {o : Obj} {news E : Led} (N : News h₀ L h news) (ha : (a, o) ∈ news) (hE : ∀ p ∈ E, p ∈ news) (hT : Tups E) (hc : (o.cls == .type "tuple") = false) : OffD a E := fun q hq => by
  obtain ⟨vs, hv⟩ := hT q hq
  refine neObj N ha (show (q.1, q.2) ∈ news from hE q hq) (objNe ?_)
  rw [hv]; exact hc
/-- a tail taken off a ledger -/
inductive Tail (dk : Led) : Led → Led → Prop
  | here : Tail dk dk []
  | cons {p l r} : Tail dk l r → Tail dk (p :: l) (p :: r)
theorem Tail.mem {dk l r : Led} (t : Tail dk l r) : ∀ p ∈ dk ++ r, p ∈ l := by
  induction t with
  | here => intro p hp; rwa [List.append_nil] at hp
  | cons _ ih =>
    intro p hp
    rcases List.mem_append.mp hp with h | h
    · exact .tail _ (ih p (List.mem_append_left _ h))
    · rcases List.mem_cons.mp h with rfl | h
      · exact .head _
      · exact .tail _ (ih p (List.mem_append_right _ h))
theorem Tail.back {dk l r : Led} (t : Tail dk l r) : l = r ++ dk := by
  induction t with
  | here => rfl
  | cons _ ih => exact congrArg _ ih
theorem News.swap {h₀ h : Heap} {L : Addr} {a b : Led} (N : News h₀ L h (a ++ b)) : News h₀ L h (b ++ a) := fun p hp => N p (by
  rcases List.mem_append.mp hp with h | h
  · exact List.mem_append_right _ h
  · exact List.mem_append_left _ h)
theorem News.parts {h₀ h : Heap} {L : Addr} {a b : Led} : News h₀ L h (a ++ b) ↔ News h₀ L h a ∧ News h₀ L h b :=
  ⟨fun N => ⟨fun p hp => N p (List.mem_append_left _ hp), fun p hp => N p (List.mem_append_right _ hp)⟩, fun ⟨x, y⟩ p hp => (List.mem_append.mp hp).elim (x p) (y p)⟩
theorem memIn {p : Addr × Obj} {l : Led} (h : p ∈ l) : p ∈ l := h
theorem lkHere {x : Str} {u : Value} {b : Option Value} : (if x = x then some u else b) = some u := if_pos rfl
theorem lkElse {x y : Str} {a b v : Option Value} (h : decide (x = y) = false) (e : b = v) : (if x = y then a else b) = v := by rw [if_neg (of_decide_eq_false h)]; exact e
/-- a ledger, some of its things left out -/
inductive SubL : Led → Led → Prop
  | refl {l} : SubL l l
  | cons {p a b} : SubL a b → SubL (p :: a) (p :: b)
  | drop {p a b} : SubL a b → SubL a (p :: b)
theorem SubL.mem {a b : Led} (t : SubL a b) : ∀ p ∈ a, p ∈ b := by
  induction t with
  | refl => exact fun _ h => h
  | cons _ ih => exact List.forall_mem_cons.mpr ⟨.head _, fun p hp => .tail _ (ih p hp)⟩
  | drop _ ih => exact fun p hp => .tail _ (ih p hp)
/-- a loop at which the walker stops -/
noncomputable def Halt (p : Prop) : Prop := p
theorem Halt.forL {M : Model} {A : Around} {t : PySem.Expr} {it : Value} {b o : List Stmt} {env : Env} {R : Result → Shared → Prop} {s : Shared} (h : Halt (codeAny M A (.forLoop t it b o env) R s)) : codeAny M A (.forLoop t it b o env) R s := h
theorem Halt.comp {M : Model} {A : Around} {c : PySem.Expr} {n : Nat} {it acc : Value} {env : Env} {R : Result → Shared → Prop} {s : Shared} (h : Halt (codeAny M A (.compLoop c n it acc env) R s)) : codeAny M A (.compLoop c n it acc env) R s := h
local macro_rules | `(tactic| k_extra "my led") => `(tactic| (refine ledSub (by k_asm) ?_; first | (refine SubL.mem ?_; (try dsimp only [deckE, deckL, List.cons_append, List.nil_append]); k_dflt (k_extra "my subl")) | k_dflt lcg_sub))
local macro_rules | `(tactic| k_extra "my subl") => `(tactic| first | (with_reducible exact SubL.refl) | (refine SubL.cons ?_; k_extra "my subl") | (refine SubL.drop ?_; k_extra "my subl"))
local macro_rules | `(tactic| k_extra "my tail") => `(tactic| first | exact Tail.here | (apply Tail.cons; k_extra "my tail"))
local macro_rules | `(tactic| k_all) => `(tactic| with_reducible (first | exact OffD.ne ‹_› | exact OffD.ne (OffD.ofLt ‹_›)))
local macro_rules | `(tactic| k_extra "my look") => `(tactic| first | k_extra "q" | (with_reducible exact lkHere) | (refine lkElse rfl ?_; k_extra "my look") | exact rfl)
local macro_rules | `(tactic| walk_at "eval Name") => `(tactic| (k_dflt (refine' nameX_L ?F ?v ?_ rfl rfl; (case F => k_asm); (case v => k_extra "my look"); k_whole)))
local macro_rules | `(tactic| walk_at "eval Name") => `(tactic| (with_reducible (show wpAny _ _ (eval _ (compEnvC _ _ _ _)) _ _ _); k_dflt (refine' ldComp ?F ?v ?_ rfl rfl (by decide); (case F => k_asm); (case v => k_extra "my look"); k_whole)))
local macro_rules | `(tactic| k_extra "my mem0") => `(tactic| first | k_extra "q" | exact List.mem_cons_self | (refine List.mem_cons_of_mem _ ?_; k_extra "my mem0"))
local macro_rules | `(tactic| k_mem) => `(tactic| (refine memIn ?_; k_extra "my mem0"))
/-- s, its heap and its counter of texts anew -/
noncomputable abbrev At (s : Shared) (h : Heap) (tk : Nat) : Shared := { s with heap := h, toks := tk }
section
variable {prog : Program} {w : World} {A : Around} {R : Result → Shared → Prop} {L I l : Addr} {g : Heap} {base : Led} {target : PySem.Expr} {body : List Stmt} {env : Env} {s₀ : Shared}
/-- what a turn of a for loop owes -/
noncomputable def TurnFor (L I l : Addr) (i : Nat) (g : Heap) (base : Led) (P : (Str → Option Value) → Prop) (R : Result → Shared → Prop) (s₀ : Shared) (f : Flow) (s : Shared) : Prop := match f with
  | .next | .cont => ∃ h tk m' d sl, s = At s₀ h tk ∧ Fr g L h m' ∧ News g L h ((I, iterG l i d sl) :: base) ∧ P m'
  | .brk => R (.ok .next) s
  | .ret v => R (.ok (.ret v)) s
/-- a for loop over a list, nothing made in it -/
theorem forListG {vs : Array Value} {n : Nat} (P : Nat → (Str → Option Value) → Prop) (hh : A.handled = none) (hg : ∀ (i : Nat) (v : Value), vs.toList[i]? = some v → GoOk target v)
    (step : ∀ (i : Nat) (v : Value) h tk m d sl (E₁ E₂ : Value → Shared → Prop), vs.toList[i]? = some v → P i m → Fr g L h m → News g L h ((I, iterG l (i + 1) d sl) :: base) →
      wpAny (model prog w) A (assign target env v) (fun _ s₂ => wpAny (model prog w) A (execs body env) (fun f s₃ => TurnFor L I l (i + 1) g base (P (i + 1)) R s₀ f s₃) E₁ s₂) E₂ (At s₀ h tk))
    (hl : (l, listOf vs n) ∈ base) (hb : ∀ p ∈ base, p.1 ≠ I)
    (hend : ∀ h tk m, P vs.size m → Fr g L h m → News g L h base → R (.ok .next) (At s₀ h tk)) :
    ∀ (j i : Nat) (h : Heap) (tk : Nat) (m : Str → Option Value) (d : Option Addr) (sl : Array (Option Value)), i + j = vs.size → P i m → Fr g L h m → News g L h ((I, iterG l i d sl) :: base) →
      codeAny (model prog w) A (.forLoop target (.ref I) body [] env) R (At s₀ h tk)
  | 0, i, h, tk, m, d, sl, hi, hP, F, N => by
    have hi' : i = vs.size := hi
    subst hi'
    exact for_endN (s := At s₀ h tk) (its := vs) F N (.tail _ hl) (.head _) (by simp) hh (.head hb) fun h' F' N' => hend h' tk _ hP F' N'
  | j + 1, i, h, tk, m, d, sl, hi, hP, F, N => by
    have hlt : i < vs.toList.length := by simp; omega
    refine for_turnN (s := At s₀ h tk) (its := vs) (v := vs.toList[i]) F N (.tail _ hl) (by rw [List.getElem?_eq_getElem hlt]) (.head hb) (hg i _ (List.getElem?_eq_getElem hlt)) fun h' d' sl' F' N' => ?_
    refine wpAny_mono (step i _ h' tk m d' sl' _ _ (List.getElem?_eq_getElem hlt) hP F' N') (fun _ s₂ h₂ => wpAny_mono h₂ (fun f s₃ h₃ => ?_) fun _ _ e => e) fun _ _ e => e
    cases f with
    | next => obtain ⟨h2, tk2, m', d2, sl2, rfl, F2, N2, P2⟩ := h₃; exact forListG P hh hg step hl hb hend j (i + 1) h2 tk2 m' d2 sl2 (by omega) P2 F2 N2
    | cont => obtain ⟨h2, tk2, m', d2, sl2, rfl, F2, N2, P2⟩ := h₃; exact forListG P hh hg step hl hb hend j (i + 1) h2 tk2 m' d2 sl2 (by omega) P2 F2 N2
    | brk => exact h₃
    | ret v => exact h₃
end
section
variable {prog : Program} {w : World} {A : Around} {R : Result → Shared → Prop} {C I l : Addr} {acc : Addr} {g : Heap} {base : Led} {target iter elt c : PySem.Expr} {scope : Scope} {pos : Pos} {env : Env} {s₀ : Shared}
/-- what a turn of a comprehension owes, nothing made in it -/
noncomputable def TurnFilt (C acc I l : Addr) (i : Nat) (ys : List Value) (k : Nat) (g : Heap) (base : Led) (s₀ : Shared) (P : Prop) (s : Shared) : Prop :=
  ∃ h tk m' d sl, s = At s₀ h tk ∧ Fr g C h m' ∧ News g C h ((acc, listOf ys.toArray k) :: (I, iterG l i d sl) :: base) ∧ P
theorem pushList (ys : List Value) (x : Value) : ys.toArray.push x = (ys ++ [x]).toArray := by simp
/-- [.. for .. in l if c], turn by turn -/
theorem compFiltG {vs : Array Value} {n : Nat} (P : Nat → List Value → Prop) (hh : A.handled = none) (hg : ∀ (i : Nat) (v : Value), vs.toList[i]? = some v → GoOk target v) (hsz : vs.size ≤ 1000)
    (step : ∀ (i : Nat) (v : Value) ys h tk m d sl k (E₁ E₂ E₃ : Value → Shared → Prop), vs.toList[i]? = some v → P i ys → Fr g C h m → News g C h ((acc, listOf ys.toArray k) :: (I, iterG l (i + 1) d sl) :: base) →
      wpAny (model prog w) A (assign target env v) (fun _ s₂ => wpAny (model prog w) A (isTrue c env (eval c env)) (fun ok s₃ => if ok = true then wpAny (model prog w) A (eval elt env) (fun x s₄ => TurnFilt C acc I l (i + 1) ys k g base s₀ (P (i + 1) (ys ++ [x])) s₄) E₁ s₃
        else TurnFilt C acc I l (i + 1) ys k g base s₀ (P (i + 1) ys) s₃) E₂ s₂) E₃ (At s₀ h tk))
    (hl : (l, listOf vs n) ∈ base) (hb : ∀ p ∈ base, p.1 ≠ acc ∧ p.1 ≠ I) (hai : acc ≠ I)
    (hend : ∀ ys h tk m k, P vs.size ys → Fr g C h m → News g C h ((acc, listOf ys.toArray k) :: base) → R (.ok .next) (At s₀ h tk)) :
    ∀ (j i : Nat) (ys : List Value) (h : Heap) (tk : Nat) (m : Str → Option Value) (d : Option Addr) (sl : Array (Option Value)) (k : Nat), i + j = vs.size → ys.length ≤ i → P i ys → Fr g C h m → News g C h ((acc, listOf ys.toArray k) :: (I, iterG l i d sl) :: base) →
      codeAny (model prog w) A (.compLoop (.ListComp elt [⟨target, iter, [c], 0⟩] scope pos) 0 (.ref I) (.ref acc) env) R (At s₀ h tk)
  | 0, i, ys, h, tk, m, d, sl, k, hi, hy, hP, F, N => by
    have hi' : i = vs.size := hi
    subst hi'
    exact comp_endN (s := At s₀ h tk) (its := vs) F N (.tail _ (.tail _ hl)) (.tail _ (.head _)) (by simp) hh (.tail hai (.head fun p hp => (hb p hp).2)) fun h' F' N' => hend ys h' tk _ _ hP F' N'
  | j + 1, i, ys, h, tk, m, d, sl, k, hi, hy, hP, F, N => by
    have hlt : i < vs.toList.length := by simp; omega
    refine comp_turnN1 (s := At s₀ h tk) (its := vs) (v := vs.toList[i]) F N (.tail _ (.tail _ hl)) (by rw [List.getElem?_eq_getElem hlt]) (.tail hai (.head fun p hp => (hb p hp).2)) (hg i _ (List.getElem?_eq_getElem hlt)) fun h' d' sl' F' N' => ?_
    refine wpAny_mono (step i _ ys h' tk m d' sl' k (notedBy (model prog w) A env fun e s' => R (.error e) s') _ _ (List.getElem?_eq_getElem hlt) hP F' N') (fun _ s₂ h₂ => wpAny_mono h₂ (fun ok s₃ h₃ => ?_) fun _ _ e => e) fun _ _ e => e
    cases ok with
    | false =>
      obtain ⟨h2, tk2, m', d2, sl2, rfl, F2, N2, P2⟩ : TurnFilt C acc I l (i + 1) ys k g base s₀ (P (i + 1) ys) s₃ := h₃
      show codeAny _ _ _ _ _
      exact compFiltG P hh hg hsz step hl hb hai hend j (i + 1) ys h2 tk2 m' d2 sl2 k (by omega) (by omega) P2 F2 N2
    | true =>
      show wpAny _ _ _ _ _ _
      refine wpAny_mono (show wpAny _ _ _ _ _ _ from h₃) (fun x s₄ h₄ => ?_) fun _ _ e => e
      obtain ⟨h2, tk2, m', d2, sl2, rfl, F2, N2, P2⟩ := h₄
      refine append_K (s := At s₀ h2 tk2) F2 N2 (.head fun p hp => ?_) (fun h5 F5 N5 => ?_) (by rw [sizeLine_eq]; simp; omega)
      · rcases List.mem_cons.mp hp with rfl | hp
        · exact Ne.symm hai
        · exact (hb p hp).1
      · rw [pushList] at N5
        exact compFiltG P hh hg hsz step hl hb hai hend j (i + 1) _ h5 tk2 m' d2 sl2 _ (by omega) (by simp; omega) P2 F5 N5
/-- [.. for .. in l], turn by turn, nothing made in it -/
theorem compMapG {vs : Array Value} {n : Nat} (P : Nat → List Value → Prop) (hh : A.handled = none) (hg : ∀ (i : Nat) (v : Value), vs.toList[i]? = some v → GoOk target v) (hsz : vs.size ≤ 1000)
    (step : ∀ (i : Nat) (v : Value) ys h tk m d sl k (E₁ E₂ : Value → Shared → Prop), vs.toList[i]? = some v → P i ys → Fr g C h m → News g C h ((acc, listOf ys.toArray k) :: (I, iterG l (i + 1) d sl) :: base) →
      wpAny (model prog w) A (assign target env v) (fun _ s₂ => wpAny (model prog w) A (eval elt env) (fun x s₄ => TurnFilt C acc I l (i + 1) ys k g base s₀ (P (i + 1) (ys ++ [x])) s₄) E₁ s₂) E₂ (At s₀ h tk))
    (hl : (l, listOf vs n) ∈ base) (hb : ∀ p ∈ base, p.1 ≠ acc ∧ p.1 ≠ I) (hai : acc ≠ I)
    (hend : ∀ ys h tk m, P vs.size ys → Fr g C h m → News g C h ((acc, listOf ys.toArray vs.size) :: base) → R (.ok .next) (At s₀ h tk)) :
    ∀ (j i : Nat) (ys : List Value) (h : Heap) (tk : Nat) (m : Str → Option Value) (d : Option Addr) (sl : Array (Option Value)), i + j = vs.size → ys.length ≤ i → P i ys → Fr g C h m → News g C h ((acc, listOf ys.toArray i) :: (I, iterG l i d sl) :: base) →
      codeAny (model prog w) A (.compLoop (.ListComp elt [⟨target, iter, [], 0⟩] scope pos) 0 (.ref I) (.ref acc) env) R (At s₀ h tk)
  | 0, i, ys, h, tk, m, d, sl, hi, hy, hP, F, N => by
    have hi' : i = vs.size := hi
    subst hi'
    exact comp_endN (s := At s₀ h tk) (its := vs) F N (.tail _ (.tail _ hl)) (.tail _ (.head _)) (by simp) hh (.tail hai (.head fun p hp => (hb p hp).2)) fun h' F' N' => hend ys h' tk _ hP F' N'
  | j + 1, i, ys, h, tk, m, d, sl, hi, hy, hP, F, N => by
    have hlt : i < vs.toList.length := by simp; omega
    refine comp_turnN (s := At s₀ h tk) (its := vs) (v := vs.toList[i]) F N (.tail _ (.tail _ hl)) (by rw [List.getElem?_eq_getElem hlt]) (.tail hai (.head fun p hp => (hb p hp).2)) (hg i _ (List.getElem?_eq_getElem hlt)) fun h' d' sl' F' N' => ?_
    refine wpAny_mono (step i _ ys h' tk m d' sl' i _ _ (List.getElem?_eq_getElem hlt) hP F' N') (fun _ s₂ h₂ => wpAny_mono h₂ (fun x s₄ h₄ => ?_) fun _ _ e => e) fun _ _ e => e
    obtain ⟨h2, tk2, m', d2, sl2, rfl, F2, N2, P2⟩ := h₄
    refine append_K (s := At s₀ h2 tk2) F2 N2 (.head fun p hp => ?_) (fun h5 F5 N5 => ?_) (by rw [sizeLine_eq]; simp; omega)
    · rcases List.mem_cons.mp hp with rfl | hp
      · exact Ne.symm hai
      · exact (hb p hp).1
    · rw [pushList] at N5
      exact compMapG P hh hg hsz step hl hb hai hend j (i + 1) _ h5 tk2 m' d2 sl2 (by omega) (by simp; omega) P2 F5 N5
end
theorem refAt {cs : List Card} {i : Nat} {v : Value} (hv : ((cs.map fun c => Value.ref c.t).toArray).toList[i]? = some v) : ∃ e, cs[i]? = some e ∧ v = .ref e.t := by
  rw [List.getElem?_map] at hv
  obtain ⟨e, he, rfl⟩ := Option.map_eq_some_iff.mp hv
  exact ⟨e, he, rfl⟩
section
local macro_rules | `(tactic| walk_at "codeAny") => `(tactic| (k_here; first | (with_reducible refine Halt.forL ?_) | (with_reducible refine Halt.comp ?_)))
theorem get_spec {w : World} {outer : List Env} {g : Heap} {s : Shared} {R : Result → Shared → Prop} {D dd Lh : Addr} {tk : Tok} {n : Nat} {cs : List Card} {E : Led} {x : Str} {t : Tok} {c : Card} {j : Nat}
  (W : Wd w outer g (deckE w.params D dd Lh tk n cs E) s) (hE : Has cs E) (hc : cleanN (Txt.lower x)) (hl : x.length ≤ 100) (hk : ∀ c ∈ cs, c.k.length ≤ 100)
  (hj : cs[j]? = some c) (hm : (Txt.lower c.k == Txt.lower x) = true) (hn : ∀ i d, i < j → cs[i]? = some d → (Txt.lower d.k == Txt.lower x) = false)
  (hret : ∀ h' tk', Wd w outer g (deckE w.params D dd Lh tk n cs E) { s with heap := h', toks := tk' } → R (.ok (.ret (.str c.v c.b))) { s with heap := h', toks := tk' }) :
  codeAny (model PySem.Challenge.rw_yf0037_01.row.prog w) (Lv 480 outer) (.call (.ref 118) ⟨[.ref D, .str x t], []⟩) R s := by
  have XS := W.kin.keeps W.keep
  obtain ⟨⟨A₀, base, B⟩, X, ⟨mean, mg, mb, T⟩, -, -, -⟩ := id W
  refine' enter (binds := [("self", .ref D), ("name", .str x t), ("default", .none)]) W ?k6 ?k7 ?k8 ?k9 ?kB ?_ ?c5 ?c2 ?c3 ?c4
  k_extra "my enter"
  intro L' h₁ F N hlt
  dsimp only [deckE, deckL, List.cons_append, List.nil_append] at N hlt
  k_lt hlt
  (try dsimp only)
  k_steps
  rename_i lx _ _ _ F3 N3 I h4 F4 N4 i1 i2 i3 lI
  refine forListG (n := n) (s₀ := s) (vs := (cs.map fun c => .ref c.t).toArray) (fun i m => i ≤ j ∧ ∃ t', m (Str.ofString "name") = some (.str (Txt.lower x) t')) rfl (fun i v hv => ?hg) ?step ?hl ?hb ?hend cs.length 0 h4 _ _ none #[] (by simp) ⟨Nat.zero_le _, _, rfl⟩ F4 N4
  case hg => obtain ⟨e, -, rfl⟩ := refAt hv; exact goTuple
  case hl => exact .tail _ (.tail _ (.head _))
  case hb => exact List.forall_mem_cons.mpr ⟨Nat.ne_of_lt i1, List.forall_mem_cons.mpr ⟨Nat.ne_of_lt i2, List.forall_mem_cons.mpr ⟨Nat.ne_of_lt i3, (OffD.ofLt lI).ne⟩⟩⟩
  case hend =>
    intro _ _ _ hP
    obtain ⟨h1, -⟩ := hP
    have : j < cs.length := by
      have := List.getElem?_eq_some_iff.mp hj
      exact this.1
    simp at h1
    omega
  case step =>
    clear F3 N3 F4 N4
    intro i v h tk m d sl E1 E2 hv hP F N
    obtain ⟨e, he, rfl⟩ := refAt hv
    obtain ⟨hij, tn, hmn⟩ := hP
    have me := hE e (List.mem_of_getElem? he)
    have le := hk e (List.mem_of_getElem? he)
    clear hv
    cases hz : (Txt.lower e.k == Txt.lower x) with
    | true =>
      have hji : i = j := by
        rcases Nat.lt_or_ge i j with h | h
        · rw [hn i e h he] at hz; cases hz
        · omega
      subst hji
      rw [hj] at he
      cases he
      (try dsimp only)
      k_steps
      all_goals (try dsimp only)
      exact hret _ _ (W.step (by k_asm) fun p hp => (by k_asm : News g L' _ ((I, _) :: _)) p (.tail _ hp))
    | false =>
      have hlt' : i < j := by
        rcases Nat.lt_or_ge i j with h | h
        · exact h
        · have : i = j := by omega
          subst this
          rw [hj] at he; cases he
          rw [hz] at hm; cases hm
      (try dsimp only)
      k_steps
      dsimp only [TurnFor]
      refine ⟨_, _, _, _, _, rfl, by k_asm, by k_asm, hlt', tn, ?_⟩
      k_extra "my look"
theorem keys_spec {w : World} {outer : List Env} {g : Heap} {s : Shared} {R : Result → Shared → Prop} {D dd Lh : Addr} {tk : Tok} {n : Nat} {cs : List Card} {E : Led}
  (W : Wd w outer g (deckE w.params D dd Lh tk n cs E) s) (hE : Has cs E) (hz : cs.length ≤ 100)
  (hret : ∀ h' tk' l, Wd w outer g ((l, listOf (cs.map fun c => .str c.k c.a).toArray cs.length) :: deckE w.params D dd Lh tk n cs E) { s with heap := h', toks := tk' } → OffD l (deckE w.params D dd Lh tk n cs E) → R (.ok (.ret (.ref l))) { s with heap := h', toks := tk' }) :
  codeAny (model PySem.Challenge.rw_yf0037_01.row.prog w) (Lv 480 outer) (.call (.ref 123) ⟨[.ref D], []⟩) R s := by
  have XS := W.kin.keeps W.keep
  obtain ⟨⟨A₀, base, B⟩, X, ⟨mean, mg, mb, T⟩, -, -, -⟩ := id W
  refine' enter (binds := [("self", .ref D)]) W ?k6 ?k7 ?k8 ?k9 ?kB ?_ ?c5 ?c2 ?c3 ?c4
  k_extra "my enter"
  intro L' h₁ F N hlt
  dsimp only [deckE, deckL, List.cons_append, List.nil_append] at N hlt
  k_lt hlt
  (try dsimp only)
  k_steps
  rename_i I h2 i1 i2 i3 lI acc h3 F3 N3 a0 a1 a2 a3 lA gr C h4 tk4 F4 N4 st4 B4 X4 T4 c0 c1 c2 c3 c4 lC
  refine compMapG (s₀ := s) (n := n) (vs := (cs.map fun c => .ref c.t).toArray) (fun i ys => ys = (cs.take i).map fun c => .str c.k c.a) rfl (fun i v hv => ?hg) (by simp; omega) ?step ?hl ?hb ?hai ?hend cs.length 0 [] h4 _ _ none #[] (by simp) (Nat.le_refl _) rfl F4 N4
  case hg => obtain ⟨e, -, rfl⟩ := refAt hv; exact goTuple
  case hl => exact .tail _ (.tail _ (.head _))
  case hb => exact List.forall_mem_cons.mpr ⟨⟨Nat.ne_of_lt a1, Nat.ne_of_lt i1⟩, List.forall_mem_cons.mpr ⟨⟨Nat.ne_of_lt a2, Nat.ne_of_lt i2⟩, List.forall_mem_cons.mpr ⟨⟨Nat.ne_of_lt a3, Nat.ne_of_lt i3⟩, fun p hp => ⟨(OffD.ofLt lA).ne p hp, (OffD.ofLt lI).ne p hp⟩⟩⟩⟩
  case hai => exact Nat.ne_of_gt a0
  case hend =>
    clear F3 N3 F4 N4
    intro ys h tk m hP F N
    rw [show cs.take (cs.map fun c => Value.ref c.t).toArray.size = cs from List.take_of_length_le (by simp)] at hP
    subst hP
    rw [show (cs.map fun c => Value.ref c.t).toArray.size = cs.length by simp] at N
    (try dsimp only)
    k_steps
    all_goals (try dsimp only)
    exact hret _ _ _ (W.step (by k_asm) (by k_asm)) (List.forall_mem_cons.mpr ⟨Ap.of (Nat.ne_of_gt a1), List.forall_mem_cons.mpr ⟨Ap.of (Nat.ne_of_gt a2), List.forall_mem_cons.mpr ⟨Ap.of (Nat.ne_of_gt a3), OffD.ofLt lA⟩⟩⟩)
  case step =>
    clear F3 N3 F4 N4
    intro i v ys h tk m d sl k E1 E2 hv hP F N
    obtain ⟨e, he, rfl⟩ := refAt hv
    subst hP
    have me := hE e (List.mem_of_getElem? he)
    clear hv
    (try dsimp only)
    k_steps
    dsimp only [TurnFilt]
    refine ⟨_, _, _, _, _, rfl, by k_asm, by k_asm, ?_⟩
    rw [List.take_add_one, he]
    simp
theorem values_spec {w : World} {outer : List Env} {g : Heap} {s : Shared} {R : Result → Shared → Prop} {D dd Lh : Addr} {tk : Tok} {n : Nat} {cs : List Card} {E : Led}
  (W : Wd w outer g (deckE w.params D dd Lh tk n cs E) s) (hE : Has cs E) (hz : cs.length ≤ 100)
  (hret : ∀ h' tk' l, Wd w outer g ((l, listOf (cs.map fun c => .str c.v c.b).toArray cs.length) :: deckE w.params D dd Lh tk n cs E) { s with heap := h', toks := tk' } → OffD l (deckE w.params D dd Lh tk n cs E) → R (.ok (.ret (.ref l))) { s with heap := h', toks := tk' }) :
  codeAny (model PySem.Challenge.rw_yf0037_01.row.prog w) (Lv 480 outer) (.call (.ref 128) ⟨[.ref D], []⟩) R s := by
  have XS := W.kin.keeps W.keep
  obtain ⟨⟨A₀, base, B⟩, X, ⟨mean, mg, mb, T⟩, -, -, -⟩ := id W
  refine' enter (binds := [("self", .ref D)]) W ?k6 ?k7 ?k8 ?k9 ?kB ?_ ?c5 ?c2 ?c3 ?c4
  k_extra "my enter"
  intro L' h₁ F N hlt
  dsimp only [deckE, deckL, List.cons_append, List.nil_append] at N hlt
  k_lt hlt
  (try dsimp only)
  k_steps
  rename_i I h2 i1 i2 i3 lI acc h3 F3 N3 a0 a1 a2 a3 lA gr C h4 tk4 F4 N4 st4 B4 X4 T4 c0 c1 c2 c3 c4 lC
  refine compMapG (s₀ := s) (n := n) (vs := (cs.map fun c => .ref c.t).toArray) (fun i ys => ys = (cs.take i).map fun c => .str c.v c.b) rfl (fun i v hv => ?hg) (by simp; omega) ?step ?hl ?hb ?hai ?hend cs.length 0 [] h4 _ _ none #[] (by simp) (Nat.le_refl _) rfl F4 N4
  case hg => obtain ⟨e, -, rfl⟩ := refAt hv; exact goTuple
  case hl => exact .tail _ (.tail _ (.head _))
  case hb => exact List.forall_mem_cons.mpr ⟨⟨Nat.ne_of_lt a1, Nat.ne_of_lt i1⟩, List.forall_mem_cons.mpr ⟨⟨Nat.ne_of_lt a2, Nat.ne_of_lt i2⟩, List.forall_mem_cons.mpr ⟨⟨Nat.ne_of_lt a3, Nat.ne_of_lt i3⟩, fun p hp => ⟨(OffD.ofLt lA).ne p hp, (OffD.ofLt lI).ne p hp⟩⟩⟩⟩
  case hai => exact Nat.ne_of_gt a0
  case hend =>
    clear F3 N3 F4 N4
    intro ys h tk m hP F N
    rw [show cs.take (cs.map fun c => Value.ref c.t).toArray.size = cs from List.take_of_length_le (by simp)] at hP
    subst hP
    rw [show (cs.map fun c => Value.ref c.t).toArray.size = cs.length by simp] at N
    (try dsimp only)
    k_steps
    all_goals (try dsimp only)
    exact hret _ _ _ (W.step (by k_asm) (by k_asm)) (List.forall_mem_cons.mpr ⟨Ap.of (Nat.ne_of_gt a1), List.forall_mem_cons.mpr ⟨Ap.of (Nat.ne_of_gt a2), List.forall_mem_cons.mpr ⟨Ap.of (Nat.ne_of_gt a3), OffD.ofLt lA⟩⟩⟩)
  case step =>
    clear F3 N3 F4 N4
    intro i v ys h tk m d sl k E1 E2 hv hP F N
    obtain ⟨e, he, rfl⟩ := refAt hv
    subst hP
    have me := hE e (List.mem_of_getElem? he)
    clear hv
    (try dsimp only)
    k_steps
    dsimp only [TurnFilt]
    refine ⟨_, _, _, _, _, rfl, by k_asm, by k_asm, ?_⟩
    rw [List.take_add_one, he]
    simp
theorem items_spec {w : World} {outer : List Env} {g : Heap} {s : Shared} {R : Result → Shared → Prop} {D dd Lh : Addr} {tk : Tok} {n : Nat} {cs : List Card} {E : Led}
  (W : Wd w outer g (deckE w.params D dd Lh tk n cs E) s) (hE : Has cs E) (hz : cs.length ≤ 100)
  (hret : ∀ h' tk' l, Wd w outer g ((l, listOf (cs.map fun c => .ref c.t).toArray 0) :: deckE w.params D dd Lh tk n cs E) { s with heap := h', toks := tk' } → OffD l (deckE w.params D dd Lh tk n cs E) → R (.ok (.ret (.ref l))) { s with heap := h', toks := tk' }) :
  codeAny (model PySem.Challenge.rw_yf0037_01.row.prog w) (Lv 480 outer) (.call (.ref 135) ⟨[.ref D], []⟩) R s := by
  have XS := W.kin.keeps W.keep
  obtain ⟨⟨A₀, base, B⟩, X, ⟨mean, mg, mb, T⟩, -, -, -⟩ := id W
  refine' enter (binds := [("self", .ref D)]) W ?k6 ?k7 ?k8 ?k9 ?kB ?_ ?c5 ?c2 ?c3 ?c4
  k_extra "my enter"
  intro L' h₁ F N hlt
  dsimp only [deckE, deckL, List.cons_append, List.nil_append] at N hlt
  k_lt hlt
  (try dsimp only)
  k_steps
  rename_i h9 F9 N9
  dsimp only at N9
  rw [slicePick_all] at N9
  refine hret _ _ _ (W.step F9 N9) fun q hq => ?_
  have : @LT.lt Nat _ q.1 h₁.objs.size := Heap.lt_size (N q hq).1
  exact Ap.of (Nat.ne_of_gt (Nat.lt_succ_of_lt this))
end
/-- a card's name is not x -/
noncomputable def notN (x : Str) (c : Card) : Bool := Txt.lower c.k != Txt.lower x
section
local macro_rules | `(tactic| walk_at "codeAny") => `(tactic| (k_here; first | (with_reducible refine Halt.forL ?_) | (with_reducible refine Halt.comp ?_)))
local macro_rules | `(tactic| walk_at "setItem ref ref ref") => `(tactic| (k_here; dsimp only; k_dflt (refine' setSliceN ?F ?N ?hU ?hv ?hne ?hz ?_; (case F => k_asm); (case N => k_asm); (case hU => k_updF); (case hv => k_mem); (case hne => k_ne); (case hz => assumption); k_whole); intro h' n' F' N'; (try dsimp only at N'); (try dsimp only); (try k_sweep)))
theorem del_spec {w : World} {outer : List Env} {g : Heap} {s : Shared} {R : Result → Shared → Prop} {D dd Lh : Addr} {tk : Tok} {n : Nat} {cs : List Card} {E : Led} {x : Str} {t : Tok}
  (W : Wd w outer g (deckE w.params D dd Lh tk n cs E) s) (hE : Has cs E) (hT : Tups E) (hc : cleanN (Txt.lower x)) (hl : x.length ≤ 100) (hk : ∀ c ∈ cs, c.k.length ≤ 100) (hz : cs.length ≤ 100)
  (hret : ∀ h' tk' n', Wd w outer g (deckE w.params D dd Lh tk n' (cs.filter (notN x)) E) { s with heap := h', toks := tk' } → R (.ok (.ret .none)) { s with heap := h', toks := tk' }) :
  codeAny (model PySem.Challenge.rw_yf0037_01.row.prog w) (Lv 480 outer) (.call (.ref 89) ⟨[.ref D, .str x t], []⟩) R s := by
  have XS := W.kin.keeps W.keep
  obtain ⟨⟨A₀, base, B⟩, X, ⟨mean, mg, mb, T⟩, -, -, -⟩ := id W
  refine' enterC (binds := [("self", .ref D), ("name", .str x t)]) W ?k6 ?k7 ?k8 ?k9 ?kB ?kD ?_ ?c2 ?c3 ?c4
  k_extra "my enterC"
  intro L' h₁ tk' cells F N Y hlt
  k_cells Y
  dsimp only [deckE, deckL, List.append, HAppend.hAppend, Append.append, List.append_eq] at N hlt
  k_lt hlt
  have o1 : OffD (L' + 1) E := OffD.ofLt1 hlt
  have oE : OffD Lh E := offTups N (by k_mem) (fun p hp => .tail _ (.tail _ (.tail _ (.tail _ hp)))) hT (by rfl)
  have nD : Ap D Lh := neObj N (by k_mem) (by k_mem) (objNe (by rfl))
  have ndd : Ap dd Lh := neObj N (by k_mem) (by k_mem) (objNe (by rfl))
  (try dsimp only)
  k_steps
  rename_i oc dc tk0 I h2 i0 i1 i2 i3 lI acc h3 F3 N3 a0 a1 a2 a3 a4 lA gr C h4 tk4 F4 N4 st4 B4 X4 T4 c0 c1 c2 c3 c4 c5 lC
  refine compFiltG (s₀ := s) (n := n) (vs := (cs.map fun c => .ref c.t).toArray) (fun i ys => ys = ((cs.take i).filter (notN x)).map fun c => .ref c.t) rfl (fun i v hv => ?hg) (by simp; omega) ?step ?hl ?hb ?hai ?hend cs.length 0 [] h4 _ _ none #[] 0 (by simp) (Nat.le_refl _) rfl F4 N4
  case hg => exact goName
  case hl => exact .tail _ (.tail _ (.tail _ (.head _)))
  case hb => exact List.forall_mem_cons.mpr ⟨⟨Nat.ne_of_lt a1, Nat.ne_of_lt i0⟩, List.forall_mem_cons.mpr ⟨⟨Nat.ne_of_lt a2, Nat.ne_of_lt i1⟩, List.forall_mem_cons.mpr ⟨⟨Nat.ne_of_lt a3, Nat.ne_of_lt i2⟩, List.forall_mem_cons.mpr ⟨⟨Nat.ne_of_lt a4, Nat.ne_of_lt i3⟩, fun p hp => ⟨(OffD.ofLt lA).ne p hp, (OffD.ofLt lI).ne p hp⟩⟩⟩⟩⟩
  case hai => exact Nat.ne_of_gt a0
  case hend =>
    clear F3 N3 F4 N4
    intro ys h tk m k hP F N
    rw [show cs.take (cs.map fun c => Value.ref c.t).toArray.size = cs from List.take_of_length_le (by simp)] at hP
    subst hP
    have hzz : (cs.map fun c => Value.ref c.t).toArray.size + (((cs.filter (notN x)).map fun c => Value.ref c.t).toArray).size ≤ 1000 := by
      have := List.length_filter_le (notN x) cs
      simp; omega
    (try dsimp only)
    k_steps
    all_goals (try dsimp only)
    refine' hret _ _ _ (W.step (by k_asm) ?led)
    case led => k_extra "my led"
    all_goals k_data
  case step =>
    clear F3 N3 F4 N4
    intro i v ys h tk m d sl k E1 E2 E3 hv hP F N
    obtain ⟨e, he, rfl⟩ := refAt hv
    subst hP
    have me := hE e (List.mem_of_getElem? he)
    have le := hk e (List.mem_of_getElem? he)
    clear hv
    cases hz : (Txt.lower e.k != Txt.lower x) with
    | true =>
      (try dsimp only)
      k_steps
      dsimp only [TurnFilt]
      refine ⟨_, _, _, _, _, rfl, by k_asm, by k_asm, ?_⟩
      rw [List.take_add_one, he, List.filter_append, List.map_append]
      simp [notN, hz]
    | false =>
      (try dsimp only)
      k_steps
      dsimp only [TurnFilt]
      refine ⟨_, _, _, _, _, rfl, by k_asm, by k_asm, ?_⟩
      rw [List.take_add_one, he, List.filter_append]
      simp [notN, hz]
end
section
variable {M : Model} {A : Around} {E : Value → Shared → Prop} {s : Shared} {K : Frag} {x C L f : Addr} {h₀ : Heap} {m : Str → Option Value} {ox : Obj} {od : Option Obj} {i : Value}
theorem delItem_own {Q : Unit → Shared → Prop} (F : Fr h₀ L s.heap m) (X₀ : K.In h₀) (I : InstAt s.heap x ox C od) (hq : noSeq K C = true) (hs : findIn K (.ref C) "__delitem__" = some (some (.ref f))) (hf : isFn K (.ref f) = true)
    (h : wpAny M A (call (.ref f) [.ref x, i]) (fun _ s' => Q () s') E s) : wpAny M A (delItem (.ref x) i) Q E s := by
  have X := X₀.keeps F.keep
  unfold delItem sequenceKey
  refine wpAny_holding (wpAny_bind (wpAny_bind (I.type.here ?_)))
  refine wpAny_bind ((anyM_none X hq).here ?_)
  rw [if_pos (show (!false) = true from rfl)]
  exact wpAny_pure (wpAny_bind (special_fn X I hs (beq_iff_eq.mp hf) (wpAny_mono h (fun _ _ z => wpAny_pure z) fun _ _ z => z)))
end
local macro_rules | `(tactic| walk_at "delItem ref") => `(tactic| (k_dflt (apply delItem_own; k_asm; k_asm; k_inst; k_is; k_is; k_is; k_whole)))
section
variable {w : World} {A : Around} {h₀ : Heap} {all : List Env} {L : Addr} {m : Str → Option Value} {s : Shared} {mean : ExcName → Option Value} {mg mb : Str → Option Value} {E : Value → Shared → Prop} {D dd Lh : Addr} {tk : Tok} {n : Nat} {cs : List Card} {El : Led} {x : Str} {t : Tok} {Q : Value → Shared → Prop}
theorem get_use {c : Card} {j : Nat} (F : Fr h₀ L s.heap m) (X : (hd.heap_1 w.params).In h₀) (T : Top View Loose mean mg mb h₀) (hB : FB A h₀ L m all) (N : News h₀ L s.heap (deckE w.params D dd Lh tk n cs El))
    (hh : A.handled = none) (hd : A.depth ≤ 480) (hu : A.units ≤ 480) (hE : Has cs El) (hc : cleanN (Txt.lower x)) (hl : x.length ≤ 100) (hk : ∀ c ∈ cs, c.k.length ≤ 100) (hj : cs[j]? = some c) (hm : (Txt.lower c.k == Txt.lower x) = true) (hn : ∀ i d, i < j → cs[i]? = some d → (Txt.lower d.k == Txt.lower x) = false)
    (h : ∀ h' tk', Fr h₀ L h' m → News h₀ L h' (deckE w.params D dd Lh tk n cs El) → Q (.str c.v c.b) { s with heap := h', toks := tk' }) :
    wpAny (model PySem.Challenge.rw_yf0037_01.row.prog w) A (call (.ref 118) [.ref D, .str x t]) Q E s :=
  wpAny_call (use (rest := []) F X T hB (by rw [List.append_nil]; exact N) (fun _ h => nomatch h) hh hd hu fun g W => get_spec W hE hc hl hk hj hm hn fun h' tk' W' => ⟨_, W', fun F' N' _ => h h' tk' F' (by rw [List.append_nil] at N'; exact N')⟩)
theorem del_use (F : Fr h₀ L s.heap m) (X : (hd.heap_1 w.params).In h₀) (T : Top View Loose mean mg mb h₀) (hB : FB A h₀ L m all) (N : News h₀ L s.heap (deckE w.params D dd Lh tk n cs El))
    (hh : A.handled = none) (hd : A.depth ≤ 480) (hu : A.units ≤ 480) (hE : Has cs El) (hT : Tups El) (hc : cleanN (Txt.lower x)) (hl : x.length ≤ 100) (hk : ∀ c ∈ cs, c.k.length ≤ 100) (hz : cs.length ≤ 100)
    (h : ∀ h' tk' n', Fr h₀ L h' m → News h₀ L h' (deckE w.params D dd Lh tk n' (cs.filter (notN x)) El) → Q .none { s with heap := h', toks := tk' }) :
    wpAny (model PySem.Challenge.rw_yf0037_01.row.prog w) A (call (.ref 89) [.ref D, .str x t]) Q E s :=
  wpAny_call (use (rest := []) F X T hB (by rw [List.append_nil]; exact N) (fun _ h => nomatch h) hh hd hu fun g W => del_spec W hE hT hc hl hk hz fun h' tk' n' W' => ⟨_, W', fun F' N' _ => h h' tk' n' F' (by rw [List.append_nil] at N'; exact N')⟩)
end
section
local macro_rules | `(tactic| walk_at "call ref") => `(tactic| (with_reducible refine callN 89 ?_; k_dflt apply del_use; k_extra "e6"; intros; rename News _ _ _ _ => N'; dsimp only [deckE, deckL, List.cons_append, List.nil_append] at N'))
local macro_rules | `(tactic| walk_at "pad") => `(tactic| skip)
theorem set_spec {w : World} {outer : List Env} {g : Heap} {s : Shared} {R : Result → Shared → Prop} {D dd Lh : Addr} {tk : Tok} {n : Nat} {cs : List Card} {E : Led} {x : Str} {t : Tok} {v : Str} {tv : Tok}
  (W : Wd w outer g (deckE w.params D dd Lh tk n cs E) s) (hE : Has cs E) (hT : Tups E) (hx : cleanN x) (hc : cleanN (Txt.lower x)) (hv : cleanV v) (hl : x.length ≤ 100) (hk : ∀ c ∈ cs, c.k.length ≤ 100) (hz : cs.length ≤ 100)
  (hret : ∀ h' tk' n' tn, Wd w outer g (deckE w.params D dd Lh tk n' (cs.filter (notN x) ++ [⟨tn, x, v, t, tv⟩]) ((tn, tupOf [.str x t, .str v tv]) :: E)) { s with heap := h', toks := tk' } → R (.ok (.ret .none)) { s with heap := h', toks := tk' }) :
  codeAny (model PySem.Challenge.rw_yf0037_01.row.prog w) (Lv 475 outer) (.call (.ref 84) ⟨[.ref D, .str x t, .str v tv], []⟩) R s := by
  have XS := W.kin.keeps W.keep
  obtain ⟨⟨A₀, base, B⟩, X, ⟨mean, mg, mb, T⟩, -, -, -⟩ := id W
  refine' enter (binds := [("self", .ref D), ("name", .str x t), ("val", .str v tv)]) W ?k6 ?k7 ?k8 ?k9 ?kB ?_ ?c5 ?c2 ?c3 ?c4
  k_extra "my enter"
  intro L' h₁ F N hlt
  dsimp only [deckE, deckL, List.cons_append, List.nil_append] at N hlt
  k_lt hlt
  have oE : OffD Lh E := offTups N (by k_mem) (fun p hp => .tail _ (.tail _ (.tail _ hp))) hT (by rfl)
  have nD : Ap D Lh := neObj N (by k_mem) (by k_mem) (objNe (by rfl))
  have ndd : Ap dd Lh := neObj N (by k_mem) (by k_mem) (objNe (by rfl))
  have hsz : ((cs.filter (notN x)).map fun c => Value.ref c.t).toArray.size ≤ sizeLine := by
    have := List.length_filter_le (notN x) cs
    rw [sizeLine_eq]; simp; omega
  (try dsimp only)
  k_steps
  all_goals (try dsimp only)
  all_goals (try k_data)
  rename_i _ _ nn _ _ _ _ D9 h8 b1 b2 b3 b4 h9 F9 N9
  rw [show ((cs.filter (notN x)).map fun c => Value.ref c.t).toArray.push (Value.ref D9) = ((cs.filter (notN x) ++ [(⟨D9, x, v, t, tv⟩ : Card)]).map fun c : Card => Value.ref c.t).toArray by simp] at N9
  refine hret _ _ (nn + 1) D9 (W.step F9 fun p hp => N9 p ?_)
  have hp : p ∈ (D, _) :: (dd, _) :: (Lh, _) :: (D9, _) :: E := hp
  rcases List.mem_cons.mp hp with rfl | hp
  · exact .tail _ (.head _)
  rcases List.mem_cons.mp hp with rfl | hp
  · exact .tail _ (.tail _ (.head _))
  rcases List.mem_cons.mp hp with rfl | hp
  · exact .tail _ (.tail _ (.tail _ (.head _)))
  rcases List.mem_cons.mp hp with rfl | hp
  · exact .head _
  · exact .tail _ (.tail _ (.tail _ (.tail _ hp)))
end
section
variable {w : World} {A : Around} {h₀ : Heap} {all : List Env} {L : Addr} {m : Str → Option Value} {s : Shared} {mean : ExcName → Option Value} {mg mb : Str → Option Value} {E : Value → Shared → Prop} {D dd Lh : Addr} {tk : Tok} {n : Nat} {cs : List Card} {El : Led} {x : Str} {t : Tok} {Q : Value → Shared → Prop}
theorem set_use {v : Str} {tv : Tok} (F : Fr h₀ L s.heap m) (X : (hd.heap_1 w.params).In h₀) (T : Top View Loose mean mg mb h₀) (hB : FB A h₀ L m all) (N : News h₀ L s.heap (deckE w.params D dd Lh tk n cs El))
    (hh : A.handled = none) (hd : A.depth ≤ 475) (hu : A.units ≤ 475) (hE : Has cs El) (hT : Tups El) (hx : cleanN x) (hc : cleanN (Txt.lower x)) (hv : cleanV v) (hl : x.length ≤ 100) (hk : ∀ c ∈ cs, c.k.length ≤ 100) (hz : cs.length ≤ 100)
    (h : ∀ h' tk' n' tn, Fr h₀ L h' m → News h₀ L h' (deckE w.params D dd Lh tk n' (cs.filter (notN x) ++ [⟨tn, x, v, t, tv⟩]) ((tn, tupOf [.str x t, .str v tv]) :: El)) → Q .none { s with heap := h', toks := tk' }) :
    wpAny (model PySem.Challenge.rw_yf0037_01.row.prog w) A (call (.ref 84) [.ref D, .str x t, .str v tv]) Q E s :=
  wpAny_call (use (rest := []) F X T hB (by rw [List.append_nil]; exact N) (fun _ h => nomatch h) hh hd hu fun g W => set_spec W hE hT hx hc hv hl hk hz fun h' tk' n' tn W' => ⟨_, W', fun F' N' _ => h h' tk' n' tn F' (by rw [List.append_nil] at N'; exact N')⟩)
end
section
local macro_rules | `(tactic| walk_at "call ref") => `(tactic| (with_reducible refine callN 118 ?_; k_dflt apply get_use; k_extra "e6"; k_dflt assumption; intros))
theorem opget_spec {w : World} {outer : List Env} {g : Heap} {s : Shared} {R : Result → Shared → Prop} {D dd Lh : Addr} {tk : Tok} {n : Nat} {cs : List Card} {E : Led} {x : Str} {t : Tok} {c : Card} {j : Nat}
  (W : Wd w outer g (deckE w.params D dd Lh tk n cs E) s) (hE : Has cs E) (hc : cleanN (Txt.lower x)) (hl : x.length ≤ 100) (hk : ∀ c ∈ cs, c.k.length ≤ 100)
  (hj : cs[j]? = some c) (hm : (Txt.lower c.k == Txt.lower x) = true) (hn : ∀ i d, i < j → cs[i]? = some d → (Txt.lower d.k == Txt.lower x) = false)
  (hret : ∀ h' tk', Wd w outer g (deckE w.params D dd Lh tk n cs E) { s with heap := h', toks := tk' } → R (.ok (.ret (.str c.v c.b))) { s with heap := h', toks := tk' }) :
  codeAny (model PySem.Challenge.rw_yf0037_01.row.prog w) (Lv 470 outer) (.call (.ref 254) ⟨[.ref D, .str x t], []⟩) R s := by
  have XS := W.kin.keeps W.keep
  obtain ⟨⟨A₀, base, B⟩, X, ⟨mean, mg, mb, T⟩, -, -, -⟩ := id W
  refine' enter (binds := [("a", .ref D), ("b", .str x t)]) W ?k6 ?k7 ?k8 ?k9 ?kB ?_ ?c5 ?c2 ?c3 ?c4
  k_extra "my enter"
  intro L' h₁ F N hlt
  dsimp only [deckE, deckL, List.cons_append, List.nil_append] at N hlt
  k_lt hlt
  (try dsimp only)
  k_steps
  all_goals (try dsimp only)
  exact hret _ _ (W.step (by k_asm) (by assumption))
end
section
local macro_rules | `(tactic| walk_at "call ref") => `(tactic| (with_reducible refine callN 84 ?_; k_dflt apply set_use; k_extra "e6"; k_dflt assumption; k_dflt assumption; intros))
local macro_rules | `(tactic| walk_at "pad") => `(tactic| skip)
theorem opset_spec {w : World} {outer : List Env} {g : Heap} {s : Shared} {R : Result → Shared → Prop} {D dd Lh : Addr} {tk : Tok} {n : Nat} {cs : List Card} {E : Led} {x : Str} {t : Tok} {v : Str} {tv : Tok}
  (W : Wd w outer g (deckE w.params D dd Lh tk n cs E) s) (hE : Has cs E) (hT : Tups E) (hx : cleanN x) (hc : cleanN (Txt.lower x)) (hv : cleanV v) (hl : x.length ≤ 100) (hk : ∀ c ∈ cs, c.k.length ≤ 100) (hz : cs.length ≤ 100)
  (hret : ∀ h' tk' n' tn, Wd w outer g (deckE w.params D dd Lh tk n' (cs.filter (notN x) ++ [⟨tn, x, v, t, tv⟩]) ((tn, tupOf [.str x t, .str v tv]) :: E)) { s with heap := h', toks := tk' } → R (.ok (.ret .none)) { s with heap := h', toks := tk' }) :
  codeAny (model PySem.Challenge.rw_yf0037_01.row.prog w) (Lv 470 outer) (.call (.ref 261) ⟨[.ref D, .str x t, .str v tv], []⟩) R s := by
  have XS := W.kin.keeps W.keep
  obtain ⟨⟨A₀, base, B⟩, X, ⟨mean, mg, mb, T⟩, -, -, -⟩ := id W
  refine' enter (binds := [("a", .ref D), ("b", .str x t), ("c", .str v tv)]) W ?k6 ?k7 ?k8 ?k9 ?kB ?_ ?c5 ?c2 ?c3 ?c4
  k_extra "my enter"
  intro L' h₁ F N hlt
  dsimp only [deckE, deckL, List.cons_append, List.nil_append] at N hlt
  k_lt hlt
  (try dsimp only)
  k_steps
  all_goals (try dsimp only)
  exact hret _ _ _ _ (W.step (by k_asm) (by assumption))
end
/-- a contract upon the deck used among other things -/
theorem deck_use {w : World} {A : Around} {h₀ : Heap} {all : List Env} {L : Addr} {m : Str → Option Value} {s : Shared} {mean : ExcName → Option Value} {mg mb : Str → Option Value} {news lits dk : Led} {c : Code} {R : Result → Shared → Prop} {d : Nat} {prog : Program}
    (F : Fr h₀ L s.heap m) (X : (hd.heap_1 w.params).In h₀) (T : Top View Loose mean mg mb h₀) (hB : FB A h₀ L m all) (N : News h₀ L s.heap news) (ht : Tail dk news lits) (ho : ∀ p ∈ lits, OffD p.1 dk) (hh : A.handled = none) (hd : A.depth ≤ d) (hu : A.units ≤ d)
    (spec : ∀ g, Wd w all g dk s → codeAny (model prog w) (Lv d all) c (fun r s' => ∃ nw dk', Wd w all g (nw ++ dk') s' ∧ (∀ x ∈ nw, OffD x.1 dk') ∧ (Fr h₀ L s'.heap m → News h₀ L s'.heap (nw ++ (lits ++ dk')) → (∀ p ∈ lits, OffD p.1 dk') → (∀ x ∈ nw, OffD x.1 dk') → (∀ x ∈ nw, ∀ p ∈ lits, Ap p.1 x.1) → R r s')) s) :
    codeAny (model prog w) A c R s := by
  have hb := ht.back
  subst hb
  refine use (fp := dk) (rest := lits) F X T hB (News.swap N) (fun p hp q hq => (ho p hp q hq).ne) hh hd hu fun g W => ?_
  refine codeAny_mono (spec g W) fun r s' hr => ?_
  obtain ⟨nw, dk', W', hx, k⟩ := hr
  refine ⟨nw ++ dk', W', fun F' N' nd => ?_⟩
  have M1 := News.parts.mp N'
  have M2 := News.parts.mp M1.1
  exact k F' (News.parts.mpr ⟨M2.1, News.parts.mpr ⟨M1.2, M2.2⟩⟩) (fun p hp q hq => Ap.of (nd p hp q (List.mem_append_right _ hq))) hx fun x hx p hp => Ap.of (nd p hp x (List.mem_append_left _ hx))
noncomputable def otherS (x : Str) : Str := if (x != Txt.upper x) = true then Txt.upper x else Txt.lower x
theorem otherT {x : Str} (h : (x != Txt.upper x) = true) : otherS x = Txt.upper x := by unfold otherS; rw [if_pos h]
theorem otherF {x : Str} (h : (x != Txt.upper x) = false) : otherS x = Txt.lower x := by unfold otherS; rw [if_neg (by rw [h]; exact Bool.false_ne_true)]
theorem other_spec {w : World} {outer : List Env} {g : Heap} {s : Shared} {R : Result → Shared → Prop} {x : Str} {t : Tok} (W : Wd w outer g [] s) (hl : x.length ≤ 100)
  (hret : ∀ h' tk' t', Wd w outer g [] { s with heap := h', toks := tk' } → R (.ok (.ret (.str (otherS x) t'))) { s with heap := h', toks := tk' }) :
  codeAny (model PySem.Challenge.rw_yf0037_01.row.prog w) (Lv 480 outer) (.call (.ref 303) ⟨[.str x t], []⟩) R s := by
  have XS := W.kin.keeps W.keep
  obtain ⟨⟨A₀, base, B⟩, X, ⟨mean, mg, mb, T⟩, -, -, -⟩ := id W
  refine' enter (binds := [("name", .str x t)]) W ?k6 ?k7 ?k8 ?k9 ?kB ?_ ?c5 ?c2 ?c3 ?c4
  k_extra "my enter"
  intro L' h₁ F N hlt
  (try dsimp only)
  k_steps
  all_goals (try dsimp only)
  all_goals first
    | (rw [← otherT (by assumption)]; exact hret _ _ _ (W.step (by k_asm) News.nil))
    | (rw [← otherF (by assumption)]; exact hret _ _ _ (W.step (by k_asm) News.nil))
section
variable {w : World} {A : Around} {h₀ : Heap} {all : List Env} {L : Addr} {m : Str → Option Value} {s : Shared} {mean : ExcName → Option Value} {mg mb : Str → Option Value} {news rest : Led} {E : Value → Shared → Prop}
theorem other_use {x : Str} {t : Tok} {Q : Value → Shared → Prop} (F : Fr h₀ L s.heap m) (X : (hd.heap_1 w.params).In h₀) (T : Top View Loose mean mg mb h₀) (hB : FB A h₀ L m all) (N : News h₀ L s.heap news)
    (hh : A.handled = none) (hd : A.depth ≤ 480) (hu : A.units ≤ 480) (hl : x.length ≤ 100)
    (h : ∀ h' tk' t', Fr h₀ L h' m → News h₀ L h' news → Q (.str (otherS x) t') { s with heap := h', toks := tk' }) :
    wpAny (model PySem.Challenge.rw_yf0037_01.row.prog w) A (call (.ref 303) [.str x t]) Q E s :=
  wpAny_call (use (fp := []) (rest := news) F X T hB N (fun _ _ _ h => nomatch h) hh hd hu fun g W => other_spec W hl fun h' tk' t' W' => ⟨[], W', fun F' N' _ => h h' tk' t' F' N'⟩)
end
local macro_rules | `(tactic| walk_at "call ref") => `(tactic| (with_reducible refine callN 303 ?_; k_dflt apply other_use; k_extra "c1"; k_extra "s"))
/-- the deck's ledger: the cards cs among the tuples E -/
noncomputable def DkIs (P : Params) (D dd Lh : Addr) (tk : Tok) (n : Nat) (cs : List Card) (E dk : Led) : Prop := dk = deckE P D dd Lh tk n cs E ∧ Has cs E ∧ Tups E
/-- the name x stands at place j first -/
structure GetsK (ks : List Str) (x : Str) (j : Nat) : Prop where
  low : cleanN (Txt.lower x)
  len : x.length ≤ 100
  lens : ∀ k ∈ ks, k.length ≤ 100
  at_ : ∀ k, ks[j]? = some k → (Txt.lower k == Txt.lower x) = true
  off : ∀ i k, i < j → ks[i]? = some k → (Txt.lower k == Txt.lower x) = false
/-- the name x stands at place j alone -/
structure SetsK (ks : List Str) (x : Str) (j : Nat) : Prop where
  clean : cleanN x
  low : cleanN (Txt.lower x)
  len : x.length ≤ 100
  lens : ∀ k ∈ ks, k.length ≤ 100
  few : ks.length ≤ 100
  at_ : ∀ k, ks[j]? = some k → (Txt.lower k != Txt.lower x) = false
  off : ∀ i k, i ≠ j → ks[i]? = some k → (Txt.lower k != Txt.lower x) = true
noncomputable def AllOff (dk : Led) : Led → Prop
  | [] => True
  | p :: r => OffD p.1 dk ∧ AllOff dk r
theorem allOff_of {dk : Led} : ∀ {l : Led}, (∀ p ∈ l, OffD p.1 dk) → AllOff dk l
  | [], _ => trivial
  | _ :: _, h => ⟨h _ (.head _), allOff_of fun q hq => h q (.tail _ hq)⟩
theorem AllOff.one {dk : Led} {a : Addr} {o : Obj} {r : Led} (h : AllOff dk ((a, o) :: r)) : OffD a dk := h.1
theorem AllOff.rest {dk : Led} {a : Addr} {o : Obj} {r : Led} (h : AllOff dk ((a, o) :: r)) : AllOff dk r := h.2
noncomputable def AllAp (x : Addr) : Led → Prop
  | [] => True
  | p :: r => Ap p.1 x ∧ AllAp x r
theorem allAp_of {x : Addr} : ∀ {l : Led}, (∀ p ∈ l, Ap p.1 x) → AllAp x l
  | [], _ => trivial
  | _ :: _, h => ⟨h _ (.head _), allAp_of fun q hq => h q (.tail _ hq)⟩
theorem AllAp.one {x a : Addr} {o : Obj} {r : Led} (h : AllAp x ((a, o) :: r)) : Ap a x := h.1
theorem AllAp.rest {x a : Addr} {o : Obj} {r : Led} (h : AllAp x ((a, o) :: r)) : AllAp x r := h.2
theorem filterAt {x : Str} : ∀ {cs : List Card} {j : Nat}, j < cs.length → (∀ c, cs[j]? = some c → notN x c = false) → (∀ i c, i ≠ j → cs[i]? = some c → notN x c = true) → cs.filter (notN x) = cs.eraseIdx j
  | c :: cs, 0, _, h0, h => by
    rw [List.filter_cons_of_neg (by rw [h0 c rfl]; exact Bool.false_ne_true), List.eraseIdx_cons_zero]
    exact List.filter_eq_self.mpr fun d hd => by
      obtain ⟨i, hi⟩ := List.getElem?_of_mem hd
      exact h (i + 1) d (Nat.succ_ne_zero i) hi
  | c :: cs, j + 1, hj, h0, h => by
    rw [List.filter_cons_of_pos (h 0 c (Nat.succ_ne_zero j).symm rfl), List.eraseIdx_cons_succ]
    exact congrArg _ (filterAt (Nat.lt_of_succ_lt_succ hj) h0 fun i d hi e => h (i + 1) d (fun q => hi (Nat.succ.inj q)) e)
section
variable {w : World} {A : Around} {h₀ : Heap} {all : List Env} {L : Addr} {m : Str → Option Value} {s : Shared} {mean : ExcName → Option Value} {mg mb : Str → Option Value} {E : Value → Shared → Prop} {D dd Lh : Addr} {tk : Tok} {n : Nat} {cs : List Card} {El news lits dk : Led} {x : Str} {t : Tok} {ks : List Str} {j : Nat} {Q : Value → Shared → Prop}
theorem keys_use (F : Fr h₀ L s.heap m) (X : (hd.heap_1 w.params).In h₀) (T : Top View Loose mean mg mb h₀) (hB : FB A h₀ L m all) (N : News h₀ L s.heap news) (hk : DkIs w.params D dd Lh tk n cs El dk) (ht : Tail dk news lits) (ho : ∀ p ∈ lits, OffD p.1 dk)
    (hh : A.handled = none) (hd : A.depth ≤ 480) (hu : A.units ≤ 480) (hz : cs.length ≤ 100)
    (h : ∀ h' tk' l, Fr h₀ L h' m → News h₀ L h' ((l, listOf (cs.map fun c => .str c.k c.a).toArray cs.length) :: (lits ++ dk)) → OffD l dk → (∀ p ∈ lits, Ap p.1 l) → Q (.ref l) { s with heap := h', toks := tk' }) :
    wpAny (model PySem.Challenge.rw_yf0037_01.row.prog w) A (call (.ref 123) [.ref D]) Q E s := by
  obtain ⟨rfl, hE, -⟩ := hk
  exact wpAny_call (deck_use F X T hB N ht ho hh hd hu fun g W => keys_spec W hE hz fun h' tk' l W' ol => ⟨[_], _, W', (fun x hx => by rw [List.mem_singleton.mp hx]; exact ol), fun F' N' no nn nx => h h' tk' l F' N' ol fun p hp => nx _ (.head _) p hp⟩)
theorem opget_use {c : Card} (F : Fr h₀ L s.heap m) (X : (hd.heap_1 w.params).In h₀) (T : Top View Loose mean mg mb h₀) (hB : FB A h₀ L m all) (N : News h₀ L s.heap news) (hk : DkIs w.params D dd Lh tk n cs El dk) (ht : Tail dk news lits) (ho : ∀ p ∈ lits, OffD p.1 dk)
    (hh : A.handled = none) (hd : A.depth ≤ 470) (hu : A.units ≤ 470) (hG : GetsK ks x j) (hs : cs.map (fun c => c.k) = ks) (hj : cs[j]? = some c)
    (h : ∀ h' tk', Fr h₀ L h' m → News h₀ L h' (lits ++ dk) → Q (.str c.v c.b) { s with heap := h', toks := tk' }) :
    wpAny (model PySem.Challenge.rw_yf0037_01.row.prog w) A (call (.ref 254) [.ref D, .str x t]) Q E s := by
  obtain ⟨rfl, hE, -⟩ := hk
  subst hs
  exact wpAny_call (deck_use F X T hB N ht ho hh hd hu fun g W => opget_spec W hE hG.low hG.len (fun c hc => hG.lens _ (List.mem_map_of_mem hc)) hj (hG.at_ _ (by rw [List.getElem?_map, hj]; rfl)) (fun i d hi e => hG.off i _ hi (by rw [List.getElem?_map, e]; rfl)) fun h' tk' W' => ⟨[], _, W', (fun _ h => nomatch h), fun F' N' no nn nx => h h' tk' F' N'⟩)
theorem opset_use {v : Str} {tv : Tok} (F : Fr h₀ L s.heap m) (X : (hd.heap_1 w.params).In h₀) (T : Top View Loose mean mg mb h₀) (hB : FB A h₀ L m all) (N : News h₀ L s.heap news) (hk : DkIs w.params D dd Lh tk n cs El dk) (ht : Tail dk news lits) (ho : ∀ p ∈ lits, OffD p.1 dk)
    (hh : A.handled = none) (hd : A.depth ≤ 470) (hu : A.units ≤ 470) (hS : SetsK ks x j) (hs : cs.map (fun c => c.k) = ks) (hj : j < cs.length) (hv : cleanV v)
    (h : ∀ h' tk' n' tn dk', DkIs w.params D dd Lh tk n' (cs.eraseIdx j ++ [⟨tn, x, v, t, tv⟩]) ((tn, tupOf [.str x t, .str v tv]) :: El) dk' → Fr h₀ L h' m → News h₀ L h' (lits ++ dk') → (∀ p ∈ lits, OffD p.1 dk') → Q .none { s with heap := h', toks := tk' }) :
    wpAny (model PySem.Challenge.rw_yf0037_01.row.prog w) A (call (.ref 261) [.ref D, .str x t, .str v tv]) Q E s := by
  obtain ⟨rfl, hE, hT⟩ := hk
  subst hs
  have hf : cs.filter (notN x) = cs.eraseIdx j := filterAt hj (fun c e => hS.at_ _ (by rw [List.getElem?_map, e]; rfl)) fun i c hi e => hS.off i _ hi (by rw [List.getElem?_map, e]; rfl)
  refine wpAny_call (deck_use F X T hB N ht ho hh hd hu fun g W => opset_spec W hE hT hS.clean hS.low hv hS.len (fun c hc => hS.lens _ (List.mem_map_of_mem hc)) (by have := hS.few; rwa [List.length_map] at this) fun h' tk' n' tn W' => ⟨[], deckE w.params D dd Lh tk n' (cs.filter (notN x) ++ [(⟨tn, x, v, t, tv⟩ : Card)]) ((tn, tupOf [.str x t, .str v tv]) :: El), W', (fun _ h => nomatch h), fun F' N' no nn nx => ?_⟩)
  refine h h' tk' n' tn (deckE w.params D dd Lh tk n' (cs.filter (notN x) ++ [(⟨tn, x, v, t, tv⟩ : Card)]) ((tn, tupOf [.str x t, .str v tv]) :: El)) ⟨by rw [hf], fun c hc => ?_, List.forall_mem_cons.mpr ⟨⟨_, rfl⟩, hT⟩⟩ F' N' no
  rcases List.mem_append.mp hc with hc | hc
  · exact .tail _ (hE c (List.mem_of_mem_eraseIdx hc))
  · rw [List.mem_singleton.mp hc]
    exact .head _
end
local macro_rules | `(tactic| k_extra "my dk") => `(tactic| (k_extra "u5"; k_extra "q"; k_extra "my tail"; k_extra "my offs"; k_extra "u3"))
local macro_rules | `(tactic| k_extra "my offs") => `(tactic| first | exact List.forall_mem_nil _ | (refine List.forall_mem_cons.mpr ⟨?_, ?_⟩; with_reducible (first | assumption | exact OffD.ofLt ‹_› | exact OffD.ofLt1 ‹_›); k_extra "my offs"))
section
local macro_rules | `(tactic| walk_at "call ref") => `(tactic| (with_reducible refine callN 123 ?_; k_dflt apply keys_use; k_dflt (k_extra "my dk"; k_extra "b"); intro h' tk' l' F' N' ol nl; (replace nl := allAp_of nl); k_dflt (repeat (have := AllAp.one nl; replace nl := AllAp.rest nl)); (try dsimp only [List.cons_append, List.nil_append, List.map_cons, List.map_nil] at N')))
local macro_rules | `(tactic| walk_at "call ref") => `(tactic| (with_reducible refine callN 254 ?_; k_dflt apply opget_use; k_dflt (k_extra "my dk"; k_extra "q"; exact rfl; exact rfl); intro h' tk' F' N'; (try dsimp only [List.cons_append, List.nil_append] at N')))
local macro_rules | `(tactic| walk_at "call ref") => `(tactic| (with_reducible refine callN 261 ?_; k_dflt apply opset_use; k_dflt (k_extra "my dk"; k_extra "q"; exact rfl; k_extra "b"; k_extra "q"); intro h' tk' n' tn' dk' hk' F' N' no; (replace no := allOff_of no); k_dflt (repeat (have := AllOff.one no; replace no := AllOff.rest no)); (try dsimp only [List.cons_append, List.nil_append, List.eraseIdx_cons_zero, List.eraseIdx_cons_succ] at N' hk')))
theorem cut_spec {w : World} {outer : List Env} {g : Heap} {s : Shared} {R : Result → Shared → Prop} {D dd Lh : Addr} {tk : Tok} {n : Nat} {c0 c1 c2 c3 c4 c5 : Card} {E dk : Led}
  (W : Wd w outer g dk s) (hk : DkIs w.params D dd Lh tk n [c0, c1, c2, c3, c4, c5] E dk) (hG : GetsK [c0.k, c1.k, c2.k, c3.k, c4.k, c5.k] c0.k 0) (hS : SetsK [c0.k, c1.k, c2.k, c3.k, c4.k, c5.k] c0.k 0) (hv : cleanV c0.v)
  (hret : ∀ h' tk' n' tn r dk', DkIs w.params D dd Lh tk n' [c1, c2, c3, c4, c5, ⟨tn, c0.k, c0.v, c0.a, c0.b⟩] ((tn, tupOf [.str c0.k c0.a, .str c0.v c0.b]) :: E) dk' → Wd w outer g ((r, listOf #[.none] 0) :: dk') { s with heap := h', toks := tk' } → OffD r dk' → R (.ok (.ret (.ref r))) { s with heap := h', toks := tk' }) :
  codeAny (model PySem.Challenge.rw_yf0037_01.row.prog w) (Lv 460 outer) (.call (.ref 310) ⟨[.ref D], []⟩) R s := by
  have mD : (D, instObj 171 dd) ∈ dk := by rw [hk.1]; exact .head _
  have mDd : (dd, dictOf [⟨PyData.keyHash w.params (Str.ofString "_headers"), .str (Str.ofString "_headers") tk, .ref Lh⟩] 1) ∈ dk := by rw [hk.1]; exact .tail _ (.head _)
  have XS := W.kin.keeps W.keep
  obtain ⟨⟨A₀, base, B⟩, X, ⟨mean, mg, mb, T⟩, -, -, -⟩ := id W
  refine' enter (binds := [("deck", .ref D)]) W ?k6 ?k7 ?k8 ?k9 ?kB ?_ ?c5 ?c2 ?c3 ?c4
  k_extra "my enter"
  intro L' h₁ F N hlt
  (try k_lt hlt)
  (try dsimp only)
  k_steps
  all_goals (try dsimp only)
  exact hret _ _ _ _ _ _ (by assumption) (W.step (by k_asm) (by k_extra "my led")) (OffD.ofLt (by assumption))
theorem turn_spec {w : World} {outer : List Env} {g : Heap} {s : Shared} {R : Result → Shared → Prop} {D dd Lh : Addr} {tk : Tok} {n : Nat} {c0 c1 c2 c3 c4 c5 : Card} {E dk : Led}
  (W : Wd w outer g dk s) (hk : DkIs w.params D dd Lh tk n [c0, c1, c2, c3, c4, c5] E dk) (hG1 : GetsK [c0.k, c1.k, c2.k, c3.k, c4.k, c5.k] c1.k 1) (hS1 : SetsK [c0.k, c1.k, c2.k, c3.k, c4.k, c5.k] (otherS c1.k) 1)
  (hG0 : GetsK [c0.k, c2.k, c3.k, c4.k, c5.k, otherS c1.k] c0.k 0) (hS0 : SetsK [c0.k, c2.k, c3.k, c4.k, c5.k, otherS c1.k] (otherS c0.k) 0) (hl0 : c0.k.length ≤ 100) (hl1 : c1.k.length ≤ 100) (hv0 : cleanV c0.v) (hv1 : cleanV c1.v)
  (hret : ∀ h' tk' n' ta tb ca cb r dk', DkIs w.params D dd Lh tk n' [c2, c3, c4, c5, ⟨ta, otherS c1.k, c1.v, ca, c1.b⟩, ⟨tb, otherS c0.k, c0.v, cb, c0.b⟩] ((tb, tupOf [.str (otherS c0.k) cb, .str c0.v c0.b]) :: (ta, tupOf [.str (otherS c1.k) ca, .str c1.v c1.b]) :: E) dk' → Wd w outer g ((r, listOf #[.none, .none] 2) :: dk') { s with heap := h', toks := tk' } → OffD r dk' → R (.ok (.ret (.ref r))) { s with heap := h', toks := tk' }) :
  codeAny (model PySem.Challenge.rw_yf0037_01.row.prog w) (Lv 460 outer) (.call (.ref 315) ⟨[.ref D], []⟩) R s := by
  have mD : (D, instObj 171 dd) ∈ dk := by rw [hk.1]; exact .head _
  have mDd : (dd, dictOf [⟨PyData.keyHash w.params (Str.ofString "_headers"), .str (Str.ofString "_headers") tk, .ref Lh⟩] 1) ∈ dk := by rw [hk.1]; exact .tail _ (.head _)
  have XS := W.kin.keeps W.keep
  obtain ⟨⟨A₀, base, B⟩, X, ⟨mean, mg, mb, T⟩, -, -, -⟩ := id W
  refine' enterC (binds := [("deck", .ref D)]) W ?k6 ?k7 ?k8 ?k9 ?kB ?kD ?_ ?c2 ?c3 ?c4
  k_extra "my enterC"
  intro L' h₁ tk' cells F N Y hlt
  k_cells Y
  dsimp only [List.append, HAppend.hAppend, Append.append, List.append_eq] at N hlt
  replace hlt := allLt_of hlt
  (try dsimp only)
  k_steps
  all_goals (try dsimp only)
  exact hret _ _ _ _ _ _ _ _ _ (by assumption) (W.step (by k_asm) (by k_extra "my led")) (by assumption)
end
noncomputable abbrev lf (x : Str) : Int := Txt.find x (Str.ofString "(")
noncomputable abbrev rf (x : Str) : Int := Txt.find3 x (Str.ofString ")") (lf x + 1)
theorem consOf {l : List (Str × Tok)} {p : Str} {r : List Str} (e : l.map (·.1) = p :: r) : ∃ t l', l = (p, t) :: l' ∧ l'.map (·.1) = r := by
  obtain ⟨x, l', h1, h2, h3⟩ := List.map_eq_cons_iff.mp e
  exact ⟨x.2, l', by rw [h1, ← h2], h3⟩
theorem nilOf {l : List (Str × Tok)} (e : l.map (·.1) = []) : l = [] := List.map_eq_nil_iff.mp e
theorem split4 {prog : Program} {w : World} {A : Around} {E : Value → Shared → Prop} {s : Shared} {h₀ : Heap} {L : Addr} {m : Str → Option Value} {news : Led} {x y p0 p1 p2 p3 : Str} {t u : Tok} {Q : Value → Shared → Prop} (hF : Fr h₀ L s.heap m) (hN : News h₀ L s.heap news) (hy : (y.length == 0) = false) (hs : x.length ≤ 1000) (e : Txt.split x y = [p0, p1, p2, p3])
    (h : ∀ D t0 t1 t2 t3 h' k, Fr h₀ L h' m → News h₀ L h' ((D, listOf #[.str p0 t0, .str p1 t1, .str p2 t2, .str p3 t3] 0) :: news) → (∀ p ∈ news, p.1 < D) → Q (.ref D) { s with heap := h', toks := k }) :
    wpAny (model prog w) A (call (.builtin "str.split") [.str x t, .str y u]) Q E s := by
  refine KSpl.split1 hF hN hy (fun D l h' k e' _ F N l1 => ?_) (Nat.le_trans (Nat.add_le_add_right hs 2) (by decide))
  rw [e] at e'
  obtain ⟨t0, l0, rfl, e0⟩ := consOf e'
  obtain ⟨t1, l1, rfl, e1⟩ := consOf e0
  obtain ⟨t2, l2, rfl, e2⟩ := consOf e1
  obtain ⟨t3, l3, rfl, e3⟩ := consOf e2
  obtain rfl := nilOf e3
  exact h D t0 t1 t2 t3 h' k F N l1
theorem split5 {prog : Program} {w : World} {A : Around} {E : Value → Shared → Prop} {s : Shared} {h₀ : Heap} {L : Addr} {m : Str → Option Value} {news : Led} {x y p0 p1 p2 p3 p4 : Str} {t u : Tok} {Q : Value → Shared → Prop} (hF : Fr h₀ L s.heap m) (hN : News h₀ L s.heap news) (hy : (y.length == 0) = false) (hs : x.length ≤ 1000) (e : Txt.split x y = [p0, p1, p2, p3, p4])
    (h : ∀ D t0 t1 t2 t3 t4 h' k, Fr h₀ L h' m → News h₀ L h' ((D, listOf #[.str p0 t0, .str p1 t1, .str p2 t2, .str p3 t3, .str p4 t4] 0) :: news) → (∀ p ∈ news, p.1 < D) → Q (.ref D) { s with heap := h', toks := k }) :
    wpAny (model prog w) A (call (.builtin "str.split") [.str x t, .str y u]) Q E s := by
  refine KSpl.split1 hF hN hy (fun D l h' k e' _ F N l1 => ?_) (Nat.le_trans (Nat.add_le_add_right hs 2) (by decide))
  rw [e] at e'
  obtain ⟨t0, l0, rfl, e0⟩ := consOf e'
  obtain ⟨t1, l1, rfl, e1⟩ := consOf e0
  obtain ⟨t2, l2, rfl, e2⟩ := consOf e1
  obtain ⟨t3, l3, rfl, e3⟩ := consOf e2
  obtain ⟨t4, l4, rfl, e4⟩ := consOf e3
  obtain rfl := nilOf e4
  exact h D t0 t1 t2 t3 t4 h' k F N l1
theorem split6 {prog : Program} {w : World} {A : Around} {E : Value → Shared → Prop} {s : Shared} {h₀ : Heap} {L : Addr} {m : Str → Option Value} {news : Led} {x y p0 p1 p2 p3 p4 p5 : Str} {t u : Tok} {Q : Value → Shared → Prop} (hF : Fr h₀ L s.heap m) (hN : News h₀ L s.heap news) (hy : (y.length == 0) = false) (hs : x.length ≤ 1000) (e : Txt.split x y = [p0, p1, p2, p3, p4, p5])
    (h : ∀ D t0 t1 t2 t3 t4 t5 h' k, Fr h₀ L h' m → News h₀ L h' ((D, listOf #[.str p0 t0, .str p1 t1, .str p2 t2, .str p3 t3, .str p4 t4, .str p5 t5] 0) :: news) → (∀ p ∈ news, p.1 < D) → Q (.ref D) { s with heap := h', toks := k }) :
    wpAny (model prog w) A (call (.builtin "str.split") [.str x t, .str y u]) Q E s := by
  refine KSpl.split1 hF hN hy (fun D l h' k e' _ F N l1 => ?_) (Nat.le_trans (Nat.add_le_add_right hs 2) (by decide))
  rw [e] at e'
  obtain ⟨t0, l0, rfl, e0⟩ := consOf e'
  obtain ⟨t1, l1, rfl, e1⟩ := consOf e0
  obtain ⟨t2, l2, rfl, e2⟩ := consOf e1
  obtain ⟨t3, l3, rfl, e3⟩ := consOf e2
  obtain ⟨t4, l4, rfl, e4⟩ := consOf e3
  obtain ⟨t5, l5, rfl, e5⟩ := consOf e4
  obtain rfl := nilOf e5
  exact h D t0 t1 t2 t3 t4 t5 h' k F N l1
local macro_rules | `(tactic| walk_at "subscriptTail") => `(tactic| (refine KXi.item rfl (by k_extra "q") (by k_extra "q") (by k_extra "om") ?_; intro _))
local macro_rules | `(tactic| k_extra "sp") => `(tactic| (k_asm; k_asm; (case e => k_extra "q"); k_extra "q"; k_extra "q"; k_whole; intros; rename_i l1; (try k_lt l1)))
local macro_rules | `(tactic| walk_at "call builtin:str.split") => `(tactic| (k_dflt (first | (apply split4; k_extra "sp") | (apply split5; k_extra "sp") | (apply split6; k_extra "sp"))))
theorem read_good {w : World} {outer : List Env} {g : Heap} {s : Shared} {R : Result → Shared → Prop} {x p0 p1 p2 p3 p4 : Str} {t : Tok} {n : Int} (W : Wd w outer g [] s) (hl : x.length ≤ 400)
  (c1 : (Txt.slice x none (some 3) != Str.ofString "229") = false) (c2 : ¬ lf x < 0) (c3 : ¬ rf x < 0) (b1 : -(x.length : Int) ≤ lf x + 1) (b2 : lf x + 1 < x.length) (b3 : -(x.length : Int) ≤ rf x - 1) (b4 : rf x - 1 < x.length) (c4 : (Txt.item x (lf x + 1) != Txt.item x (rf x - 1)) = false) (y : ((Txt.item x (lf x + 1)).length == 0) = false) (hs : (Txt.slice x (some (lf x + 1)) (some (rf x))).length ≤ 1000) (e : Txt.split (Txt.slice x (some (lf x + 1)) (some (rf x))) (Txt.item x (lf x + 1)) = [p0, p1, p2, p3, p4]) (i3 : PySem.intText? p3 = some n) (l3 : p3.length ≤ 640)
  (hret : ∀ h' tk' r t' c, Wd w outer g [(r, tupOf [.str (Str.ofString "h") t', .int n c])] { s with heap := h', toks := tk' } → R (.ok (.ret (.ref r))) { s with heap := h', toks := tk' }) :
  codeAny (model PySem.Challenge.rw_yf0037_01.row.prog w) (Lv 480 outer) (.call (.ref 289) ⟨[.str x t], []⟩) R s := by
  have XS := W.kin.keeps W.keep
  obtain ⟨⟨A₀, base, B₀⟩, X, ⟨mean, mg, mb, T⟩, -, -, -⟩ := id W
  have B : Below (Lv 480 outer) base outer g := ⟨rfl, B₀.stays, B₀.frames⟩
  clear B₀
  refine' enter (binds := [("reply", .str x t)]) W ?k6 ?k7 ?k8 ?k9 ?kB ?_ ?c5 ?c2 ?c3 ?c4
  k_extra "my enter"
  intro L' h₁ F N hlt
  (try dsimp only)
  k_steps
  all_goals (try dsimp only)
  exact hret _ _ _ _ _ (W.step (by k_asm) (by k_extra "my led"))
local macro_rules | `(tactic| walk_at "exec While Compare cons nil") => `(tactic| (k_dflt (refine wpAny_While ?_)))
noncomputable def EqAll (f g : Str → Option Value) : List String → Prop
  | [] => True
  | x :: r => f (Str.ofString x) = g (Str.ofString x) ∧ EqAll f g r
noncomputable def NeAll (y : Str) : List String → Prop
  | [] => True
  | x :: r => y ≠ Str.ofString x ∧ NeAll y r
theorem eqOf : ∀ (l : List String) {f g : Str → Option Value} (y : Str), EqAll f g l → (NeAll y l → f y = g y) → f y = g y
  | [], _, _, _, _, k => k trivial
  | x :: r, _, _, y, h, k => (Decidable.em (y = Str.ofString x)).elim (fun e => by subst e; exact h.1) fun e => eqOf r y h.2 fun q => k ⟨e, q⟩
theorem frTo2 {h₀ h : Heap} {L : Addr} {m m' : Str → Option Value} (l : List String) (F : Fr h₀ L h m) (e : EqAll m m' l) (k : ∀ y, NeAll y l → m y = m' y) : Fr h₀ L h m' :=
  (funext fun y => eqOf l y e (k y) : m = m') ▸ F
noncomputable def Turn (I : Nat → Shared → Prop) (n : Nat) (s : Shared) : Prop := ∃ m, m < n ∧ I m s
section
variable {prog : Program} {w : World} {A : Around} {R : Result → Shared → Prop} {s : Shared}
theorem whileN {test body orelse env} (I : Nat → Shared → Prop)
    (turn : ∀ n s, I n s →
      wpAny (model prog w) A (isTrue test env (eval test env)) (fun b s₂ =>
        if b then wpAny (model prog w) A (execs body env) (fun f s₃ => match f with
            | .next | .cont => Turn I n s₃
            | .brk => R (.ok .next) s₃
            | .ret v => R (.ok (.ret v)) s₃) (notedBy (model prog w) A env fun e s' => R (.error e) s') s₂
        else wpAny (model prog w) A (execs orelse env) (fun f s₃ => R (.ok f) s₃) (notedBy (model prog w) A env fun e s' => R (.error e) s') s₂)
        (notedBy (model prog w) A env fun e s' => R (.error e) s') s)
    (n : Nat) (h : I n s) : codeAny (model prog w) A (.whileLoop test body orelse env) R s := codeAny_whileLoop I turn n h
end
noncomputable abbrev qt : Str := Str.ofString "\""
/-- parse257's loop in plain words -/
noncomputable def nameL (x : Str) : Nat → Int → Str → Str
  | 0, _, acc => acc
  | k + 1, i, acc => if i < x.length then (if (Txt.item x i == qt) = true then (if (x.length : Int) ≤ i + 1 then acc else if (Txt.item x (i + 1) != qt) = true then acc else nameL x k (i + 1 + 1) (acc ++ Txt.item x i)) else nameL x k (i + 1) (acc ++ Txt.item x i)) else acc
section
variable {x acc : Str} {k : Nat} {i : Int}
theorem nameEnd (a : ¬ i < x.length) : nameL x (k + 1) i acc = acc := by rw [nameL, if_neg a]
theorem nameOne (a : i < x.length) (b : (Txt.item x i == qt) = true) (c : (x.length : Int) ≤ i + 1) : nameL x (k + 1) i acc = acc := by rw [nameL, if_pos a, if_pos b, if_pos c]
theorem nameTwo (a : i < x.length) (b : (Txt.item x i == qt) = true) (c : ¬ (x.length : Int) ≤ i + 1) (d : (Txt.item x (i + 1) != qt) = true) : nameL x (k + 1) i acc = acc := by rw [nameL, if_pos a, if_pos b, if_neg c, if_pos d]
theorem nameGo (a : i < x.length) (b : (Txt.item x i == qt) = true) (c : ¬ (x.length : Int) ≤ i + 1) (d : (Txt.item x (i + 1) != qt) = false) : nameL x (k + 1) i acc = nameL x k (i + 1 + 1) (acc ++ Txt.item x i) := by rw [nameL, if_pos a, if_pos b, if_neg c, if_neg (by rw [d]; exact Bool.false_ne_true)]
theorem nameNext (a : i < x.length) (b : (Txt.item x i == qt) = false) : nameL x (k + 1) i acc = nameL x k (i + 1) (acc ++ Txt.item x i) := by rw [nameL, if_pos a, if_neg (by rw [b]; exact Bool.false_ne_true)]
end
theorem frTo {h₀ h : Heap} {L : Addr} {m m' : Str → Option Value} (F : Fr h₀ L h m) (e : ∀ y, m y = m' y) : Fr h₀ L h m' := (funext e : m = m') ▸ F
noncomputable def NameI (x : Str) (t : Tok) (g : Heap) (L' : Addr) (s : Shared) (r : Str) (k : Nat) (s' : Shared) : Prop := ∃ h tk i acc cv t1 t2 t3 f, s' = { s with heap := h, toks := tk } ∧ Fr g L' h (fun y => if y = Str.ofString "c" then cv else if y = Str.ofString "n" then some (.int x.length t3) else if y = Str.ofString "i" then some (.int i t1) else if y = Str.ofString "dirname" then some (.str acc t2) else if y = Str.ofString "resp" then some (.str x t) else none) ∧ 0 ≤ i ∧ (k : Int) + i = x.length + 1 ∧ (acc.length : Int) ≤ i ∧ k < f ∧ nameL x f i acc = r ∧ @LT.lt Nat _ 0 tk
section
local macro_rules | `(tactic| walk_at "execs nil") => `(tactic| (with_reducible refine wpAny_execs_nil ?_; (try dsimp only)))
theorem parse_name {w : World} {outer : List Env} {g : Heap} {s : Shared} {R : Result → Shared → Prop} {x r : Str} {t : Tok} (W : Wd w outer g [] s) (hl : x.length ≤ 400) (h5 : 5 ≤ x.length)
  (c1 : (Txt.slice x none (some 3) != Str.ofString "257") = false) (c2 : (Txt.slice x (some 3) (some 5) != Str.ofString " \"") = false) (e : nameL x 402 5 (Str.ofString "") = r)
  (hret : ∀ h' tk' t', Wd w outer g [] { s with heap := h', toks := tk' } → @LT.lt Nat _ 0 tk' → R (.ok (.ret (.str r t'))) { s with heap := h', toks := tk' }) :
  codeAny (model PySem.Challenge.rw_yf0037_01.row.prog w) (Lv 480 outer) (.call (.ref 226) ⟨[.str x t], []⟩) R s := by
  have XS := W.kin.keeps W.keep
  obtain ⟨⟨A₀, base, B⟩, X, ⟨mean, mg, mb, T⟩, -, -, -⟩ := id W
  refine' enter (binds := [("resp", .str x t)]) W ?k6 ?k7 ?k8 ?k9 ?kB ?_ ?c5 ?c2 ?c3 ?c4
  k_extra "my enter"
  intro L' h₁ F N hlt
  (try dsimp only)
  k_steps
  (try dsimp only)
  refine whileN (NameI x t g L' s r) ?_ (x.length - 4) ?_
  · rintro k s' ⟨h, tk, i, acc, cv, t1, t2, t3, f, rfl, F, i0, ki, al, kf, hf, tp⟩
    obtain ⟨f, rfl⟩ : ∃ f', f = f' + 1 := ⟨f - 1, by omega⟩
    have N : News g L' h [] := News.nil
    (try dsimp only)
    k_steps
    all_goals (try dsimp only)
    · rw [← hf, nameOne (by assumption) (by assumption) (by assumption)] at hret
      exact hret _ _ _ (W.step (by k_asm) News.nil) (ltN (by omega))
    · rw [← hf, nameTwo (by assumption) (by assumption) (by assumption) (by assumption)] at hret
      exact hret _ _ _ (W.step (by k_asm) News.nil) (ltN (by omega))
    · rw [nameGo (by assumption) (by assumption) (by assumption) (by assumption)] at hf
      refine' ⟨k - 2, by omega, _, _, i + 1 + 1, _, ?cv1x, ?u11x, ?u21x, ?u31x, f, rfl, frTo2 ["dirname", "i", "c", "n", "resp"] (by assumption) ?fa0 fun y q => ?fr0, by omega, by omega, by omega, by omega, hf, ltN (by omega)⟩
      (case fa0 => refine ⟨?_, ?_, ?_, ?_, ?_, trivial⟩ <;> rfl)
      (case fr0 => obtain ⟨q1, q2, q3, q4, q5, -⟩ := q; simp only [if_neg q1, if_neg q2, if_neg q3, if_neg q4, if_neg q5, List.reverse_cons, List.reverse_nil, List.nil_append, List.lookup, beq_false_of_ne q5])
    · rw [nameNext (by assumption) (by assumption)] at hf
      refine' ⟨k - 1, by omega, _, _, i + 1, _, ?cv2x, ?u12x, ?u22x, ?u32x, f, rfl, frTo2 ["dirname", "i", "c", "n", "resp"] (by assumption) ?fa1 fun y q => ?fr1, by omega, by omega, by omega, by omega, hf, ltN (by omega)⟩
      (case fa1 => refine ⟨?_, ?_, ?_, ?_, ?_, trivial⟩ <;> rfl)
      (case fr1 => obtain ⟨q1, q2, q3, q4, q5, -⟩ := q; simp only [if_neg q1, if_neg q2, if_neg q3, if_neg q4, if_neg q5, List.reverse_cons, List.reverse_nil, List.nil_append, List.lookup, beq_false_of_ne q5])
    · rw [← hf, nameEnd (by assumption)] at hret
      exact hret _ _ _ (W.step (by k_asm) News.nil) (ltN (by omega))
  · refine' ⟨_, _, 5, _, none, ?u13x, ?u23x, ?u33x, 402, rfl, frTo2 ["dirname", "i", "c", "n", "resp"] (by assumption) ?fa2 fun y q => ?fr2, by omega, by omega, by decide, by omega, e, ltN (by omega)⟩
    (case fa2 => refine ⟨?_, ?_, ?_, ?_, ?_, trivial⟩ <;> rfl)
    (case fr2 => obtain ⟨q1, q2, q3, q4, q5, -⟩ := q; simp only [if_neg q1, if_neg q2, if_neg q3, if_neg q4, if_neg q5, List.reverse_cons, List.reverse_nil, List.nil_append, List.lookup, beq_false_of_ne q5])
end
theorem parse_blank {w : World} {outer : List Env} {g : Heap} {s : Shared} {R : Result → Shared → Prop} {x : Str} {t : Tok} (W : Wd w outer g [] s) (hl : x.length ≤ 400) (c1 : (Txt.slice x none (some 3) != Str.ofString "257") = false) (c2 : (Txt.slice x (some 3) (some 5) != Str.ofString " \"") = true)
  (hret : ∀ h' tk' t', Wd w outer g [] { s with heap := h', toks := tk' } → R (.ok (.ret (.str (Str.ofString "") t'))) { s with heap := h', toks := tk' }) :
  codeAny (model PySem.Challenge.rw_yf0037_01.row.prog w) (Lv 480 outer) (.call (.ref 226) ⟨[.str x t], []⟩) R s := by
  have XS := W.kin.keeps W.keep
  obtain ⟨⟨A₀, base, B⟩, X, ⟨mean, mg, mb, T⟩, -, -, -⟩ := id W
  refine' enter (binds := [("resp", .str x t)]) W ?k6 ?k7 ?k8 ?k9 ?kB ?_ ?c5 ?c2 ?c3 ?c4
  k_extra "my enter"
  intro L' h₁ F N hlt
  (try dsimp only)
  k_steps
  all_goals (try dsimp only)
  exact hret _ _ _ (W.step (by k_asm) News.nil)
section
variable {w : World} {A : Around} {h₀ : Heap} {all : List Env} {L : Addr} {m : Str → Option Value} {s : Shared} {mean : ExcName → Option Value} {mg mb : Str → Option Value} {news : Led} {E : Value → Shared → Prop}
theorem parse_name_use {x r : Str} {t : Tok} {Q : Value → Shared → Prop} (F : Fr h₀ L s.heap m) (X : (hd.heap_1 w.params).In h₀) (T : Top View Loose mean mg mb h₀) (hB : FB A h₀ L m all) (N : News h₀ L s.heap news)
    (hh : A.handled = none) (hd : A.depth ≤ 480) (hu : A.units ≤ 480) (hl : x.length ≤ 400) (h5 : 5 ≤ x.length) (c1 : (Txt.slice x none (some 3) != Str.ofString "257") = false) (c2 : (Txt.slice x (some 3) (some 5) != Str.ofString " \"") = false) (e : nameL x 402 5 (Str.ofString "") = r)
    (h : ∀ h' tk' t', Fr h₀ L h' m → News h₀ L h' news → @LT.lt Nat _ 0 tk' → Q (.str r t') { s with heap := h', toks := tk' }) :
    wpAny (model PySem.Challenge.rw_yf0037_01.row.prog w) A (call (.ref 226) [.str x t]) Q E s :=
  wpAny_call (use (fp := []) (rest := news) F X T hB N (fun _ _ _ h => nomatch h) hh hd hu fun g W => parse_name W hl h5 c1 c2 e fun h' tk' t' W' tp => ⟨[], W', fun F' N' _ => h h' tk' t' F' N' tp⟩)
theorem parse_blank_use {x : Str} {t : Tok} {Q : Value → Shared → Prop} (F : Fr h₀ L s.heap m) (X : (hd.heap_1 w.params).In h₀) (T : Top View Loose mean mg mb h₀) (hB : FB A h₀ L m all) (N : News h₀ L s.heap news)
    (hh : A.handled = none) (hd : A.depth ≤ 480) (hu : A.units ≤ 480) (hl : x.length ≤ 400) (c1 : (Txt.slice x none (some 3) != Str.ofString "257") = false) (c2 : (Txt.slice x (some 3) (some 5) != Str.ofString " \"") = true)
    (h : ∀ h' tk' t', Fr h₀ L h' m → News h₀ L h' news → Q (.str (Str.ofString "") t') { s with heap := h', toks := tk' }) :
    wpAny (model PySem.Challenge.rw_yf0037_01.row.prog w) A (call (.ref 226) [.str x t]) Q E s :=
  wpAny_call (use (fp := []) (rest := news) F X T hB N (fun _ _ _ h => nomatch h) hh hd hu fun g W => parse_blank W hl c1 c2 fun h' tk' t' W' => ⟨[], W', fun F' N' _ => h h' tk' t' F' N'⟩)
end
local macro_rules | `(tactic| walk_at "call ref") => `(tactic| (with_reducible refine callN 226 ?_; first | (k_dflt apply parse_name_use; k_extra "c5"; k_extra "s") | (k_dflt apply parse_blank_use; k_extra "c3"; k_extra "s")))
theorem name_good {w : World} {outer : List Env} {g : Heap} {s : Shared} {R : Result → Shared → Prop} {x r : Str} {t : Tok} (W : Wd w outer g [] s) (hl : x.length ≤ 400) (h5 : 5 ≤ x.length) (c1 : (Txt.slice x none (some 3) != Str.ofString "257") = false) (c2 : (Txt.slice x (some 3) (some 5) != Str.ofString " \"") = false) (e : nameL x 402 5 (Str.ofString "") = r)
  (hret : ∀ h' tk' t', Wd w outer g [] { s with heap := h', toks := tk' } → @LT.lt Nat _ 0 tk' → R (.ok (.ret (.str r t'))) { s with heap := h', toks := tk' }) :
  codeAny (model PySem.Challenge.rw_yf0037_01.row.prog w) (Lv 470 outer) (.call (.ref 296) ⟨[.str x t], []⟩) R s := by
  have XS := W.kin.keeps W.keep
  obtain ⟨⟨A₀, base, B⟩, X, ⟨mean, mg, mb, T⟩, -, -, -⟩ := id W
  refine' enter (binds := [("reply", .str x t)]) W ?k6 ?k7 ?k8 ?k9 ?kB ?_ ?c5 ?c2 ?c3 ?c4
  k_extra "my enter"
  intro L' h₁ F N hlt
  (try dsimp only)
  k_steps
  all_goals (try dsimp only)
  exact hret _ _ _ (W.step (by k_asm) News.nil) (by assumption)
theorem name_blank {w : World} {outer : List Env} {g : Heap} {s : Shared} {R : Result → Shared → Prop} {x : Str} {t : Tok} (W : Wd w outer g [] s) (hl : x.length ≤ 400) (c1 : (Txt.slice x none (some 3) != Str.ofString "257") = false) (c2 : (Txt.slice x (some 3) (some 5) != Str.ofString " \"") = true)
  (hret : ∀ h' tk' t', Wd w outer g [] { s with heap := h', toks := tk' } → R (.ok (.ret (.str (Str.ofString "") t'))) { s with heap := h', toks := tk' }) :
  codeAny (model PySem.Challenge.rw_yf0037_01.row.prog w) (Lv 470 outer) (.call (.ref 296) ⟨[.str x t], []⟩) R s := by
  have XS := W.kin.keeps W.keep
  obtain ⟨⟨A₀, base, B⟩, X, ⟨mean, mg, mb, T⟩, -, -, -⟩ := id W
  refine' enter (binds := [("reply", .str x t)]) W ?k6 ?k7 ?k8 ?k9 ?kB ?_ ?c5 ?c2 ?c3 ?c4
  k_extra "my enter"
  intro L' h₁ F N hlt
  (try dsimp only)
  k_steps
  all_goals (try dsimp only)
  exact hret _ _ _ (W.step (by k_asm) News.nil)
section
variable {w : World} {A : Around} {h₀ : Heap} {all : List Env} {L : Addr} {m : Str → Option Value} {s : Shared} {mean : ExcName → Option Value} {mg mb : Str → Option Value} {news : Led} {E : Value → Shared → Prop}
theorem name_good_use {x r : Str} {t : Tok} {Q : Value → Shared → Prop} (F : Fr h₀ L s.heap m) (X : (hd.heap_1 w.params).In h₀) (T : Top View Loose mean mg mb h₀) (hB : FB A h₀ L m all) (N : News h₀ L s.heap news)
    (hh : A.handled = none) (hd : A.depth ≤ 470) (hu : A.units ≤ 470) (hl : x.length ≤ 400) (h5 : 5 ≤ x.length) (c1 : (Txt.slice x none (some 3) != Str.ofString "257") = false) (c2 : (Txt.slice x (some 3) (some 5) != Str.ofString " \"") = false) (e : nameL x 402 5 (Str.ofString "") = r)
    (h : ∀ h' tk' t', Fr h₀ L h' m → News h₀ L h' news → @LT.lt Nat _ 0 tk' → Q (.str r t') { s with heap := h', toks := tk' }) :
    wpAny (model PySem.Challenge.rw_yf0037_01.row.prog w) A (call (.ref 296) [.str x t]) Q E s :=
  wpAny_call (use (fp := []) (rest := news) F X T hB N (fun _ _ _ h => nomatch h) hh hd hu fun g W => name_good W hl h5 c1 c2 e fun h' tk' t' W' tp => ⟨[], W', fun F' N' _ => h h' tk' t' F' N' tp⟩)
theorem name_blank_use {x : Str} {t : Tok} {Q : Value → Shared → Prop} (F : Fr h₀ L s.heap m) (X : (hd.heap_1 w.params).In h₀) (T : Top View Loose mean mg mb h₀) (hB : FB A h₀ L m all) (N : News h₀ L s.heap news)
    (hh : A.handled = none) (hd : A.depth ≤ 470) (hu : A.units ≤ 470) (hl : x.length ≤ 400) (c1 : (Txt.slice x none (some 3) != Str.ofString "257") = false) (c2 : (Txt.slice x (some 3) (some 5) != Str.ofString " \"") = true)
    (h : ∀ h' tk' t', Fr h₀ L h' m → News h₀ L h' news → Q (.str (Str.ofString "") t') { s with heap := h', toks := tk' }) :
    wpAny (model PySem.Challenge.rw_yf0037_01.row.prog w) A (call (.ref 296) [.str x t]) Q E s :=
  wpAny_call (use (fp := []) (rest := news) F X T hB N (fun _ _ _ h => nomatch h) hh hd hu fun g W => name_blank W hl c1 c2 fun h' tk' t' W' => ⟨[], W', fun F' N' _ => h h' tk' t' F' N'⟩)
end
local macro_rules | `(tactic| walk_at "call ref") => `(tactic| (with_reducible refine callN 296 ?_; first | (k_dflt apply name_good_use; k_extra "c5"; k_extra "s") | (k_dflt apply name_blank_use; k_extra "c3"; k_extra "s")))
theorem isStrF {M : Model} {A : Around} {E : Value → Shared → Prop} {s : Shared} {y z : Str} {u v : Tok} {Q : Value → Shared → Prop}
    (hu : u ≠ 0) (hv : v ≠ 0) (huv : u ≠ v) (hyz : (y == z) = false) (h : Q (.bool false) s) : wpAny M A (compareOp .Is (.str y u) (.str z v)) Q E s := by
  show wpAny M A (isSame (.str y u) (.str z v) >>= fun b => pure (.bool b)) Q E s
  rw [isSame_str_other y z u v (by simp [hu, hv]) (by simp [huv]) hyz]
  exact wpAny_bind (wpAny_pure (wpAny_pure h))
theorem isStrT {M : Model} {A : Around} {E : Value → Shared → Prop} {s : Shared} {y z : Str} {u v : Tok} {Q : Value → Shared → Prop}
    (hu : u ≠ 0) (hv : v ≠ 0) (hb : NoneBooked s.heap) (hq : ∀ b, Q (.bool b) s) : wpAny M A (compareOp .Is (.str y u) (.str z v)) Q E s := by
  show wpAny M A (isSame (.str y u) (.str z v) >>= fun b => pure (.bool b)) Q E s
  exact wpAny_bind (wpAny_isSame_str (by simp [hu, hv]) hb fun b => wpAny_pure (hq b))
noncomputable abbrev strG (x : Str) (t : Tok) (i : Nat) (d : Option Addr) (sl : Array (Option Value)) : Obj := ⟨.type "str_ascii_iterator", d, .fields #[.str x t, .int i 0], sl⟩
section
variable {prog : Program} {w : World} {A : Around} {E : Value → Shared → Prop} {s : Shared} {R : Result → Shared → Prop} {h₀ : Heap} {L : Addr} {m : Str → Option Value} {news : Led}
theorem pyIterStrN {x : Str} {t : Tok} {Q : Value → Shared → Prop} (ha : x.cps.all (· < 128) = true) (F : Fr h₀ L s.heap m) (N : News h₀ L s.heap news)
    (h : ∀ I h', Fr h₀ L h' m → News h₀ L h' ((I, strG x t 0 none #[]) :: news) → (∀ p ∈ news, p.1 < I) → Q (.ref I) { s with heap := h' }) : wpAny (model prog w) A (pyIter (.str x t)) Q E s :=
  wpAny_pyIter_ascii ha (h _ _ (F.push _) (N.push F _) fun p hp => Heap.lt_size (N p hp).1)
end
theorem booked {w : World} {h₀ h : Heap} {L : Addr} {m : Str → Option Value} {mean : ExcName → Option Value} {mg mb : Str → Option Value} (F : Fr h₀ L h m) (X : (hd.heap_1 w.params).In h₀) (T : Top View Loose mean mg mb h₀) : NoneBooked h := by
  obtain ⟨mc, hn, -⟩ := T.nolimit
  exact ⟨mc, hn.keeps F.keep, ns_none_of X hn (by k_is)⟩
section
variable {prog : Program} {w : World} {A : Around} {E : Value → Shared → Prop} {s : Shared} {h₀ : Heap} {L I : Addr} {m : Str → Option Value} {x : Str} {t : Tok} {i c : Nat} {d : Option Addr} {sl : Array (Option Value)} {Q : Option Value → Shared → Prop}
theorem nextStr (F : Fr h₀ L s.heap m) (N : News h₀ L s.heap [(I, strG x t i d sl)]) (hx : x.cps[i]? = some c)
    (h : ∀ h' d' sl', Fr h₀ L h' m → News h₀ L h' [(I, strG x t (i + 1) d' sl')] → Q (some (.str ⟨#[c]⟩ s.toks)) { s with heap := h', toks := s.toks + 1 }) : wpAny (model prog w) A (pyNext (.ref I)) Q E s := by
  have hi : (I, strG x t i d sl) ∈ [(I, strG x t i d sl)] := .head _
  have hit : s.heap.IsStrIter I "str_ascii_iterator" x t i := ⟨_, (N _ hi).1, rfl, rfl⟩
  refine wpAny_pyNext_ascii_item hit hx fun h' hit' hs' => ?_
  obtain ⟨⟨c', d', dt', sl'⟩, ho', hc', hd'⟩ := id hit'
  dsimp only at hc' hd'
  subst hc' hd'
  exact h h' d' sl' (F.update N hi hs') (news_set (pre := []) (post := []) N (fun _ h => nomatch h) (fun _ h => nomatch h) hs' ho')
theorem endStr (F : Fr h₀ L s.heap m) (N : News h₀ L s.heap [(I, strG x t i d sl)]) (hx : x.cps[i]? = none) (hh : A.handled = none)
    (h : ∀ h', Fr h₀ L h' m → Q none { s with heap := h' }) : wpAny (model prog w) A (pyNext (.ref I)) Q E s := by
  have hi : (I, strG x t i d sl) ∈ [(I, strG x t i d sl)] := .head _
  have hit : s.heap.IsStrIter I "str_ascii_iterator" x t i := ⟨_, (N _ hi).1, rfl, rfl⟩
  refine wpAny_pyNext_ascii_end hh hit hx fun h' he' => h h' ?_
  have hne : ∀ b o, h₀.get? b = some o → b ≠ I := fun b o e hba => by have := (N _ hi).2.2; rw [← hba, e] at this; cases this
  exact ⟨F.ns.extBut he' ((N _ hi).2.1).symm, fun b o e => he' b o (hne b o e) (F.keep b o e), F.above⟩
end
section
variable {prog : Program} {w : World} {A : Around} {R : Result → Shared → Prop} {s : Shared}
theorem forInv {target it body env} (I : Nat → Shared → Prop)
    (turn : ∀ n s, I n s → wpAny (model prog w) A (pyNext it) (fun r s₁ => match r with
      | none => R (.ok .next) s₁
      | some v => wpAny (model prog w) A (letOwnedTupleGo target it v) (fun _ s₁' =>
          wpAny (model prog w) A (assign target env v) (fun _ s₂ => wpAny (model prog w) A (execs body env) (fun f s₃ => match f with
            | .next | .cont => Turn I n s₃
            | .brk => R (.ok .next) s₃
            | .ret v => R (.ok (.ret v)) s₃) (notedBy (model prog w) A env fun e s' => R (.error e) s') s₂) (notedBy (model prog w) A env fun e s' => R (.error e) s') s₁') (notedBy (model prog w) A env fun e s' => R (.error e) s') s₁) (notedBy (model prog w) A env fun e s' => R (.error e) s') s)
    (n : Nat) (h : I n s) : codeAny (model prog w) A (.forLoop target it body [] env) R s := by
  refine codeAny_forLoop_any I (fun n s hI => wpAny_mono (turn n s hI) (fun r s₁ h₁ => ?_) fun _ _ h => h) n h
  cases r with
  | none => exact wpAny_execs_nil h₁
  | some v => exact h₁
end
noncomputable def countN (y : Str) (l : List Nat) (n : Int) : Int := l.foldl (fun n c => if ((⟨#[c]⟩ : Str) == y) = true then n + 1 else n) n
theorem countT {y : Str} {c : Nat} {l : List Nat} {n : Int} (h : ((⟨#[c]⟩ : Str) == y) = true) : countN y (c :: l) n = countN y l (n + 1) := by unfold countN; rw [List.foldl_cons, if_pos h]
theorem countF {y : Str} {c : Nat} {l : List Nat} {n : Int} (h : ((⟨#[c]⟩ : Str) == y) = false) : countN y (c :: l) n = countN y l n := by unfold countN; rw [List.foldl_cons, if_neg (by rw [h]; exact Bool.false_ne_true)]
local macro_rules | `(tactic| walk_at "pyIter str") => `(tactic| (k_dflt (apply pyIterStrN; k_extra "q"; k_extra "FN"; k_whole); k_extra "zl"))
local macro_rules | `(tactic| walk_at "compareOp Is str str") => `(tactic| k_dflt (first | (refine isStrF ?_ ‹_› ?_ (by k_extra "q") ?_; k_ne; k_ne) | (refine isStrT ?_ ‹_› (booked (by k_asm) (by k_asm) (by k_asm)) ?_; k_ne; (intro b; cases b))))
section
local macro_rules | `(tactic| walk_at "execs nil") => `(tactic| (with_reducible refine wpAny_execs_nil ?_; (try dsimp only)))
local macro_rules | `(tactic| walk_at "exec For") => `(tactic| (k_dflt (refine wpAny_For ?_)))
theorem count_spec {w : World} {outer : List Env} {g : Heap} {s : Shared} {R : Result → Shared → Prop} {x y : Str} {t u : Tok} (W : Wd w outer g [] s) (hx : x.cps.all (· < 128) = true) (hu : u ≠ 0) (ht : @LT.lt Nat _ u s.toks)
  (hret : ∀ h' tk' t', Wd w outer g [] { s with heap := h', toks := tk' } → R (.ok (.ret (.int (countN y x.cps.toList 0) t'))) { s with heap := h', toks := tk' }) :
  codeAny (model PySem.Challenge.rw_yf0037_01.row.prog w) (Lv 480 outer) (.call (.ref 247) ⟨[.str x t, .str y u], []⟩) R s := by
  have XS := W.kin.keeps W.keep
  obtain ⟨⟨A₀, base, B⟩, X, ⟨mean, mg, mb, T⟩, -, -, -⟩ := id W
  refine' enter (binds := [("a", .str x t), ("b", .str y u)]) W ?k6 ?k7 ?k8 ?k9 ?kB ?_ ?c5 ?c2 ?c3 ?c4
  k_extra "my enter"
  intro L' h₁ F N hlt
  (try dsimp only)
  k_steps
  rename_i I0 hq Fq Nq lq
  refine forInv (fun k s' => ∃ h tk i n cv t1 d sl, s' = { s with heap := h, toks := tk } ∧ Fr g L' h (fun z => if z = Str.ofString "i" then cv else if z = Str.ofString "count" then some (.int n t1) else if z = Str.ofString "a" then some (.str x t) else if z = Str.ofString "b" then some (.str y u) else none) ∧ News g L' h [(I0, strG x t i d sl)] ∧ k + i = x.cps.size + 1 ∧ i ≤ x.cps.size ∧ @LT.lt Nat _ u tk ∧ countN y (x.cps.toList.drop i) n = countN y x.cps.toList 0) ?_ (x.cps.size + 1) ?_
  · clear Fq Nq lq
    rintro k s' ⟨h, tk, i, n, cv, t1, d, sl, rfl, F, N, ki, i1, lu, hn⟩
    cases hc : x.cps[i]? with
    | none =>
      refine endStr F N hc rfl fun h' F' => ?_
      have e : x.cps.toList.drop i = [] := List.drop_eq_nil_of_le (by rw [Array.getElem?_eq_none_iff] at hc; simpa using hc)
      rw [e] at hn
      have hn : n = countN y x.cps.toList 0 := hn
      rw [← hn] at hret
      have N' : News g L' h' [] := News.nil
      clear N F
      (try dsimp only)
      k_steps
      all_goals (try dsimp only)
      exact hret _ _ _ (W.step (by k_asm) News.nil)
    | some c =>
      have e : x.cps.toList.drop i = c :: x.cps.toList.drop (i + 1) := by
        obtain ⟨hlt, e⟩ := Array.getElem?_eq_some_iff.mp hc
        rw [List.drop_eq_getElem_cons (by simpa using hlt)]
        simp [e]
      rw [e] at hn
      obtain ⟨ilt, -⟩ := Array.getElem?_eq_some_iff.mp hc
      refine nextStr F N hc fun h' d' sl' F' N' => ?_
      clear N F hc e
      refine wpAny_pure ?_
      (try dsimp only)
      cases hz : ((⟨#[c]⟩ : Str) == y) with
      | false =>
        rw [countF hz] at hn
        k_steps
        all_goals (try dsimp only)
        refine' ⟨k - 1, by omega, _, _, i + 1, n, ?cv1, ?u1, _, _, rfl, frTo2 ["count", "i", "a", "b"] (by k_asm) ?fa1 fun z q => ?fr1, by k_asm, by omega, by omega, by omega, hn⟩
        (case fa1 => refine ⟨?_, ?_, ?_, ?_, trivial⟩ <;> rfl)
        (case fr1 => obtain ⟨q1, q2, q3, q4, -⟩ := q; simp only [if_neg q1, if_neg q2, if_neg q3, if_neg q4, List.reverse_cons, List.reverse_nil, List.nil_append, List.cons_append, List.lookup, beq_false_of_ne q3, beq_false_of_ne q4])
      | true =>
        rw [countT hz] at hn
        k_steps
        all_goals (try dsimp only)
        all_goals (refine' ⟨k - 1, by omega, _, _, i + 1, n + 1, ?_, ?_, _, _, rfl, frTo2 ["count", "i", "a", "b"] (by k_asm) ?fa2 fun z q => ?fr2, by k_asm, by omega, by omega, by omega, hn⟩; (case fa2 => refine ⟨?_, ?_, ?_, ?_, trivial⟩ <;> rfl); (case fr2 => obtain ⟨q1, q2, q3, q4, -⟩ := q; simp only [if_neg q1, if_neg q2, if_neg q3, if_neg q4, List.reverse_cons, List.reverse_nil, List.nil_append, List.cons_append, List.lookup, beq_false_of_ne q3, beq_false_of_ne q4]))
  · refine' ⟨_, _, 0, 0, none, ?u3, _, _, rfl, frTo2 ["count", "i", "a", "b"] Fq ?fa3 fun z q => ?fr3, Nq, by omega, by omega, ?lu3, rfl⟩
    (case lu3 => (try dsimp only [List.length]); omega)
    (case fa3 => refine ⟨?_, ?_, ?_, ?_, trivial⟩ <;> rfl)
    (case fr3 => obtain ⟨q1, q2, q3, q4, -⟩ := q; simp only [if_neg q1, if_neg q2, if_neg q3, if_neg q4, List.reverse_cons, List.reverse_nil, List.nil_append, List.cons_append, List.lookup, beq_false_of_ne q3, beq_false_of_ne q4])
end
theorem kind_hasattr : builtinKind "hasattr" = none := by decide +kernel
theorem plain_hasattr : plainId "hasattr" = true := by decide +kernel
theorem entry_hasattr : entryFor table "hasattr" = some Builtin.«hasattr» := entryFor_of_tree (by kernel_rfl)
theorem args_hasattr_2 (a b : Value) : argsOk "hasattr" ⟨[a, b], []⟩ := by unfold argsOk; kernel_rfl
theorem lk_list_getitem : typeLookup (.type "list") "__getitem__" = pure (some (.builtin "list.__getitem__")) := by rw [typeLookup_type, builtinLookup_eq_fast]; kernel_rfl
theorem sub_list_module : isSubtype (.type "list") (.type "module") = pure false := by rw [isSubtype_type]; kernel_rfl
theorem slot_md_get : Slot "method_descriptor" "__get__" "method_descriptor.__get__" :=
  .of (owner := "method_descriptor") (n := "__get__") (by rw [typeLookup_type, builtinLookup_eq_fast]; kernel_rfl) (by decide +kernel) (by decide +kernel) (by decide +kernel)
    (by first | exact .inl (by decide +kernel) | exact .inr (by decide +kernel)) (by rw [isSubtype_type]; kernel_rfl)
theorem entry_md_get : entryFor table "method_descriptor.__get__" = some Builtin.«method_descriptor.__get__» := entryFor_of_tree (by kernel_rfl)
theorem args_md_get (a b c : Value) : argsOk "method_descriptor.__get__" ⟨[a, b, c], []⟩ := by unfold argsOk; kernel_rfl
theorem kind_list_getitem : builtinKind "list.__getitem__" = some Manifest.AttrKind.method := by decide +kernel
theorem sub_list_owner : isSubtype (.type "list") (.type (".".intercalate ("list.__getitem__".cutAt '.').dropLast)) = pure true := by
  rw [show ".".intercalate ("list.__getitem__".cutAt '.').dropLast = "list" from by decide +kernel, isSubtype_type]; kernel_rfl
set_option maxHeartbeats 1000000 in
theorem hasattr_entry {prog : Program} {w : World} {A : Around} {E : Value → Shared → Prop} {h : Heap} {g : Array GenState} {d : Drawn} {t : Nat} {os : OsState} {a : Addr} {xs : Array Value} {n : Nat} {u : Tok} {Q : Fin → Shared → Prop} (hx : h.get? a = some { cls := .type "list", dict := none, data := .seq xs n, slots := #[] })
    (hq : Q (.done (.ret (.bool true))) ⟨h.push { cls := .type "builtin_function_or_method", data := .fields #[.builtin "list.__getitem__", .ref a] }, g, d, t, os⟩) :
    wpAny (model prog w) A (Builtin.«hasattr» ⟨[.ref a, .str "__getitem__" u], []⟩) Q E ⟨h, g, d, t, os⟩ := by
  have hT : (⟨h, g, d, t, os⟩ : Shared).TypeIs (.ref a) "list" := ⟨_, hx, rfl⟩
  have f1 := lk_list_getitem
  have f2 := F.slot_list_getattribute.lookup
  have f3 := F.slot_list_getattribute.bind (.ref a)
  have f4 := sub_list_module
  have f5 := F.type_list_getitem
  have f6 := slot_md_get.lookup
  have f7 := kind_list_getitem
  have f8 : typeLookup (.type "method_descriptor") "__set__" = pure none := by rw [typeLookup_type, builtinLookup_eq_fast]; kernel_rfl
  have f9 : typeLookup (.type "method_descriptor") "__delete__" = pure none := by rw [typeLookup_type, builtinLookup_eq_fast]; kernel_rfl
  have f10 := sub_list_owner
  have hT5 : (⟨h, g, d, t, os⟩ : Shared).TypeIs (.builtin "list.__getitem__") "method_descriptor" := F.type_list_getitem
  unfold Builtin.«hasattr»
  with_reducible refine wpAny_bind ?_
  wp_delta
  with_reducible refine wpAny_bind ?_
  wp_delta
  ((with_reducible apply wpAny_ite_true); focus (rfl; done))
  with_reducible refine wpAny_pure ?_
  with_reducible refine wpAny_bind ?_
  wp_delta
  ((with_reducible apply wpAny_ite_false); focus (rfl; done))
  ((with_reducible apply wpAny_ite_false); focus (rfl; done))
  ((with_reducible apply wpAny_ite_false); focus (rfl; done))
  with_reducible refine wpAny_pure ?_
  with_reducible refine wpAny_pure ?_
  with_reducible refine wpAny_bind ?_
  wp_delta
  with_reducible refine wpAny_bind ?_
  wp_delta
  with_reducible refine wpAny_pure ?_
  ((with_reducible apply wpAny_ite_false); focus (rfl; done))
  with_reducible refine wpAny_pure ?_
  ((with_reducible apply wpAny_ite_false); focus (rfl; done))
  with_reducible refine wpAny_bind ?_
  with_reducible refine wpAny_typeOf (by assumption) ?_
  with_reducible refine wpAny_bind ?_
  wp_delta
  with_reducible refine wpAny_pure ?_
  with_reducible refine wpAny_bind ?_
  with_reducible refine wpAny_of_eq (by assumption) ?_
  with_reducible refine wpAny_bind ?_
  with_reducible refine wpAny_of_eq (by assumption) ?_
  ((with_reducible apply wpAny_ite_false); focus (rfl; done))
  with_reducible refine wpAny_bind ?_
  wp_delta
  with_reducible refine wpAny_bind ?_
  wp_delta
  with_reducible refine wpAny_pure ?_
  with_reducible refine wpAny_bind ?_
  with_reducible refine wpAny_isInstance (by assumption) (by assumption) ?_
  ((with_reducible apply wpAny_ite_true); focus (rfl; done))
  with_reducible refine wpAny_pure ?_
  ((with_reducible apply wpAny_ite_false); focus (rfl; done))
  with_reducible refine wpAny_bind ?_
  wp_delta
  with_reducible refine wpAny_bind ?_
  with_reducible refine wpAny_attempt ?_
  wp_delta
  with_reducible refine wpAny_holding ?_
  with_reducible refine wpAny_bind ?_
  with_reducible refine wpAny_typeOf (by assumption) ?_
  with_reducible refine wpAny_bind ?_
  with_reducible refine wpAny_of_eq (by assumption) ?_
  ((with_reducible apply wpAny_ite_false); focus (rfl; done))
  wp_delta
  with_reducible refine wpAny_bind ?_
  wp_delta
  ((with_reducible apply wpAny_ite_false); focus (rfl; done))
  with_reducible refine wpAny_pure ?_
  with_reducible refine wpAny_bind ?_
  with_reducible refine wpAny_attempt ?_
  with_reducible refine wpAny_holding ?_
  wp_delta
  ((with_reducible apply wpAny_ite_false); focus (rfl; done))
  wp_delta
  with_reducible refine wpAny_bind ?_
  with_reducible refine wpAny_of_eq (by assumption) ?_
  with_reducible refine wpAny_call ?_
  refine codeAny_call_builtin F.slot_list_getattribute.plain F.entry_list_ga (F.slot_list_getattribute.check _ _ _ _ _ _ _ _ hT (F.args_list_getattribute_2 _ _) ?_)
  wp_delta
  with_reducible refine wpAny_bind ?_
  wp_delta
  ((with_reducible apply wpAny_ite_false); focus (rfl; done))
  wp_delta
  ((with_reducible apply wpAny_ite_false); focus (rfl; done))
  with_reducible refine wpAny_pure ?_
  wp_delta
  with_reducible refine wpAny_bind ?_
  wp_delta
  with_reducible refine wpAny_pure ?_
  with_reducible refine wpAny_bind ?_
  with_reducible refine wpAny_typeOf (by assumption) ?_
  with_reducible refine wpAny_bind ?_
  wp_delta
  with_reducible refine wpAny_bind ?_
  with_reducible refine wpAny_of_eq (by assumption) ?_
  with_reducible refine wpAny_bind ?_
  wp_delta
  with_reducible refine wpAny_specialOf_val (by assumption) (by assumption) ?_
  with_reducible refine wpAny_bind ?_
  wp_delta
  with_reducible refine wpAny_bind ?_
  wp_delta
  with_reducible refine wpAny_bind ?_
  with_reducible refine wpAny_specialOf_val (by assumption) (by assumption) ?_
  ((with_reducible apply wpAny_ite_false); focus (rfl; done))
  with_reducible refine wpAny_bind ?_
  with_reducible refine wpAny_specialOf_val (by assumption) (by assumption) ?_
  with_reducible refine wpAny_pure ?_
  ((with_reducible apply wpAny_ite_false); focus (rfl; done))
  with_reducible refine wpAny_pure ?_
  wp_delta
  wp_delta
  with_reducible refine wpAny_bind ?_
  wp_delta
  with_reducible refine wpAny_bind ?_
  wp_delta
  with_reducible refine wpAny_bind ?_
  wp_delta
  ((with_reducible apply wpAny_loadPart'); focus (heap_get; done))
  wp_delta
  wp_delta
  with_reducible refine wpAny_bind ?_
  ((with_reducible apply wpAny_loadPart'); focus (heap_get; done))
  ((with_reducible apply wpAny_ite_true); focus (rfl; done))
  with_reducible refine wpAny_pure ?_
  wp_delta
  with_reducible refine wpAny_pure ?_
  with_reducible refine wpAny_bind ?_
  wp_delta
  ((with_reducible apply wpAny_ite_false); focus (rfl; done))
  with_reducible refine wpAny_pure ?_
  wp_delta
  with_reducible refine wpAny_bind ?_
  with_reducible refine wpAny_rule ?_
  with_reducible refine wpAny_pure ?_
  wp_delta
  wp_delta
  with_reducible refine wpAny_bind ?_
  with_reducible refine wpAny_holding ?_
  with_reducible refine wpAny_call ?_
  refine codeAny_call_builtin slot_md_get.plain entry_md_get (slot_md_get.check _ _ _ _ _ _ _ _ hT5 (args_md_get _ _ _) ?_)
  wp_delta
  with_reducible refine wpAny_bind ?_
  wp_delta
  ((with_reducible apply wpAny_ite_false); focus (rfl; done))
  with_reducible refine wpAny_bind ?_
  with_reducible refine wpAny_pure ?_
  ((with_reducible apply wpAny_ite_false); focus (rfl; done))
  with_reducible refine wpAny_pure ?_
  wp_delta
  ((with_reducible apply wpAny_ite_false); focus (rfl; done))
  wp_delta
  wp_delta
  with_reducible refine wpAny_bind ?_
  wp_delta
  with_reducible refine wpAny_bind ?_
  wp_delta
  with_reducible refine wpAny_pure ?_
  with_reducible refine wpAny_bind ?_
  with_reducible refine wpAny_isInstance (by assumption) (by assumption) ?_
  ((with_reducible apply wpAny_ite_false); focus (rfl; done))
  with_reducible refine wpAny_pure ?_
  with_reducible refine wpAny_bind ?_
  wp_delta
  wp_delta
  ((with_reducible apply wpAny_ite_false); focus (rfl; done))
  wp_delta
  wp_delta
  with_reducible refine wpAny_bind ?_
  with_reducible refine wpAny_alloc' ?_
  with_reducible refine wpAny_pure ?_
  wp_delta
  with_reducible refine wpAny_pure ?_
  wp_delta
  with_reducible refine wpAny_pure ?_
  wp_delta
  wp_delta
  with_reducible refine wpAny_pure ?_
  with_reducible refine wpAny_pure ?_
  ((with_reducible apply wpAny_ite_false); focus (rfl; done))
  wp_delta
  wp_delta
  with_reducible refine wpAny_pure ?_
  exact hq
theorem hasattrN {prog : Program} {w : World} {A : Around} {E : Value → Shared → Prop} {s : Shared} {h₀ : Heap} {L a : Addr} {m : Str → Option Value} {news : Led} {xs : Array Value} {n : Nat} {u : Tok} {Q : Value → Shared → Prop} (F : Fr h₀ L s.heap m) (N : News h₀ L s.heap news) (hm : (a, listOf xs n) ∈ news)
    (h : ∀ h', Fr h₀ L h' m → News h₀ L h' news → Q (.bool true) { s with heap := h' }) : wpAny (model prog w) A (call (.builtin "hasattr") [.ref a, .str (Str.ofString "__getitem__") u]) Q E s := by
  obtain ⟨hp, g, d, t, os⟩ := s
  refine Calls.call_function_entry kind_hasattr plain_hasattr entry_hasattr (args_hasattr_2 _ _) ?_
  exact hasattr_entry (N _ hm).1 ⟨_, rfl, h _ (F.push _) fun p hp => (show News h₀ L _ (_ :: news) from N.push F _) p (List.Mem.tail _ hp)⟩
theorem ia_fills : fillsInplaceSlot (.type "list") "add" (Operator.Add == .Add) = pure false := by
  unfold fillsInplaceSlot
  show (typeLookup (.type "list") (dunderI "add") >>= fun fi => pure (fi.isSome && !isSeqSlot fi)) = pure false
  rw [F.slot_list_iadd.lookup]; kernel_rfl
theorem ia_seq : seqSlot? (.type "list") (dunderI "add") = pure (some (.builtin "list.__iadd__")) := by
  unfold seqSlot?
  rw [F.slot_list_iadd.lookup]; kernel_rfl
theorem ia_num : fillsNumberSlot (.type "list") "add" = pure false := by
  unfold fillsNumberSlot
  first | rfl | kernel_rfl
theorem iaddN {prog : Program} {w : World} {A : Around} {E : Value → Shared → Prop} {s : Shared} {h₀ : Heap} {L a b : Addr} {m : Str → Option Value} {news : Led} {xs ys : Array Value} {n k : Nat} {gf : Obj → Led} {Q : Value → Shared → Prop} (F : Fr h₀ L s.heap m) (N : News h₀ L s.heap news) (hb : (b, listOf ys k) ∈ news)
    (hU : UpdF a (listOf xs n) news gf) (hz : xs.size ≤ 1000) (hy : ys.size ≤ 1000)
    (h : ∀ h' n', Fr h₀ L h' m → News h₀ L h' (gf (listOf (xs ++ ys) n')) → Q (.ref a) { s with heap := h' }) : wpAny (model prog w) A (inplaceOp .Add (.ref a) (.ref b)) Q E s := by
  obtain ⟨pre, post, rfl, hgf, h1, h2⟩ := hU.split
  have hi : (a, listOf xs n) ∈ pre ++ (a, listOf xs n) :: post := by simp
  have ga := (N _ hi).1
  have gb := (N _ hb).1
  have ha : s.TypeIs (.ref a) "list" := ⟨_, ga, rfl⟩
  have hb' : s.TypeIs (.ref b) "list" := ⟨_, gb, rfl⟩
  unfold inplaceOp
  refine wpAny_holding ?_
  refine wpAny_bind (wpAny_typeOf ha (wpAny_bind (wpAny_of_eq ia_fills ?_)))
  show wpAny _ A (if false = true then _ else _) Q E s
  rw [if_neg Bool.false_ne_true]
  refine wpAny_bind (wpAny_binaryOp1_none (nm := "add") ha hb' ia_num ?_)
  refine wpAny_bind (wpAny_of_eq ia_seq ?_)
  refine wpAny_bind (wpAny_rule ?_)
  refine call_meets PySem.F.slot_list_iadd ha PySem.F.entry_list_iadd (PySem.F.args_list_iadd_2 _ _) (PySem.AutoSeq1.list___iadd___list_list_0 a xs n b ys k ?_ (Nat.le_trans hz (by decide)) (Nat.le_trans (Nat.add_le_add hz hy) (by decide))) ⟨ga, gb, ?_⟩
  · have e : Builtin.List.listTooLong (xs.size + ys.size) = false := by unfold Builtin.List.listTooLong; exact decide_eq_false (Nat.not_lt.mpr (Nat.le_trans (Nat.add_le_add hz hy) (by decide)))
    rw [e, Bool.and_false]; exact Bool.false_ne_true
  · exact h _ _ (F.update N hi (Heap.SameBut.update ..)) (by rw [hgf]; exact news_set N h1 h2 (Heap.SameBut.update ..) (Heap.get?_update_self _ ga rfl))
theorem gt_spec {w : World} {outer : List Env} {g : Heap} {s : Shared} {R : Result → Shared → Prop} {a b : Int} {t u : Tok} (W : Wd w outer g [] s)
  (hret : ∀ h' tk', Wd w outer g [] { s with heap := h', toks := tk' } → R (.ok (.ret (.bool (decide (b < a))))) { s with heap := h', toks := tk' }) :
  codeAny (model PySem.Challenge.rw_yf0037_01.row.prog w) (Lv 480 outer) (.call (.ref 240) ⟨[.int a t, .int b u], []⟩) R s := by
  have XS := W.kin.keeps W.keep
  obtain ⟨⟨A₀, base, B⟩, X, ⟨mean, mg, mb, T⟩, -, -, -⟩ := id W
  refine' enter (binds := [("a", .int a t), ("b", .int b u)]) W ?k6 ?k7 ?k8 ?k9 ?kB ?_ ?c5 ?c2 ?c3 ?c4
  k_extra "my enter"
  intro L' h₁ F N hlt
  (try k_lt hlt)
  (try dsimp only)
  k_steps
  all_goals (try dsimp only)
  exact hret _ _ (W.step (by k_asm) News.nil)
theorem lenApp {x y : Str} {a b : Nat} (h : x.length ≤ a) (k : y.length ≤ b) : (x ++ y).length ≤ a + b := by
  rw [Str.length_append]; exact Nat.add_le_add h k
theorem lenLit (s : Str) (h : Nat.ble s.length 20 = true) : s.length ≤ 20 := Nat.le_of_ble_eq_true h
theorem addS {prog : Program} {w : World} {A : Around} {x y : Str} {t u : Tok} {a b : Nat} {Q : Value → Shared → Prop} {E : Value → Shared → Prop} {s : Shared} (hx : x.length ≤ a) (hy : y.length ≤ b) (h1 : a ≤ 1000) (h2 : b ≤ 1000)
    (h : ∀ t' k, Q (.str (x ++ y) t') { s with toks := k }) : wpAny (model prog w) A (binaryOp .Add (.str x t) (.str y u)) Q E s := KXadd.add (K := 1000) (L := 1000) (Nat.le_trans hx h1) (Nat.le_trans hy h2) (Nat.le_of_ble_eq_true rfl) fun t' k _ => h t' k
local macro_rules | `(tactic| k_extra "do") => `(tactic| first | decide | omega)
local macro_rules | `(tactic| walk_at "binaryOp Mult str int") => `(tactic| (with_reducible (show wpAny _ _ (binaryOp _ (Value.str _ _) (Value.int _ _)) _ _ _); k_dflt (refine KXi.mul (n := 1) (by k_extra "q") (by decide) ?_ ?_ ?_; k_extra "do"; k_extra "do"); intros))
local macro_rules | `(tactic| k_extra "len") => `(tactic| first | k_extra "q" | exact lenLit _ (by decide +kernel) | (apply lenApp; k_extra "len"; k_extra "len") | (refine Nat.le_trans (Txt.slice_le _ _ _) ?_; k_extra "len") | (refine len_mul_leN (L := 1) (N := 20) (by decide +kernel) ?_; k_extra "om"))
local macro_rules | `(tactic| walk_at "binaryOp Add str str") => `(tactic| (refine' addS ?p ?q ?_ ?_ ?_; (case p => k_extra "len"); (case q => k_extra "len"); k_extra "b"; k_extra "b"; intros))
noncomputable def replyS (mk : Str) (n : Int) : Str := Str.ofString "229)(" ++ Txt.mul mk 3 ++ Str.ofString (toString n) ++ mk ++ Str.ofString ")()"
theorem reply_spec {w : World} {outer : List Env} {g : Heap} {s : Shared} {R : Result → Shared → Prop} {n : Int} {x : Str} {t u : Tok} (W : Wd w outer g [] s) (hx : x.length = 1) (h0 : 0 ≤ n) (h5 : n ≤ 5)
  (hret : ∀ h' tk' t', Wd w outer g [] { s with heap := h', toks := tk' } → R (.ok (.ret (.str (replyS x n) t'))) { s with heap := h', toks := tk' }) :
  codeAny (model PySem.Challenge.rw_yf0037_01.row.prog w) (Lv 480 outer) (.call (.ref 275) ⟨[.int n u, .str x t], []⟩) R s := by
  have x1 : x.length ≤ 64 := hx ▸ Nat.le_of_ble_eq_true rfl
  have m3 : (Txt.mul x 3).length ≤ 3 := len_mul_leN (L := 1) (N := 3) (Nat.le_of_eq hx) (by decide)
  have l10 := PySem.W.KT.len_num h0 (Int.lt_of_le_of_lt h5 (by decide))
  have XS := W.kin.keeps W.keep
  obtain ⟨⟨A₀, base, B⟩, X, ⟨mean, mg, mb, T⟩, -, -, -⟩ := id W
  refine' enter (binds := [("port", .int n u), ("mark", .str x t)]) W ?k6 ?k7 ?k8 ?k9 ?kB ?_ ?c5 ?c2 ?c3 ?c4
  k_extra "my enter"
  intro L' h₁ F N hlt
  (try k_lt hlt)
  (try dsimp only)
  k_steps
  all_goals (try dsimp only)
  exact hret _ _ _ (W.step (by k_asm) News.nil)
local macro_rules | `(tactic| walk_at "call builtin:hasattr") => `(tactic| (k_dflt (apply hasattrN; k_extra "FN"; k_mem; k_whole); k_extra "z"))
local macro_rules | `(tactic| walk_at "inplaceOp Add ref ref") => `(tactic| (k_dflt (apply iaddN; k_extra "FNU"; k_mem; k_extra "do"; k_extra "do"; k_whole); k_extra "zn"))
theorem iconcat_one {w : World} {outer : List Env} {g : Heap} {s : Shared} {R : Result → Shared → Prop} {a b : Addr} {xs : Array Value} {n k : Nat} (W : Wd w outer g [(a, listOf xs n), (b, listOf #[.none] k)] s) (hab : Ap a b) (hsz : xs.size ≤ 100)
  (hret : ∀ h' tk' n', Wd w outer g [(a, listOf (xs ++ #[.none]) n'), (b, listOf #[.none] k)] { s with heap := h', toks := tk' } → R (.ok (.ret (.ref a))) { s with heap := h', toks := tk' }) :
  codeAny (model PySem.Challenge.rw_yf0037_01.row.prog w) (Lv 480 outer) (.call (.ref 268) ⟨[.ref a, .ref b], []⟩) R s := by
  have XS := W.kin.keeps W.keep
  obtain ⟨⟨A₀, base, B⟩, X, ⟨mean, mg, mb, T⟩, -, -, -⟩ := id W
  refine' enter (binds := [("a", .ref a), ("b", .ref b)]) W ?k6 ?k7 ?k8 ?k9 ?kB ?_ ?c5 ?c2 ?c3 ?c4
  k_extra "my enter"
  intro L' h₁ F N hlt
  (try k_lt hlt)
  (try dsimp only)
  k_steps
  all_goals (try dsimp only)
  exact hret _ _ _ (W.step (by k_asm) (by k_extra "my led"))
theorem iconcat_two {w : World} {outer : List Env} {g : Heap} {s : Shared} {R : Result → Shared → Prop} {a b : Addr} {xs : Array Value} {n k : Nat} (W : Wd w outer g [(a, listOf xs n), (b, listOf #[.none, .none] k)] s) (hab : Ap a b) (hsz : xs.size ≤ 100)
  (hret : ∀ h' tk' n', Wd w outer g [(a, listOf (xs ++ #[.none, .none]) n'), (b, listOf #[.none, .none] k)] { s with heap := h', toks := tk' } → R (.ok (.ret (.ref a))) { s with heap := h', toks := tk' }) :
  codeAny (model PySem.Challenge.rw_yf0037_01.row.prog w) (Lv 480 outer) (.call (.ref 268) ⟨[.ref a, .ref b], []⟩) R s := by
  have XS := W.kin.keeps W.keep
  obtain ⟨⟨A₀, base, B⟩, X, ⟨mean, mg, mb, T⟩, -, -, -⟩ := id W
  refine' enter (binds := [("a", .ref a), ("b", .ref b)]) W ?k6 ?k7 ?k8 ?k9 ?kB ?_ ?c5 ?c2 ?c3 ?c4
  k_extra "my enter"
  intro L' h₁ F N hlt
  (try k_lt hlt)
  (try dsimp only)
  k_steps
  all_goals (try dsimp only)
  exact hret _ _ _ (W.step (by k_asm) (by k_extra "my led"))
section
variable {w : World} {A : Around} {h₀ : Heap} {all : List Env} {L : Addr} {m : Str → Option Value} {s : Shared} {mean : ExcName → Option Value} {mg mb : Str → Option Value} {news rest : Led} {E : Value → Shared → Prop}
theorem gt_use {a b : Int} {t u : Tok} {Q : Value → Shared → Prop} (F : Fr h₀ L s.heap m) (X : (hd.heap_1 w.params).In h₀) (T : Top View Loose mean mg mb h₀) (hB : FB A h₀ L m all) (N : News h₀ L s.heap news)
    (hh : A.handled = none) (hd : A.depth ≤ 480) (hu : A.units ≤ 480) 
    (h : ∀ h' tk', Fr h₀ L h' m → News h₀ L h' news → Q (.bool (decide (b < a))) { s with heap := h', toks := tk' }) : wpAny (model PySem.Challenge.rw_yf0037_01.row.prog w) A (call (.ref 240) [.int a t, .int b u]) Q E s :=
  wpAny_call (use (fp := []) (rest := news) F X T hB N (fun _ _ _ h => nomatch h) hh hd hu fun g W => gt_spec W  fun h' tk'  W' => ⟨[], W', fun F' N' _ => h h' tk'  F' N'⟩)
theorem reply_use {n : Int} {x : Str} {t u : Tok} {Q : Value → Shared → Prop} (F : Fr h₀ L s.heap m) (X : (hd.heap_1 w.params).In h₀) (T : Top View Loose mean mg mb h₀) (hB : FB A h₀ L m all) (N : News h₀ L s.heap news)
    (hh : A.handled = none) (hd : A.depth ≤ 480) (hu : A.units ≤ 480) (hx : x.length = 1) (h0 : 0 ≤ n) (h5 : n ≤ 5)
    (h : ∀ h' tk' t', Fr h₀ L h' m → News h₀ L h' news → Q (.str (replyS x n) t') { s with heap := h', toks := tk' }) : wpAny (model PySem.Challenge.rw_yf0037_01.row.prog w) A (call (.ref 275) [.int n u, .str x t]) Q E s :=
  wpAny_call (use (fp := []) (rest := news) F X T hB N (fun _ _ _ h => nomatch h) hh hd hu fun g W => reply_spec W hx h0 h5 fun h' tk' t'  W' => ⟨[], W', fun F' N' _ => h h' tk' t'  F' N'⟩)
theorem count_use {x y : Str} {t u : Tok} {Q : Value → Shared → Prop} (F : Fr h₀ L s.heap m) (X : (hd.heap_1 w.params).In h₀) (T : Top View Loose mean mg mb h₀) (hB : FB A h₀ L m all) (N : News h₀ L s.heap news)
    (hh : A.handled = none) (hd : A.depth ≤ 480) (hu : A.units ≤ 480) (hx : x.cps.all (· < 128) = true) (hu0 : u ≠ 0) (ht : @LT.lt Nat _ u s.toks)
    (h : ∀ h' tk' t', Fr h₀ L h' m → News h₀ L h' news → Q (.int (countN y x.cps.toList 0) t') { s with heap := h', toks := tk' }) : wpAny (model PySem.Challenge.rw_yf0037_01.row.prog w) A (call (.ref 247) [.str x t, .str y u]) Q E s :=
  wpAny_call (use (fp := []) (rest := news) F X T hB N (fun _ _ _ h => nomatch h) hh hd hu fun g W => count_spec W hx hu0 ht fun h' tk' t'  W' => ⟨[], W', fun F' N' _ => h h' tk' t'  F' N'⟩)
end
/-- a reply that parse229 takes: all that its walk asks -/
structure GoodR (x : Str) (n : Int) : Prop where
  ex : ∃ p0 p1 p2 p3 p4 : Str, x.length ≤ 400 ∧ (Txt.slice x none (some 3) != Str.ofString "229") = false ∧ ¬ lf x < 0 ∧ ¬ rf x < 0 ∧ -(x.length : Int) ≤ lf x + 1 ∧ lf x + 1 < x.length ∧ -(x.length : Int) ≤ rf x - 1 ∧ rf x - 1 < x.length ∧ (Txt.item x (lf x + 1) != Txt.item x (rf x - 1)) = false ∧ ((Txt.item x (lf x + 1)).length == 0) = false ∧ (Txt.slice x (some (lf x + 1)) (some (rf x))).length ≤ 1000 ∧
    Txt.split (Txt.slice x (some (lf x + 1)) (some (rf x))) (Txt.item x (lf x + 1)) = [p0, p1, p2, p3, p4] ∧ PySem.intText? p3 = some n ∧ p3.length ≤ 640
section
variable {w : World} {A : Around} {h₀ : Heap} {all : List Env} {L : Addr} {m : Str → Option Value} {s : Shared} {mean : ExcName → Option Value} {mg mb : Str → Option Value} {news rest : Led} {E : Value → Shared → Prop}
theorem read_use {x : Str} {t : Tok} {n : Int} {Q : Value → Shared → Prop} (F : Fr h₀ L s.heap m) (X : (hd.heap_1 w.params).In h₀) (T : Top View Loose mean mg mb h₀) (hB : FB A h₀ L m all) (N : News h₀ L s.heap news)
    (hh : A.handled = none) (hd : A.depth ≤ 480) (hu : A.units ≤ 480) (hg : GoodR x n)
    (h : ∀ h' tk' r t' c, Fr h₀ L h' m → News h₀ L h' ((r, tupOf [.str (Str.ofString "h") t', .int n c]) :: news) → (∀ p ∈ news, Ap p.1 r) → Q (.ref r) { s with heap := h', toks := tk' }) : wpAny (model PySem.Challenge.rw_yf0037_01.row.prog w) A (call (.ref 289) [.str x t]) Q E s := by
  obtain ⟨p0, p1, p2, p3, p4, hl, c1, c2, c3, b1, b2, b3, b4, c4, y, hs, e, i3, l3⟩ := hg.ex
  refine wpAny_call (use (fp := []) (rest := news) F X T hB N (fun _ _ _ h => nomatch h) hh hd hu fun g W => ?_)
  refine read_good W hl c1 c2 c3 b1 b2 b3 b4 c4 y hs e i3 l3 fun h' tk' r t' c W' => ⟨_, W', fun F' N' nd => h h' tk' r t' c F' N' fun p hp => nd p hp (r, tupOf [.str (Str.ofString "h") t', .int n c]) (.head _)⟩
theorem iconcat_one_use {a b : Addr} {xs : Array Value} {n k : Nat} {Q : Value → Shared → Prop} (F : Fr h₀ L s.heap m) (X : (hd.heap_1 w.params).In h₀) (T : Top View Loose mean mg mb h₀) (hB : FB A h₀ L m all) (N : News h₀ L s.heap news)
    (hs : ∀ p ∈ ([(a, listOf xs n), (b, listOf #[.none] k)]) ++ rest, p ∈ news) (hdis : ∀ p ∈ rest, ∀ q ∈ ([(a, listOf xs n), (b, listOf #[.none] k)] : Led), Ap p.1 q.1) (hh : A.handled = none) (hd : A.depth ≤ 480) (hu : A.units ≤ 480) (hab : Ap a b) (hsz : xs.size ≤ 100)
    (h : ∀ h' tk' n', Fr h₀ L h' m → News h₀ L h' ([(a, listOf (xs ++ #[.none]) n'), (b, listOf #[.none] k)] ++ rest) → Q (.ref a) { s with heap := h', toks := tk' }) : wpAny (model PySem.Challenge.rw_yf0037_01.row.prog w) A (call (.ref 268) [.ref a, .ref b]) Q E s := by
  refine wpAny_call (use (fp := [(a, listOf xs n), (b, listOf #[.none] k)]) (rest := rest) F X T hB (fun p hp => N p (hs p hp)) hdis hh hd hu fun g W => ?_)
  exact iconcat_one W hab hsz fun h' tk' n' W' => ⟨_, W', fun F' N' nd => h h' tk' n' F' N'⟩
theorem iconcat_two_use {a b : Addr} {xs : Array Value} {n k : Nat} {Q : Value → Shared → Prop} (F : Fr h₀ L s.heap m) (X : (hd.heap_1 w.params).In h₀) (T : Top View Loose mean mg mb h₀) (hB : FB A h₀ L m all) (N : News h₀ L s.heap news)
    (hs : ∀ p ∈ ([(a, listOf xs n), (b, listOf #[.none, .none] k)]) ++ rest, p ∈ news) (hdis : ∀ p ∈ rest, ∀ q ∈ ([(a, listOf xs n), (b, listOf #[.none, .none] k)] : Led), Ap p.1 q.1) (hh : A.handled = none) (hd : A.depth ≤ 480) (hu : A.units ≤ 480) (hab : Ap a b) (hsz : xs.size ≤ 100)
    (h : ∀ h' tk' n', Fr h₀ L h' m → News h₀ L h' ([(a, listOf (xs ++ #[.none, .none]) n'), (b, listOf #[.none, .none] k)] ++ rest) → Q (.ref a) { s with heap := h', toks := tk' }) : wpAny (model PySem.Challenge.rw_yf0037_01.row.prog w) A (call (.ref 268) [.ref a, .ref b]) Q E s := by
  refine wpAny_call (use (fp := [(a, listOf xs n), (b, listOf #[.none, .none] k)]) (rest := rest) F X T hB (fun p hp => N p (hs p hp)) hdis hh hd hu fun g W => ?_)
  exact iconcat_two W hab hsz fun h' tk' n' W' => ⟨_, W', fun F' N' nd => h h' tk' n' F' N'⟩
end
local macro_rules | `(tactic| walk_at "call ref") => `(tactic| (with_reducible refine callN 240 ?_; k_dflt apply gt_use; k_extra "c0"; k_extra "s"))
local macro_rules | `(tactic| walk_at "call ref") => `(tactic| (with_reducible refine callN 275 ?_; k_dflt apply reply_use; k_extra "c3"; k_extra "s"))
local macro_rules | `(tactic| walk_at "call ref") => `(tactic| (with_reducible refine callN 289 ?_; k_dflt apply read_use; k_extra "c1"; k_extra "s"))
/-- names that the deck takes -/
structure Fit (x : Str) : Prop where
  len : x.length ≤ 100
  clean : cleanN x
  low : cleanN (Txt.lower x)
  oclean : cleanN (otherS x)
  olen : (otherS x).length ≤ 100
  olow : Txt.lower (otherS x) = Txt.lower x
noncomputable def Apart (xs : List Str) : Prop := xs.Pairwise fun a b => (Txt.lower a != Txt.lower b) = true
theorem bne_flip {a b : Str} (h : (a != b) = true) : (b != a) = true := by
  rw [bne_iff_ne] at h ⊢; exact Ne.symm h
theorem bne_eq {a b : Str} (h : (a != b) = true) : (a == b) = false := by
  rw [bne_iff_ne] at h; exact beq_false_of_ne h
theorem getsK_head {k0 : Str} {ks : List Str} (f : Fit k0) (hl : ∀ k ∈ k0 :: ks, k.length ≤ 100) : GetsK (k0 :: ks) k0 0 :=
  ⟨f.low, f.len, hl, fun k e => by rw [← Option.some.inj e]; simp, fun i k hi => absurd hi (Nat.not_lt_zero i)⟩
theorem getsK_snd {k0 k1 : Str} {ks : List Str} (f : Fit k1) (hl : ∀ k ∈ k0 :: k1 :: ks, k.length ≤ 100) (h : (Txt.lower k0 == Txt.lower k1) = false) : GetsK (k0 :: k1 :: ks) k1 1 :=
  ⟨f.low, f.len, hl, fun k e => by rw [← Option.some.inj e]; simp, fun i k hi e => by
    have : i = 0 := by omega
    subst this
    rw [← Option.some.inj e]; exact h⟩
theorem setsK_head {x k0 : Str} {ks : List Str} (h1 : cleanN x) (h2 : cleanN (Txt.lower x)) (h3 : x.length ≤ 100) (hl : ∀ k ∈ k0 :: ks, k.length ≤ 100) (hz : (k0 :: ks).length ≤ 100) (hx : Txt.lower x = Txt.lower k0) (hd : ∀ k ∈ ks, (Txt.lower k != Txt.lower k0) = true) : SetsK (k0 :: ks) x 0 :=
  ⟨h1, h2, h3, hl, hz, fun k e => by rw [← Option.some.inj e, hx]; simp, fun i k hi e => by
    cases i with
    | zero => exact absurd rfl hi
    | succ i => rw [hx]; exact hd k (List.mem_of_getElem? e)⟩
theorem setsK_snd {x k0 k1 : Str} {ks : List Str} (h1 : cleanN x) (h2 : cleanN (Txt.lower x)) (h3 : x.length ≤ 100) (hl : ∀ k ∈ k0 :: k1 :: ks, k.length ≤ 100) (hz : (k0 :: k1 :: ks).length ≤ 100) (hx : Txt.lower x = Txt.lower k1) (h0 : (Txt.lower k0 != Txt.lower k1) = true) (hd : ∀ k ∈ ks, (Txt.lower k != Txt.lower k1) = true) : SetsK (k0 :: k1 :: ks) x 1 :=
  ⟨h1, h2, h3, hl, hz, fun k e => by rw [← Option.some.inj e, hx]; simp, fun i k hi e => by
    rw [hx]
    match i, hi, e with
    | 0, _, e => rw [← Option.some.inj e]; exact h0
    | i + 2, _, e => exact hd k (List.mem_of_getElem? e)⟩
theorem hasMap (cs : List Card) : Has cs (cs.map cardO) := fun _ hc => List.mem_map_of_mem (f := cardO) hc
theorem dkIs_six {P : Params} {D dd Lh : Addr} {tk : Tok} {n : Nat} (cs : List Card) : DkIs P D dd Lh tk n cs (cs.map cardO) (deckC P D dd Lh tk n cs) :=
  ⟨rfl, fun c hc => List.mem_map_of_mem (f := cardO) hc, fun p hp => by
    obtain ⟨c, -, rfl⟩ := List.mem_map.mp hp
    exact ⟨_, rfl⟩⟩
theorem subDk {P : Params} {D dd Lh : Addr} {tk : Tok} {n : Nat} {cs : List Card} {E F : Led} {dk : Led} (h : DkIs P D dd Lh tk n cs E dk) (hF : ∀ p ∈ F, p ∈ E) : ∀ p ∈ deckC P D dd Lh tk n cs ++ F, p ∈ dk := fun p hp => by
  obtain ⟨rfl, hE, -⟩ := h
  rcases List.mem_append.mp hp with hp | hp
  · rcases List.mem_append.mp hp with hp | hp
    · exact List.mem_append_left _ hp
    · obtain ⟨c, hc, rfl⟩ := List.mem_map.mp hp
      exact List.mem_append_right _ (hE c hc)
  · exact List.mem_append_right _ (hF p hp)
theorem consSub {a : Addr × Obj} {x y : Led} (h : ∀ p ∈ x, p ∈ y) : ∀ p ∈ a :: x, p ∈ a :: y := fun p hp => by
  rcases List.mem_cons.mp hp with rfl | hp
  · exact .head _
  · exact .tail _ (h p hp)
theorem cut_cards {w : World} {outer : List Env} {g : Heap} {s : Shared} {R : Result → Shared → Prop} {D dd Lh : Addr} {tk : Tok} {n : Nat} {c0 c1 c2 c3 c4 c5 : Card} (W : Wd w outer g (deckC w.params D dd Lh tk n [c0, c1, c2, c3, c4, c5]) s) (hf : ∀ c ∈ [c0, c1, c2, c3, c4, c5], Fit c.k ∧ cleanV c.v) (ha : Apart [c0.k, c1.k, c2.k, c3.k, c4.k, c5.k])
  (hret : ∀ h' tk' n' tn r, Wd w outer g ((r, listOf #[.none] 0) :: (deckC w.params D dd Lh tk n' [c1, c2, c3, c4, c5, ⟨tn, c0.k, c0.v, c0.a, c0.b⟩] ++ [cardO c0])) { s with heap := h', toks := tk' } → (∀ q ∈ (deckC w.params D dd Lh tk n' [c1, c2, c3, c4, c5, ⟨tn, c0.k, c0.v, c0.a, c0.b⟩] ++ [cardO c0]), Ap r q.1) → R (.ok (.ret (.ref r))) { s with heap := h', toks := tk' }) :
  codeAny (model PySem.Challenge.rw_yf0037_01.row.prog w) (Lv 460 outer) (.call (.ref 310) ⟨[.ref D], []⟩) R s := by
  have f0 := (hf c0 (.head _)).1
  have hl : ∀ k ∈ [c0.k, c1.k, c2.k, c3.k, c4.k, c5.k], k.length ≤ 100 := fun k hk => by
    obtain ⟨c, hc, rfl⟩ := List.mem_map.mp (show k ∈ [c0, c1, c2, c3, c4, c5].map (·.k) from hk)
    exact (hf c hc).1.len
  have hd := (List.pairwise_cons.mp ha).1
  refine cut_spec W (dkIs_six _) (getsK_head f0 hl) (setsK_head f0.clean f0.low f0.len hl (Nat.le_of_ble_eq_true rfl) rfl fun k hk => bne_flip (hd k hk)) (hf c0 (.head _)).2 fun h' tk' n' tn r dk' hk' W' nr => ?_
  have sb := subDk (F := [cardO c0]) hk' fun p hp => by rw [List.mem_singleton.mp hp]; exact .tail _ (.head _)
  exact hret h' tk' n' tn r (W'.sub (consSub sb)) fun q hq => nr q (sb q hq)
theorem turn_cards {w : World} {outer : List Env} {g : Heap} {s : Shared} {R : Result → Shared → Prop} {D dd Lh : Addr} {tk : Tok} {n : Nat} {c0 c1 c2 c3 c4 c5 : Card} (W : Wd w outer g (deckC w.params D dd Lh tk n [c0, c1, c2, c3, c4, c5]) s) (hf : ∀ c ∈ [c0, c1, c2, c3, c4, c5], Fit c.k ∧ cleanV c.v) (ha : Apart [c0.k, c1.k, c2.k, c3.k, c4.k, c5.k])
  (hret : ∀ h' tk' n' ta tb ca cb r, Wd w outer g ((r, listOf #[.none, .none] 2) :: (deckC w.params D dd Lh tk n' [c2, c3, c4, c5, ⟨ta, otherS c1.k, c1.v, ca, c1.b⟩, ⟨tb, otherS c0.k, c0.v, cb, c0.b⟩] ++ [cardO c1, cardO c0])) { s with heap := h', toks := tk' } → (∀ q ∈ (deckC w.params D dd Lh tk n' [c2, c3, c4, c5, ⟨ta, otherS c1.k, c1.v, ca, c1.b⟩, ⟨tb, otherS c0.k, c0.v, cb, c0.b⟩] ++ [cardO c1, cardO c0]), Ap r q.1) → R (.ok (.ret (.ref r))) { s with heap := h', toks := tk' }) :
  codeAny (model PySem.Challenge.rw_yf0037_01.row.prog w) (Lv 460 outer) (.call (.ref 315) ⟨[.ref D], []⟩) R s := by
  have f0 := (hf c0 (.head _)).1
  have f1 := (hf c1 (.tail _ (.head _))).1
  have hl : ∀ k ∈ [c0.k, c1.k, c2.k, c3.k, c4.k, c5.k], k.length ≤ 100 := fun k hk => by
    obtain ⟨c, hc, rfl⟩ := List.mem_map.mp (show k ∈ [c0, c1, c2, c3, c4, c5].map (·.k) from hk)
    exact (hf c hc).1.len
  have hl2 : ∀ k ∈ [c0.k, c2.k, c3.k, c4.k, c5.k, otherS c1.k], k.length ≤ 100 := fun k hk => by
    rcases List.mem_append.mp (show k ∈ [c0.k, c2.k, c3.k, c4.k, c5.k] ++ [otherS c1.k] from hk) with hk | hk
    · rcases List.mem_cons.mp hk with rfl | hk
      · exact hl _ (.head _)
      · exact hl _ (.tail _ (.tail _ hk))
    · rw [List.mem_singleton.mp hk]; exact f1.olen
  obtain ⟨hd0, ha'⟩ := List.pairwise_cons.mp ha
  have hd1 := (List.pairwise_cons.mp ha').1
  have h01 : (Txt.lower c0.k != Txt.lower c1.k) = true := hd0 _ (.head _)
  refine turn_spec W (dkIs_six _) (getsK_snd f1 hl (bne_eq h01)) (setsK_snd f1.oclean (f1.olow ▸ f1.low) f1.olen hl (Nat.le_of_ble_eq_true rfl) f1.olow h01 fun k hk => bne_flip (hd1 k hk)) (getsK_head f0 hl2)
    (setsK_head f0.oclean (f0.olow ▸ f0.low) f0.olen hl2 (Nat.le_of_ble_eq_true rfl) f0.olow fun k hk => ?_) f0.len f1.len (hf c0 (.head _)).2 (hf c1 (.tail _ (.head _))).2 fun h' tk' n' ta tb ca cb r dk' hk' W' nr => ?_
  · rcases List.mem_append.mp (show k ∈ [c2.k, c3.k, c4.k, c5.k] ++ [otherS c1.k] from hk) with hk | hk
    · exact bne_flip (hd0 k (.tail _ hk))
    · rw [List.mem_singleton.mp hk, f1.olow]; exact bne_flip h01
  · have sb := subDk (F := [cardO c1, cardO c0]) hk' fun p hp => by
      rcases List.mem_cons.mp hp with rfl | hp
      · exact .tail _ (.tail _ (.tail _ (.head _)))
      · rw [List.mem_singleton.mp hp]; exact .tail _ (.tail _ (.head _))
    exact hret h' tk' n' ta tb ca cb r (W'.sub (consSub sb)) fun q hq => nr q (sb q hq)
noncomputable abbrev rangeG (x left : Int) : Obj := { cls := .type "range_iterator", dict := none, data := .fields #[rawInt x, rawInt left, rawInt 1], slots := #[] }
section
variable {prog : Program} {w : World} {A : Around} {E : Value → Shared → Prop} {s : Shared} {R : Result → Shared → Prop} {h₀ : Heap} {L : Addr} {m : Str → Option Value} {news : Led}
theorem rsmall {n : Nat} (h : n ≤ 100) : Builtin.Range.small 0 n 1 = true ∧ Builtin.Range.rangeSize 0 n 1 = n := by
  have e : Builtin.Range.rangeSize 0 n 1 = n := by
    unfold Builtin.Range.rangeSize
    rcases Nat.eq_zero_or_pos n with rfl | hp
    · rfl
    · rw [if_pos (by decide), if_pos (by omega)]; simp
  refine ⟨?_, e⟩
  unfold Builtin.Range.small
  rw [e]
  unfold Builtin.Range.rangeFitsLong
  simp
  omega
theorem pyIterR {l : Addr} {n : Nat} {t u v : Tok} {Q : Value → Shared → Prop} (F : Fr h₀ L s.heap m) (N : News h₀ L s.heap news) (hr : IsRange s.heap l 0 n 1 t u v) (hn : n ≤ 100)
    (h : ∀ I h', Fr h₀ L h' m → News h₀ L h' ((I, rangeG 0 n) :: news) → (∀ p ∈ news, p.1 < I) → Q (.ref I) { s with heap := h' }) : wpAny (model prog w) A (pyIter (.ref l)) Q E s := by
  refine wpAny_pyIter_range hr (rsmall hn).1 ?_
  rw [(rsmall hn).2]
  exact h _ _ (F.push _) (N.push F _) fun p hp => Heap.lt_size (N p hp).1
theorem for_turnR {y : Str} {py : Pos} {body : List Stmt} {env : Env} {I : Addr} {x left : Int} {gf : Obj → Led} (F : Fr h₀ L s.heap m) (N : News h₀ L s.heap news)
    (hU : UpdF I (rangeG x left) news gf) (hl : 0 < left)
    (h : ∀ h', Fr h₀ L h' m → News h₀ L h' (gf (rangeG (x + 1) (left - 1))) → wpAny (model prog w) A (assign (.Name y py) env (.int x s.toks)) (fun _ s₂ => wpAny (model prog w) A (execs body env) (fun f s₃ => match f with
            | .next | .cont => codeAny (model prog w) A (.forLoop (.Name y py) (.ref I) body [] env) R s₃
            | .brk => R (.ok .next) s₃
            | .ret v => R (.ok (.ret v)) s₃) (notedBy (model prog w) A env fun e s' => R (.error e) s') s₂) (notedBy (model prog w) A env fun e s' => R (.error e) s') { s with heap := h', toks := s.toks + 1 }) :
    codeAny (model prog w) A (.forLoop (.Name y py) (.ref I) body [] env) R s := by
  obtain ⟨pre, post, rfl, hgf, h1, h2⟩ := hU.split
  have hi : (I, rangeG x left) ∈ pre ++ (I, rangeG x left) :: post := by simp
  refine forLoop_once (wpAny_pyNext_range_item (N _ hi).1 hl fun h' hit' hs' => ?_)
  refine wpAny_pure (h h' (F.update N hi hs') ?_)
  rw [hgf]
  exact news_set N h1 h2 hs' hit'
theorem for_endR {target : Expr} {body : List Stmt} {env : Env} {I : Addr} {x left : Int} {news' : Led} (F : Fr h₀ L s.heap m) (N : News h₀ L s.heap news) (hi : (I, rangeG x left) ∈ news) (hl : left ≤ 0) (hh : A.handled = none)
    (hU : Drop I news news') (h : ∀ h', Fr h₀ L h' m → News h₀ L h' news' → R (.ok .next) { s with heap := h' }) :
    codeAny (model prog w) A (.forLoop target (.ref I) body [] env) R s := by
  refine forLoop_once (wpAny_pyNext_range_end hh (N _ hi).1 hl fun h' he' => wpAny_execs_nil (h h' ?_ fun p hp => ?_))
  · have hne : ∀ b o, h₀.get? b = some o → b ≠ I := fun b o e hba => by have := (N _ hi).2.2; rw [← hba, e] at this; cases this
    exact ⟨F.ns.extBut he' ((N _ hi).2.1).symm, fun b o e => he' b o (hne b o e) (F.keep b o e), F.above⟩
  · exact ⟨he' _ _ (hU.mem p hp).2 (N p (hU.mem p hp).1).1, (N p (hU.mem p hp).1).2⟩
theorem comp_turnR {y : Str} {py : Pos} {iter elt : Expr} {scope : Scope} {pos : Pos} {acc : Value} {env : Env} {I : Addr} {x left : Int} {gf : Obj → Led} (F : Fr h₀ L s.heap m) (N : News h₀ L s.heap news)
    (hU : UpdF I (rangeG x left) news gf) (hl : 0 < left)
    (h : ∀ h', Fr h₀ L h' m → News h₀ L h' (gf (rangeG (x + 1) (left - 1))) → wpAny (model prog w) A (assign (.Name y py) env (.int x s.toks)) (fun _ s₂ => wpAny (model prog w) A (eval elt env) (fun x s₄ =>
              wpAny (model prog w) A (call (.builtin "list.append") [acc, x]) (fun _ s₅ => codeAny (model prog w) A (.compLoop (.ListComp elt [⟨.Name y py, iter, [], 0⟩] scope pos) 0 (.ref I) acc env) R s₅) (notedBy (model prog w) A env fun e s' => R (.error e) s') s₄) (notedBy (model prog w) A env fun e s' => R (.error e) s') s₂) (notedBy (model prog w) A env fun e s' => R (.error e) s') { s with heap := h', toks := s.toks + 1 }) :
    codeAny (model prog w) A (.compLoop (.ListComp elt [⟨.Name y py, iter, [], 0⟩] scope pos) 0 (.ref I) acc env) R s := by
  obtain ⟨pre, post, rfl, hgf, h1, h2⟩ := hU.split
  have hi : (I, rangeG x left) ∈ pre ++ (I, rangeG x left) :: post := by simp
  refine compLoop_once (wpAny_pyNext_range_item (N _ hi).1 hl fun h' hit' hs' => ?_)
  refine wpAny_pure (wpAny_mono (h h' (F.update N hi hs') ?_) (fun _ s₂ h₂ => wpAny_tests_nil (by rw [if_pos rfl]; exact h₂)) fun _ _ e => e)
  rw [hgf]
  exact news_set N h1 h2 hs' hit'
theorem comp_endR {target iter elt : Expr} {ifs : List Expr} {scope : Scope} {pos : Pos} {acc : Value} {env : Env} {I : Addr} {x left : Int} {news' : Led} (F : Fr h₀ L s.heap m) (N : News h₀ L s.heap news) (hi : (I, rangeG x left) ∈ news) (hl : left ≤ 0) (hh : A.handled = none)
    (hU : Drop I news news') (h : ∀ h', Fr h₀ L h' m → News h₀ L h' news' → R (.ok .next) { s with heap := h' }) :
    codeAny (model prog w) A (.compLoop (.ListComp elt [⟨target, iter, ifs, 0⟩] scope pos) 0 (.ref I) acc env) R s := by
  refine compLoop_once (wpAny_pyNext_range_end hh (N _ hi).1 hl fun h' he' => h h' ?_ fun p hp => ?_)
  · have hne : ∀ b o, h₀.get? b = some o → b ≠ I := fun b o e hba => by have := (N _ hi).2.2; rw [← hba, e] at this; cases this
    exact ⟨F.ns.extBut he' ((N _ hi).2.1).symm, fun b o e => he' b o (hne b o e) (F.keep b o e), F.above⟩
  · exact ⟨he' _ _ (hU.mem p hp).2 (N p (hU.mem p hp).1).1, (N p (hU.mem p hp).1).2⟩
/-- what a comprehension's loop owes at its end, the ground at hand turned -/
noncomputable def CompT (prog : Program) (w : World) (A : Around) (E : Value → Shared → Prop) (h₀ : Heap) (L : Addr) (m : Str → Option Value) (g : Heap) (C : Addr) (Q : Value → Shared → Prop) (acc : Value) : Result → Shared → Prop := fun r s' => match r with
  | .ok _ => ∃ g' m' news', KtsTurn [L] g g' ∧ Fr g' C s'.heap m' ∧ News g' C s'.heap news' ∧ ∀ h'', Fr h₀ L h'' m → News h₀ L h'' news' → Q acc { s' with heap := h'' }
  | .error x => compPost (model prog w) A E none Q acc C (.error x) s'
theorem compT_end {g g' : Heap} {C : Addr} {Q : Value → Shared → Prop} {acc : Value} {m' : Str → Option Value} {news' : Led} {f : Flow} {s' : Shared} (F : Fr g' C s'.heap m') (N : News g' C s'.heap news') (T : KtsTurn [L] g g')
    (h : ∀ h'', Fr h₀ L h'' m → News h₀ L h'' news' → Q acc { s' with heap := h'' }) : CompT prog w A E h₀ L m g C Q acc (.ok f) s' := ⟨g', m', news', T, F, N, h⟩
theorem compEnvG {A₀ : Around} {base : Heap} {outer : List Env} {env : Env} {elt target iter : Expr} {ifs : List Expr} {scope : Scope} {pos : Pos} {cl : List (Str × Addr)} {I : Addr} {oI : Obj} {acc : Value} {Q : Value → Shared → Prop}
    (B : Below A₀ base outer h₀) (F : Fr h₀ L s.heap m) (N : News h₀ L s.heap news) (hm : (I, oI) ∈ news) (hA : A.frames = some (env :: outer)) (hf : env.frame = some L) (hke : env.scope.kind = .function)
    (hcell : ∀ y ∈ scope.names, y.2 ≠ .cell) (hk : scope.kind = .function)
    (hpi : ∀ {A : Around} {E : Value → Shared → Prop} {s : Shared} {Q : Value → Shared → Prop}, s.heap.get? I = some oI → Q (.ref I) s → wpAny (model prog w) A (pyIter (.ref I)) Q E s)
    (h : ∀ g C h' tk, Fr g C h' (fun _ => none) → News g C h' news → (∀ p ∈ news, p.1 < C) → h₀.StaysIn g → Below A base (env :: outer) g →
      codeAny (model prog w) A (.compLoop (.ListComp elt [⟨target, iter, ifs, 0⟩] scope pos) 0 (.ref I) acc (compEnvC scope cl C env)) (CompT prog w A E h₀ L m g C Q acc) { s with heap := h', toks := tk }) :
    wpAny (model prog w) A (newFunctionEnv scope env.globals cl [] env.qual none .none (some env)) (fun cenv s₄ =>
      codeAny (model prog w) A (.compStart (.ListComp elt [⟨target, iter, ifs, 0⟩] scope pos) 0 (.ref I) acc { cenv with scope := relabel scope env }) (compPost (model prog w) A E none Q acc cenv.locals) s₄) E s := by
  obtain ⟨FG, BG, st, _⟩ := groundX (R := fun _ _ => True) B F N hA hf hke
  have hsz : (hideAll s.heap (news.map (·.1))).objs.size = s.heap.objs.size := hideAll_size _ _
  have hkp : ∀ b o, (hideAll s.heap (news.map (·.1))).get? b = some o → s.heap.get? b = some o := fun b o e => of_hideAll _ e
  have hn : ∀ p ∈ news, (hideAll s.heap (news.map (·.1))).get? p.1 = none := fun p hp => hideAll_none _ (List.mem_map_of_mem hp)
  generalize hideAll s.heap (news.map (·.1)) = g at FG BG st hsz hkp hn
  refine wpAny_newFunctionEnv hcell (by intro y hy; simp at hy) (fun h₁ hns₁ hsb₁ => ?_) hk
  have old : ∀ b o, s.heap.get? b = some o → h₁.get? b = some o := fun b o e => hsb₁.extBut b o (Nat.ne_of_lt (Heap.lt_size e)) (Heap.get?_push_of_some _ e)
  have F₁ : Fr g s.heap.objs.size h₁ (fun _ => none) := ⟨hns₁, fun b o e => old b o (hkp b o e), Nat.le_of_eq hsz⟩
  have N₁ : News g s.heap.objs.size h₁ news := fun p hp => ⟨old _ _ (N p hp).1, Nat.ne_of_lt (Heap.lt_size (N p hp).1), hn p hp⟩
  have lp := h g s.heap.objs.size h₁ (s.toks + ([] : List (Str × Value)).length) F₁ N₁ (fun p hp => Heap.lt_size (N p hp).1) st BG
  have hpost : ∀ r s', CompT prog w A E h₀ L m g s.heap.objs.size Q acc r s' → compPost (model prog w) A E none Q acc s.heap.objs.size r s' := fun r s' hr => by
    cases r with
    | error x => exact hr
    | ok f =>
      obtain ⟨g', m', news', T', F', N', k⟩ := hr
      have hL0 : h₀.get? L = none := by
        cases q : h₀.get? L with
        | none => rfl
        | some o => exact absurd (Nat.lt_of_lt_of_le (Heap.lt_size q) F.above) (Nat.lt_irrefl _)
      have st' : ∀ b o, h₀.get? b = some o → g'.get? b = some o := fun b o e => T'.other b o (st b o e) fun q => by
        rw [List.mem_singleton.mp q, hL0] at e; cases e
      refine ⟨m', F'.ns, fun h'' hs'' => k h'' ?_ fun p hp => ?_⟩
      · obtain ⟨oL, es, ep, hL, hLd, hLk, hLf⟩ := FG.ns
        have hC : ∀ b o, g'.get? b = some o → b ≠ s.heap.objs.size := fun b o e q => by
          have h1 := Heap.lt_size e
          rw [q, T'.size, hsz] at h1
          exact Nat.lt_irrefl _ h1
        have hall : ∀ b o, g'.get? b = some o → h''.get? b = some o := fun b o e => (hs''.2 b (hC b o e)).trans (F'.keep b o e)
        obtain ⟨sl, hL'⟩ := T'.up hL
        exact ⟨⟨_, es, ep, hall L _ hL', hLd, hLk, hLf⟩, fun b o e => hall b o (st' b o e), F.above⟩
      · obtain ⟨oL, es, ep, hL, -, -, -⟩ := FG.ns
        obtain ⟨sl, hL'⟩ := T'.up hL
        refine ⟨(hs''.2 _ (N' p hp).2.1).trans (N' p hp).1, fun q => ?_, ?_⟩
        · have := (N' p hp).2.2; rw [q, hL'] at this; cases this
        · cases q : h₀.get? p.1 with
          | none => rfl
          | some o => have := (N' p hp).2.2; rw [st' _ _ q] at this; cases this
  have lp' := codeAny_mono lp hpost
  exact codeAny_compStart_list lp' (hpi (N₁ _ hm).1 lp')
theorem piList {l : Addr} {i : Nat} {d : Option Addr} {sl : Array (Option Value)} {I : Addr} {A : Around} {E : Value → Shared → Prop} {s : Shared} {Q : Value → Shared → Prop} (h : s.heap.get? I = some (iterG l i d sl)) (hq : Q (.ref I) s) : wpAny (model prog w) A (pyIter (.ref I)) Q E s :=
  wpAny_pyIter_listiter (l := l) (i := i) ⟨_, h, rfl, rfl⟩ hq
theorem piRange {x left : Int} {I : Addr} {A : Around} {E : Value → Shared → Prop} {s : Shared} {Q : Value → Shared → Prop} (h : s.heap.get? I = some (rangeG x left)) (hq : Q (.ref I) s) : wpAny (model prog w) A (pyIter (.ref I)) Q E s :=
  wpAny_pyIter_rangeiter h hq
end
local macro_rules | `(tactic| walk_at "pyIter ref") => `(tactic| (k_dflt (apply pyIterR; k_extra "FN"; assumption; k_extra "do"; k_whole); k_extra "zl"))
local macro_rules | `(tactic| k_extra "pi") => `(tactic| (k_extra "ce"; (first | exact piList | exact piRange); k_whole))
local macro_rules | `(tactic| walk_at "newFunctionEnv") => `(tactic| (k_dflt (apply compEnvG; k_extra "pi"); k_extra "zc"))
local macro_rules | `(tactic| walk_at "CompT") => `(tactic| (k_dflt (apply compT_end; k_extra "FN"; (first | k_extra "q" | exact KtsTurn.refl); k_whole); intros; (try dsimp only)))
local macro_rules | `(tactic| k_extra "my left") => `(tactic| first | omega | decide)
local macro_rules | `(tactic| walk_at "codeAny") => `(tactic| (k_dflt (first | apply for_turnR | apply comp_turnR); k_dflt (k_extra "FNU"; k_extra "my left"; k_whole); k_extra "zn"))
local macro_rules | `(tactic| walk_at "codeAny") => `(tactic| (k_dflt (first | apply for_endR | apply comp_endR); k_dflt (k_extra "FN"; (case hi => k_mem); k_extra "my left"; exact rfl; k_extra "my drop"; k_whole); k_extra "z"))
noncomputable def fdBody : FuncBody → List Stmt
  | .stmts b => b
  | _ => []
noncomputable def lawFd (P : Params) : Option FuncData := match (hd.heap_1 P).lookup 320 with
  | some ⟨_, _, .func fd, _⟩ => some fd
  | _ => none
noncomputable def lawBody (P : Params) : List Stmt := match lawFd P with
  | some fd => fdBody fd.body
  | none => []
noncomputable def lawScope (P : Params) : Scope := match lawFd P with
  | some fd => fd.scope
  | none => default
noncomputable def stmtAt (P : Params) (i : Nat) : Stmt := (lawBody P).getD i default
noncomputable def bodyOf : Stmt → List Stmt
  | .For _ _ b _ _ => b
  | .If _ b _ _ => b
  | _ => []
noncomputable def elseOf : Stmt → List Stmt
  | .For _ _ _ b _ => b
  | .If _ _ b _ => b
  | _ => []
noncomputable abbrev lawEnv (P : Params) (L : Addr) : Env := envOfC (Str.ofString "law") (lawScope P) L 320 (.ref 319)
noncomputable abbrev lawA (P : Params) (L : Addr) : Around := (Lv 301 []).deeper (lawEnv P L)
noncomputable abbrev lawM (w : World) : Model := model PySem.Challenge.rw_yf0037_01.row.prog w
/-- kl stays as it is whatever the deck dk does: tuples may be shared -/
noncomputable def Keep (dk kl : Led) : Prop := ∀ p ∈ kl, (∃ vs, p.2 = tupOf vs) ∨ OffD p.1 dk
theorem keep_split {h₀ h : Heap} {L : Addr} {dk kl sh : Led} (N : News h₀ L h dk) (N' : News h₀ L h kl) (K : Keep dk kl) (hs : ∀ q ∈ dk, (∃ vs, q.2 = tupOf vs) → q ∈ sh) : ∀ p ∈ kl, p ∈ sh ∨ ∀ q ∈ dk, Ap p.1 q.1 := fun p hp => by
  rcases Classical.em (∃ q ∈ dk, q.1 = p.1) with ⟨q, hq, e⟩ | hn
  · have e2 : q.2 = p.2 := by
      have h1 := (N q hq).1
      have h2 := (N' p hp).1
      rw [e, h2] at h1
      exact (Option.some.inj h1).symm
    rcases K p hp with ⟨vs, hv⟩ | off
    · exact .inl (by
        have : q = p := Prod.ext e e2
        rw [← this]
        exact hs q hq ⟨vs, e2.trans hv⟩)
    · exact absurd e.symm (off q hq).ne
  · exact .inr fun q hq e => hn ⟨q, hq, e.symm⟩
theorem deck_tups {P : Params} {D dd Lh : Addr} {tk : Tok} {n : Nat} {cs : List Card} : ∀ q ∈ deckC P D dd Lh tk n cs, (∃ vs, q.2 = tupOf vs) → q ∈ cs.map cardO := fun q hq ⟨vs, hv⟩ => by
  unfold deckC at hq
  rcases List.mem_append.mp hq with h | h
  · unfold deckL at h
    simp only [List.mem_cons, List.not_mem_nil, or_false] at h
    rcases h with rfl | rfl | rfl
    · exact absurd hv (objNe (by rfl))
    · exact absurd hv (objNe (by rfl))
    · exact absurd hv (objNe (by rfl))
  · exact h
/-- a contract used inside a walk, some of its objects sh known elsewhere too -/
theorem useK {w : World} {prog : Program} {A : Around} {h₀ : Heap} {all : List Env} {L : Addr} {m : Str → Option Value} {s : Shared} {c : Code} {R : Result → Shared → Prop} {mean : ExcName → Option Value} {mg mb : Str → Option Value} {fp rest sh : Led} {d : Nat}
    (F : Fr h₀ L s.heap m) (X : (hd.heap_1 w.params).In h₀) (T : Top View Loose mean mg mb h₀) (hB : FB A h₀ L m all) (N : News h₀ L s.heap (fp ++ rest)) (hk : ∀ p ∈ rest, p ∈ sh ∨ ∀ q ∈ fp, Ap p.1 q.1)
    (hh : A.handled = none) (hd : A.depth ≤ d) (hu : A.units ≤ d)
    (spec : ∀ g, Wd w all g fp s → codeAny (model prog w) (Lv d all) c (fun r s' => ∃ fp', Wd w all g fp' s' ∧ (∀ p ∈ sh, p ∈ fp') ∧ (Fr h₀ L s'.heap m → News h₀ L s'.heap (fp' ++ rest) → (∀ p ∈ rest, p ∈ sh ∨ ∀ q ∈ fp', Ap p.1 q.1) → R r s')) s) :
    codeAny (model prog w) A c R s := by
  classical
  have hm : ∀ p, p ∈ rest.filter (fun p => decide (∀ q ∈ fp, Ap p.1 q.1)) ↔ p ∈ rest ∧ ∀ q ∈ fp, Ap p.1 q.1 := fun p => by rw [List.mem_filter, decide_eq_true_eq]
  refine use (fp := fp) (rest := rest.filter (fun p => decide (∀ q ∈ fp, Ap p.1 q.1))) F X T hB (fun p hp => ?_) (fun p hp => ((hm p).mp hp).2) hh hd hu fun g W => ?_
  · rcases List.mem_append.mp hp with h | h
    · exact N p (List.mem_append_left _ h)
    · exact N p (List.mem_append_right _ ((hm p).mp h).1)
  refine codeAny_mono (spec g W) fun r s' hr => ?_
  obtain ⟨fp', W', hs, k⟩ := hr
  refine ⟨fp', W', fun F' N' nd => k F' (fun p hp => ?_) fun p hp => ?_⟩
  · rcases List.mem_append.mp hp with h | h
    · exact N' p (List.mem_append_left _ h)
    · rcases hk p h with h' | h'
      · exact N' p (List.mem_append_left _ (hs p h'))
      · exact N' p (List.mem_append_right _ ((hm p).mpr ⟨h, h'⟩))
  · rcases hk p hp with h' | h'
    · exact .inl h'
    · exact .inr (nd p ((hm p).mpr ⟨hp, h'⟩))
theorem memK {tl dk kl : Led} {p : Addr × Obj} (e : tl = dk ++ kl) (h : p ∈ kl) : p ∈ tl := by rw [e]; exact List.mem_append_right _ h
theorem memI {tl dk it kl : Led} {p : Addr × Obj} (e : tl = dk ++ (it ++ kl)) (h : p ∈ kl) : p ∈ tl := memK e (List.mem_append_right _ h)
theorem memJ {tl dk it kl : Led} {p : Addr × Obj} (e : tl = dk ++ (it ++ kl)) (h : p ∈ kl) : List.Mem p tl := memI e h
theorem memL {tl dk kl : Led} {p : Addr × Obj} (e : tl = dk ++ kl) (h : p ∈ kl) : List.Mem p tl := memK e h
theorem memD {P : Params} {D dd Lh : Addr} {tk : Tok} {n : Nat} {cs : List Card} {tl kl : Led} (e : tl = deckC P D dd Lh tk n cs ++ kl) : (D, instObj 171 dd) ∈ tl := by
  rw [e]; exact List.mem_append_left _ (List.mem_append_left _ (.head _))
theorem memDd {P : Params} {D dd Lh : Addr} {tk : Tok} {n : Nat} {cs : List Card} {tl kl : Led} (e : tl = deckC P D dd Lh tk n cs ++ kl) : (dd, dictOf [⟨PyData.keyHash P (Str.ofString "_headers"), .str (Str.ofString "_headers") tk, .ref Lh⟩] 1) ∈ tl := by
  rw [e]; exact List.mem_append_left _ (List.mem_append_left _ (.tail _ (.head _)))
theorem offK {tl dk kl : Led} {x : Addr} (e : tl = dk ++ kl) (h : OffD x tl) : OffD x dk ∧ OffD x kl := by
  subst e
  exact ⟨fun q hq => h q (List.mem_append_left _ hq), fun q hq => h q (List.mem_append_right _ hq)⟩
section
variable {w : World} {A : Around} {h₀ : Heap} {all : List Env} {L : Addr} {m : Str → Option Value} {s : Shared} {mean : ExcName → Option Value} {mg mb : Str → Option Value} {news tl lits kl : Led} {E : Value → Shared → Prop}
/-- one call upon the deck, from a contract -/
theorem deck_law {c : Code} {R : Result → Shared → Prop} {fp : Led} {cs : List Card} {d : Nat} {D dd Lh : Addr} {tk : Tok} {n : Nat}
    (F : Fr h₀ L s.heap m) (X : (hd.heap_1 w.params).In h₀) (T : Top View Loose mean mg mb h₀) (hB : FB A h₀ L m all) (N : News h₀ L s.heap news)
    (ht : Tail tl news lits) (hl : tl = deckC w.params D dd Lh tk n cs ++ kl) (ho : ∀ p ∈ lits, OffD p.1 tl) (K : Keep (deckC w.params D dd Lh tk n cs) kl) (hh : A.handled = none) (hd : A.depth ≤ d) (hu : A.units ≤ d)
    (spec : ∀ g, Wd w all g (deckC w.params D dd Lh tk n cs) s → codeAny (lawM w) (Lv d all) c (fun r s' => ∃ nw dk', Wd w all g (nw ++ dk') s' ∧ (∀ p ∈ cs.map cardO, p ∈ dk') ∧ (∀ x ∈ nw, OffD x.1 dk') ∧ (Fr h₀ L s'.heap m → News h₀ L s'.heap (nw ++ (lits ++ (dk' ++ kl))) → (∀ p ∈ lits, OffD p.1 (dk' ++ kl)) → (∀ x ∈ nw, OffD x.1 (dk' ++ kl)) → (∀ x ∈ nw, ∀ p ∈ lits, Ap p.1 x.1) → Keep dk' kl → R r s')) s) :
    codeAny (lawM w) A c R s := by
  have hb := ht.back
  subst hb
  subst hl
  have N1 := News.parts.mp N
  have N2 := News.parts.mp N1.2
  have hk := keep_split N2.1 N2.2 K deck_tups
  refine useK (fp := deckC w.params D dd Lh tk n cs) (rest := lits ++ kl) (sh := cs.map cardO) F X T hB (News.parts.mpr ⟨N2.1, News.parts.mpr ⟨N1.1, N2.2⟩⟩) (fun p hp => ?_) hh hd hu fun g W => ?_
  · rcases List.mem_append.mp hp with h | h
    · exact .inr fun q hq => ho p h q (List.mem_append_left _ hq)
    · exact hk p h
  refine codeAny_mono (spec g W) fun r s' hr => ?_
  obtain ⟨nw, dk', W', hs, hx, k⟩ := hr
  refine ⟨nw ++ dk', W', fun p hp => List.mem_append_right _ (hs p hp), fun F' N' nd => ?_⟩
  have M1 := News.parts.mp N'
  have M2 := News.parts.mp M1.1
  have M3 := News.parts.mp M1.2
  have lit : ∀ p ∈ lits, ∀ q ∈ nw ++ dk', Ap p.1 q.1 := fun p hp => by
    rcases nd p (List.mem_append_left _ hp) with h | h
    · exact absurd rfl (ho p hp p (List.mem_append_left _ (by unfold deckC; exact List.mem_append_right _ h))).ne
    · exact h
  refine k F' (News.parts.mpr ⟨M2.1, News.parts.mpr ⟨M3.1, News.parts.mpr ⟨M2.2, M3.2⟩⟩⟩) (fun p hp q hq => ?_) (fun x hx' q hq => ?_) (fun x hx' p hp => lit p hp x (List.mem_append_left _ hx')) fun p hp => ?_
  · rcases List.mem_append.mp hq with h | h
    · exact lit p hp q (List.mem_append_right _ h)
    · exact ho p hp q (List.mem_append_right _ h)
  · rcases List.mem_append.mp hq with h | h
    · exact hx x hx' q h
    · rcases nd q (List.mem_append_right _ h) with h' | h'
      · exact hx x hx' q (hs q h')
      · exact (h' x (List.mem_append_left _ hx')).symm
  · rcases K p hp with h | h
    · exact .inl h
    · rcases nd p (List.mem_append_right _ hp) with h' | h'
      · exact absurd rfl (h p (by unfold deckC; exact List.mem_append_right _ h')).ne
      · exact .inr fun q hq => h' q (List.mem_append_right _ hq)
end
theorem keepSub {dk dk' kl : Led} (h : ∀ p ∈ dk, p ∈ dk') (K : Keep dk' kl) : Keep dk kl := fun p hp => (K p hp).imp id fun o q hq => o q (h q hq)
theorem offSub {x : Addr} {a b : Led} (h : ∀ p ∈ a, p ∈ b) (o : OffD x b) : OffD x a := fun q hq => o q (h q hq)
theorem appSub {a b c : Led} (h : ∀ p ∈ a, p ∈ b) : ∀ p ∈ a ++ c, p ∈ b ++ c := fun p hp => (List.mem_append.mp hp).elim (fun x => List.mem_append_left _ (h p x)) (fun x => List.mem_append_right _ x)
theorem oneAll {P : Addr × Obj → Prop} {a : Addr × Obj} (h : P a) : ∀ x ∈ [a], P x := fun x hx => by rw [List.mem_singleton.mp hx]; exact h
section
variable {w : World} {A : Around} {h₀ : Heap} {all : List Env} {L : Addr} {m : Str → Option Value} {s : Shared} {mean : ExcName → Option Value} {mg mb : Str → Option Value} {news tl lits kl : Led} {E : Value → Shared → Prop}
theorem inDeck {P : Params} {D dd Lh : Addr} {tk : Tok} {n : Nat} {cs : List Card} {p : Addr × Obj} (h : p ∈ cs.map cardO) : p ∈ deckC P D dd Lh tk n cs := List.mem_append_right _ h
theorem cut_law {c0 c1 c2 c3 c4 c5 : Card} {D dd Lh : Addr} {tk : Tok} {n : Nat} {Q : Value → Shared → Prop} (F : Fr h₀ L s.heap m) (X : (hd.heap_1 w.params).In h₀) (T : Top View Loose mean mg mb h₀) (hB : FB A h₀ L m all) (N : News h₀ L s.heap news)
    (hl : tl = deckC w.params D dd Lh tk n [c0, c1, c2, c3, c4, c5] ++ kl) (ht : Tail tl news lits) (ho : ∀ p ∈ lits, OffD p.1 tl) (K : Keep (deckC w.params D dd Lh tk n [c0, c1, c2, c3, c4, c5]) kl) (hh : A.handled = none) (hd : A.depth ≤ 460) (hu : A.units ≤ 460) (hf : ∀ c ∈ [c0, c1, c2, c3, c4, c5], Fit c.k ∧ cleanV c.v) (ha : Apart [c0.k, c1.k, c2.k, c3.k, c4.k, c5.k])
    (h : ∀ h' tk' n' tn r tl', tl' = deckC w.params D dd Lh tk n' [c1, c2, c3, c4, c5, ⟨tn, c0.k, c0.v, c0.a, c0.b⟩] ++ kl → Fr h₀ L h' m → News h₀ L h' ((r, listOf #[.none] 0) :: (lits ++ tl')) → (∀ p ∈ lits, OffD p.1 tl') → OffD r tl' → (∀ p ∈ lits, Ap p.1 r) → Keep (deckC w.params D dd Lh tk n' [c1, c2, c3, c4, c5, ⟨tn, c0.k, c0.v, c0.a, c0.b⟩]) kl → Q (.ref r) { s with heap := h', toks := tk' }) :
    wpAny (lawM w) A (call (.ref 310) [.ref D]) Q E s := by
  refine wpAny_call (deck_law (d := 460) (fp := []) F X T hB N ht hl ho K hh hd hu fun g W => ?_)
  refine cut_cards W hf ha fun h' tk' n' tn r W' nr => ?_
  refine ⟨[(r, listOf #[.none] 0)], deckC w.params D dd Lh tk n' [c1, c2, c3, c4, c5, ⟨tn, c0.k, c0.v, c0.a, c0.b⟩] ++ [cardO c0], W', ?_, oneAll nr, fun F' N' no nn nx K' => ?_⟩
  · intro p hp
    rcases List.mem_cons.mp hp with rfl | hp
    · exact List.mem_append_right _ (.head _)
    · exact List.mem_append_left _ (inDeck (List.mem_append_left [cardO _] hp))
  · have sb : ∀ p ∈ deckC w.params D dd Lh tk n' [c1, c2, c3, c4, c5, ⟨tn, c0.k, c0.v, c0.a, c0.b⟩], p ∈ deckC w.params D dd Lh tk n' [c1, c2, c3, c4, c5, ⟨tn, c0.k, c0.v, c0.a, c0.b⟩] ++ [cardO c0] := fun p hp => List.mem_append_left _ hp
    exact h h' tk' n' tn r _ rfl F' (fun p hp => N' p (by
      rcases List.mem_cons.mp hp with rfl | hp
      · exact .head _
      · refine .tail _ (show p ∈ lits ++ _ from ?_)
        rcases List.mem_append.mp hp with hp | hp
        · exact List.mem_append_left _ hp
        · exact List.mem_append_right _ (appSub sb p hp))) (fun p hp => offSub (appSub sb) (no p hp)) (offSub (appSub sb) (nn _ (.head _))) (fun p hp => nx _ (.head _) p hp) (keepSub sb K')
theorem turn_law {c0 c1 c2 c3 c4 c5 : Card} {D dd Lh : Addr} {tk : Tok} {n : Nat} {Q : Value → Shared → Prop} (F : Fr h₀ L s.heap m) (X : (hd.heap_1 w.params).In h₀) (T : Top View Loose mean mg mb h₀) (hB : FB A h₀ L m all) (N : News h₀ L s.heap news)
    (hl : tl = deckC w.params D dd Lh tk n [c0, c1, c2, c3, c4, c5] ++ kl) (ht : Tail tl news lits) (ho : ∀ p ∈ lits, OffD p.1 tl) (K : Keep (deckC w.params D dd Lh tk n [c0, c1, c2, c3, c4, c5]) kl) (hh : A.handled = none) (hd : A.depth ≤ 460) (hu : A.units ≤ 460) (hf : ∀ c ∈ [c0, c1, c2, c3, c4, c5], Fit c.k ∧ cleanV c.v) (ha : Apart [c0.k, c1.k, c2.k, c3.k, c4.k, c5.k])
    (h : ∀ h' tk' n' ta tb ca cb r tl', tl' = deckC w.params D dd Lh tk n' [c2, c3, c4, c5, ⟨ta, otherS c1.k, c1.v, ca, c1.b⟩, ⟨tb, otherS c0.k, c0.v, cb, c0.b⟩] ++ kl → Fr h₀ L h' m → News h₀ L h' ((r, listOf #[.none, .none] 2) :: (lits ++ tl')) → (∀ p ∈ lits, OffD p.1 tl') → OffD r tl' → (∀ p ∈ lits, Ap p.1 r) → Keep (deckC w.params D dd Lh tk n' [c2, c3, c4, c5, ⟨ta, otherS c1.k, c1.v, ca, c1.b⟩, ⟨tb, otherS c0.k, c0.v, cb, c0.b⟩]) kl → Q (.ref r) { s with heap := h', toks := tk' }) :
    wpAny (lawM w) A (call (.ref 315) [.ref D]) Q E s := by
  refine wpAny_call (deck_law (d := 460) (fp := []) F X T hB N ht hl ho K hh hd hu fun g W => ?_)
  refine turn_cards W hf ha fun h' tk' n' ta tb ca cb r W' nr => ?_
  refine ⟨[(r, listOf #[.none, .none] 2)], deckC w.params D dd Lh tk n' [c2, c3, c4, c5, ⟨ta, otherS c1.k, c1.v, ca, c1.b⟩, ⟨tb, otherS c0.k, c0.v, cb, c0.b⟩] ++ [cardO c1, cardO c0], W', ?_, oneAll nr, fun F' N' no nn nx K' => ?_⟩
  · intro p hp
    rcases List.mem_cons.mp hp with rfl | hp
    · exact List.mem_append_right _ (.tail _ (.head _))
    rcases List.mem_cons.mp hp with rfl | hp
    · exact List.mem_append_right _ (.head _)
    · exact List.mem_append_left _ (inDeck (List.mem_append_left [cardO _, cardO _] hp))
  · have sb : ∀ p ∈ deckC w.params D dd Lh tk n' [c2, c3, c4, c5, ⟨ta, otherS c1.k, c1.v, ca, c1.b⟩, ⟨tb, otherS c0.k, c0.v, cb, c0.b⟩], p ∈ deckC w.params D dd Lh tk n' [c2, c3, c4, c5, ⟨ta, otherS c1.k, c1.v, ca, c1.b⟩, ⟨tb, otherS c0.k, c0.v, cb, c0.b⟩] ++ [cardO c1, cardO c0] := fun p hp => List.mem_append_left _ hp
    exact h h' tk' n' ta tb ca cb r _ rfl F' (fun p hp => N' p (by
      rcases List.mem_cons.mp hp with rfl | hp
      · exact .head _
      · refine .tail _ (show p ∈ lits ++ _ from ?_)
        rcases List.mem_append.mp hp with hp | hp
        · exact List.mem_append_left _ hp
        · exact List.mem_append_right _ (appSub sb p hp))) (fun p hp => offSub (appSub sb) (no p hp)) (offSub (appSub sb) (nn _ (.head _))) (fun p hp => nx _ (.head _) p hp) (keepSub sb K')
theorem values_law {c0 c1 c2 c3 c4 c5 : Card} {D dd Lh : Addr} {tk : Tok} {n : Nat} {Q : Value → Shared → Prop} (F : Fr h₀ L s.heap m) (X : (hd.heap_1 w.params).In h₀) (T : Top View Loose mean mg mb h₀) (hB : FB A h₀ L m all) (N : News h₀ L s.heap news)
    (hl : tl = deckC w.params D dd Lh tk n [c0, c1, c2, c3, c4, c5] ++ kl) (ht : Tail tl news lits) (ho : ∀ p ∈ lits, OffD p.1 tl) (K : Keep (deckC w.params D dd Lh tk n [c0, c1, c2, c3, c4, c5]) kl) (hh : A.handled = none) (hd : A.depth ≤ 480) (hu : A.units ≤ 480) 
    (h : ∀ h' tk' r tl', tl' = deckC w.params D dd Lh tk n [c0, c1, c2, c3, c4, c5] ++ kl → Fr h₀ L h' m → News h₀ L h' ((r, listOf #[.str c0.v c0.b, .str c1.v c1.b, .str c2.v c2.b, .str c3.v c3.b, .str c4.v c4.b, .str c5.v c5.b] 6) :: (lits ++ tl')) → (∀ p ∈ lits, OffD p.1 tl') → OffD r tl' → (∀ p ∈ lits, Ap p.1 r) → Keep (deckC w.params D dd Lh tk n [c0, c1, c2, c3, c4, c5]) kl → Q (.ref r) { s with heap := h', toks := tk' }) :
    wpAny (lawM w) A (call (.ref 128) [.ref D]) Q E s := by
  refine wpAny_call (deck_law (d := 480) (fp := []) F X T hB N ht hl ho K hh hd hu fun g W => ?_)
  refine values_spec (cs := [c0, c1, c2, c3, c4, c5]) (E := [c0, c1, c2, c3, c4, c5].map cardO) W (hasMap _) (Nat.le_of_ble_eq_true rfl) fun h' tk' r W' nr => ?_
  refine ⟨[(r, listOf #[.str c0.v c0.b, .str c1.v c1.b, .str c2.v c2.b, .str c3.v c3.b, .str c4.v c4.b, .str c5.v c5.b] 6)], deckC w.params D dd Lh tk n [c0, c1, c2, c3, c4, c5], W', ?_, oneAll nr, fun F' N' no nn nx K' => ?_⟩
  · exact fun p hp => inDeck hp
  · have sb : ∀ p ∈ deckC w.params D dd Lh tk n [c0, c1, c2, c3, c4, c5], p ∈ deckC w.params D dd Lh tk n [c0, c1, c2, c3, c4, c5] := fun p hp => hp
    exact h h' tk' r _ rfl F' (fun p hp => N' p (by
      rcases List.mem_cons.mp hp with rfl | hp
      · exact .head _
      · refine .tail _ (show p ∈ lits ++ _ from ?_)
        rcases List.mem_append.mp hp with hp | hp
        · exact List.mem_append_left _ hp
        · exact List.mem_append_right _ (appSub sb p hp))) (fun p hp => offSub (appSub sb) (no p hp)) (offSub (appSub sb) (nn _ (.head _))) (fun p hp => nx _ (.head _) p hp) (keepSub sb K')
theorem items_law {c0 c1 c2 c3 c4 c5 : Card} {D dd Lh : Addr} {tk : Tok} {n : Nat} {Q : Value → Shared → Prop} (F : Fr h₀ L s.heap m) (X : (hd.heap_1 w.params).In h₀) (T : Top View Loose mean mg mb h₀) (hB : FB A h₀ L m all) (N : News h₀ L s.heap news)
    (hl : tl = deckC w.params D dd Lh tk n [c0, c1, c2, c3, c4, c5] ++ kl) (ht : Tail tl news lits) (ho : ∀ p ∈ lits, OffD p.1 tl) (K : Keep (deckC w.params D dd Lh tk n [c0, c1, c2, c3, c4, c5]) kl) (hh : A.handled = none) (hd : A.depth ≤ 480) (hu : A.units ≤ 480) 
    (h : ∀ h' tk' r tl', tl' = deckC w.params D dd Lh tk n [c0, c1, c2, c3, c4, c5] ++ kl → Fr h₀ L h' m → News h₀ L h' ((r, listOf #[.ref c0.t, .ref c1.t, .ref c2.t, .ref c3.t, .ref c4.t, .ref c5.t] 0) :: (lits ++ tl')) → (∀ p ∈ lits, OffD p.1 tl') → OffD r tl' → (∀ p ∈ lits, Ap p.1 r) → Keep (deckC w.params D dd Lh tk n [c0, c1, c2, c3, c4, c5]) kl → Q (.ref r) { s with heap := h', toks := tk' }) :
    wpAny (lawM w) A (call (.ref 135) [.ref D]) Q E s := by
  refine wpAny_call (deck_law (d := 480) (fp := []) F X T hB N ht hl ho K hh hd hu fun g W => ?_)
  refine items_spec (cs := [c0, c1, c2, c3, c4, c5]) (E := [c0, c1, c2, c3, c4, c5].map cardO) W (hasMap _) (Nat.le_of_ble_eq_true rfl) fun h' tk' r W' nr => ?_
  refine ⟨[(r, listOf #[.ref c0.t, .ref c1.t, .ref c2.t, .ref c3.t, .ref c4.t, .ref c5.t] 0)], deckC w.params D dd Lh tk n [c0, c1, c2, c3, c4, c5], W', ?_, oneAll nr, fun F' N' no nn nx K' => ?_⟩
  · exact fun p hp => inDeck hp
  · have sb : ∀ p ∈ deckC w.params D dd Lh tk n [c0, c1, c2, c3, c4, c5], p ∈ deckC w.params D dd Lh tk n [c0, c1, c2, c3, c4, c5] := fun p hp => hp
    exact h h' tk' r _ rfl F' (fun p hp => N' p (by
      rcases List.mem_cons.mp hp with rfl | hp
      · exact .head _
      · refine .tail _ (show p ∈ lits ++ _ from ?_)
        rcases List.mem_append.mp hp with hp | hp
        · exact List.mem_append_left _ hp
        · exact List.mem_append_right _ (appSub sb p hp))) (fun p hp => offSub (appSub sb) (no p hp)) (offSub (appSub sb) (nn _ (.head _))) (fun p hp => nx _ (.head _) p hp) (keepSub sb K')
end
local macro_rules | `(tactic| k_extra "my tl") => `(tactic| with_reducible (first | exact memI ‹_› ‹_› | exact memD ‹_› | exact memDd ‹_› | assumption))
local macro_rules | `(tactic| k_extra "my mem") => `(tactic| first | exact List.mem_cons_self | (refine List.mem_cons_of_mem _ ?_; k_extra "my mem") | k_extra "my tl")
local macro_rules | `(tactic| k_mem) => `(tactic| (refine memIn ?_; k_extra "my mem"))
local macro_rules | `(tactic| k_extra "my parts") => `(tactic| ((repeat ((with_reducible rename OffD _ _ ∧ _ => hh); obtain ⟨_, _⟩ := hh)); (repeat ((with_reducible rename Ap _ _ ∧ _ => hh); obtain ⟨_, _⟩ := hh))))
local macro_rules | `(tactic| k_extra "my deck") => `(tactic| (k_extra "u5"; k_extra "q"; k_extra "my tail"; k_extra "my offs"; k_extra "q"; k_extra "u3"))
local macro_rules | `(tactic| k_extra "my decked") => `(tactic| ((try dsimp only [List.cons_append, List.nil_append] at *); (try simp only [List.forall_mem_cons, List.not_mem_nil, false_implies, implies_true, and_true, true_and] at *); k_extra "my parts"; (try k_sweep)))
structure Six (α : Type) where
  a : α
  b : α
  c : α
  d : α
  e : α
  f : α
noncomputable abbrev Six.list {α : Type} (x : Six α) : List α := [x.a, x.b, x.c, x.d, x.e, x.f]
noncomputable abbrev Ent := Int × Int
/-- the constants of a run, made by the law's first statements -/
structure Cst where
  D : Addr
  dd : Addr
  Lh : Addr
  lg : Addr
  lp : Addr
  lf : Addr
  lq : Addr
  tk : Tok
  pf : Nat → Int
  ff : Nat → Int
  mark : Str
  other : Str
  tail : Str
  far : Int
  gens : Array GenState
  os : OsState
noncomputable def nm (k f : Int) : Str := Txt.item (Str.ofString "abcdefABCDEF") (k + 6 * f)
noncomputable def IntF (vs : List Value) (f : Nat → Int) (n : Nat) : Prop := vs.length = n ∧ ∀ i, i < n → ∃ t, vs[i]? = some (.int (f i) t)
noncomputable def IntL (kl : Led) (l : Addr) (f : Nat → Int) (n : Nat) : Prop := ∃ vs k, (l, listOf vs.toArray k) ∈ kl ∧ IntF vs f n
noncomputable abbrev refs (r : Six Addr) : Array Value := #[.ref r.a, .ref r.b, .ref r.c, .ref r.d, .ref r.e, .ref r.f]
structure RowT (kl : Led) (r : Six Addr) (x : Six Ent) : Prop where
  a : ∃ t u, (r.a, tupOf [.int x.a.1 t, .int x.a.2 u]) ∈ kl
  b : ∃ t u, (r.b, tupOf [.int x.b.1 t, .int x.b.2 u]) ∈ kl
  c : ∃ t u, (r.c, tupOf [.int x.c.1 t, .int x.c.2 u]) ∈ kl
  d : ∃ t u, (r.d, tupOf [.int x.d.1 t, .int x.d.2 u]) ∈ kl
  e : ∃ t u, (r.e, tupOf [.int x.e.1 t, .int x.e.2 u]) ∈ kl
  f : ∃ t u, (r.f, tupOf [.int x.f.1 t, .int x.f.2 u]) ∈ kl
structure PairT (kl : Led) (r : Six Addr) (x : Six (Str × Str)) : Prop where
  a : ∃ t u, (r.a, tupOf [.str x.a.1 t, .str x.a.2 u]) ∈ kl
  b : ∃ t u, (r.b, tupOf [.str x.b.1 t, .str x.b.2 u]) ∈ kl
  c : ∃ t u, (r.c, tupOf [.str x.c.1 t, .str x.c.2 u]) ∈ kl
  d : ∃ t u, (r.d, tupOf [.str x.d.1 t, .str x.d.2 u]) ∈ kl
  e : ∃ t u, (r.e, tupOf [.str x.e.1 t, .str x.e.2 u]) ∈ kl
  f : ∃ t u, (r.f, tupOf [.str x.f.1 t, .str x.f.2 u]) ∈ kl
theorem RowT.mono {kl kl' : Led} {r : Six Addr} {x : Six Ent} (h : ∀ p ∈ kl, p ∈ kl') (y : RowT kl r x) : RowT kl' r x :=
  ⟨let ⟨t, u, z⟩ := y.a; ⟨t, u, h _ z⟩, let ⟨t, u, z⟩ := y.b; ⟨t, u, h _ z⟩, let ⟨t, u, z⟩ := y.c; ⟨t, u, h _ z⟩, let ⟨t, u, z⟩ := y.d; ⟨t, u, h _ z⟩, let ⟨t, u, z⟩ := y.e; ⟨t, u, h _ z⟩, let ⟨t, u, z⟩ := y.f; ⟨t, u, h _ z⟩⟩
theorem PairT.mono {kl kl' : Led} {r : Six Addr} {x : Six (Str × Str)} (h : ∀ p ∈ kl, p ∈ kl') (y : PairT kl r x) : PairT kl' r x :=
  ⟨let ⟨t, u, z⟩ := y.a; ⟨t, u, h _ z⟩, let ⟨t, u, z⟩ := y.b; ⟨t, u, h _ z⟩, let ⟨t, u, z⟩ := y.c; ⟨t, u, h _ z⟩, let ⟨t, u, z⟩ := y.d; ⟨t, u, h _ z⟩, let ⟨t, u, z⟩ := y.e; ⟨t, u, h _ z⟩, let ⟨t, u, z⟩ := y.f; ⟨t, u, h _ z⟩⟩
/-- a list of six pairs of ints -/
noncomputable def RowIs (kl : Led) (l : Addr) (x : Six Ent) : Prop := ∃ r n, (l, listOf (refs r) n) ∈ kl ∧ RowT kl r x
/-- a list of six pairs of texts -/
noncomputable def PairsIs (kl : Led) (l : Addr) (x : Six (Str × Str)) : Prop := ∃ r n, (l, listOf (refs r) n) ∈ kl ∧ PairT kl r x
noncomputable def CellIs (kl : Led) (a : Addr) (v : Value) : Prop := ∃ o, (a, o) ∈ kl ∧ o.data = .cell (some v)
/-- what stands fast behind the law's first statements -/
structure Fix (L : Addr) (kl : Led) (Γ : Cst) : Prop where
  cports : CellIs kl (L + 1 + 1) (.ref Γ.lp)
  cfaces : CellIs kl (L + 1 + 1 + 1) (.ref Γ.lf)
  cmark : ∃ t, CellIs kl (L + 1 + 1 + 1 + 1) (.str Γ.mark t)
  cpairs : CellIs kl (L + 1 + 1 + 1 + 1 + 1) (.ref Γ.lq)
  ports : IntL kl Γ.lp Γ.pf 6
  faces : IntL kl Γ.lf Γ.ff 6
  pairs : PairsIs kl Γ.lq ⟨(nm 0 (Γ.ff 0), replyS Γ.mark (Γ.pf 0)), (nm 1 (Γ.ff 1), replyS Γ.mark (Γ.pf 1)), (nm 2 (Γ.ff 2), replyS Γ.mark (Γ.pf 2)), (nm 3 (Γ.ff 3), replyS Γ.mark (Γ.pf 3)), (nm 4 (Γ.ff 4), replyS Γ.mark (Γ.pf 4)), (nm 5 (Γ.ff 5), replyS Γ.mark (Γ.pf 5))⟩
theorem CellIs.mono {kl kl' : Led} {a : Addr} {v : Value} (h : ∀ p ∈ kl, p ∈ kl') (x : CellIs kl a v) : CellIs kl' a v := let ⟨o, m, d⟩ := x; ⟨o, h _ m, d⟩
theorem IntL.mono {kl kl' : Led} {l : Addr} {f : Nat → Int} {n : Nat} (h : ∀ p ∈ kl, p ∈ kl') (x : IntL kl l f n) : IntL kl' l f n := let ⟨vs, k, m, d⟩ := x; ⟨vs, k, h _ m, d⟩
theorem RowIs.mono {kl kl' : Led} {l : Addr} {x : Six Ent} (h : ∀ p ∈ kl, p ∈ kl') (y : RowIs kl l x) : RowIs kl' l x := let ⟨r, n, m, d⟩ := y; ⟨r, n, h _ m, d.mono h⟩
theorem PairsIs.mono {kl kl' : Led} {l : Addr} {x : Six (Str × Str)} (h : ∀ p ∈ kl, p ∈ kl') (y : PairsIs kl l x) : PairsIs kl' l x := let ⟨r, n, m, d⟩ := y; ⟨r, n, h _ m, d.mono h⟩
theorem Fix.mono {L : Addr} {kl kl' : Led} {Γ : Cst} (h : ∀ p ∈ kl, p ∈ kl') (x : Fix L kl Γ) : Fix L kl' Γ :=
  ⟨x.cports.mono h, x.cfaces.mono h, let ⟨t, y⟩ := x.cmark; ⟨t, y.mono h⟩, x.cpairs.mono h, x.ports.mono h, x.faces.mono h, x.pairs.mono h⟩
structure Locs (m : Str → Option Value) (Γ : Cst) (lr : Addr) (cuts : Int) : Prop where
  row : m (Str.ofString "row") = some (.ref lr)
  deck : m (Str.ofString "deck") = some (.ref Γ.D)
  given : m (Str.ofString "given") = some (.ref Γ.Lh)
  gave : m (Str.ofString "gave") = some (.ref Γ.lg)
  cuts : ∃ t, m (Str.ofString "cuts") = some (.int cuts t)
  tail : ∃ t, m (Str.ofString "tail") = some (.str Γ.tail t)
  far : ∃ t, m (Str.ofString "far") = some (.int Γ.far t)
  other : ∃ t, m (Str.ofString "other") = some (.str Γ.other t)
noncomputable def Paired (kl : Led) : List Addr → List (Str × Str) → Prop
  | [], [] => True
  | a :: as, x :: xs => (∃ t u, (a, tupOf [.str x.1 t, .str x.2 u]) ∈ kl) ∧ Paired kl as xs
  | _, _ => False
theorem Paired.mono {kl kl' : Led} (h : ∀ p ∈ kl, p ∈ kl') : ∀ {as : List Addr} {xs : List (Str × Str)}, Paired kl as xs → Paired kl' as xs
  | [], [], _ => trivial
  | _ :: _, _ :: _, ⟨⟨t, u, m⟩, r⟩ => ⟨⟨t, u, h _ m⟩, r.mono h⟩
/-- kept and due: two lists of the same six pairs; home: a list that grows -/
structure Kd where
  lk : Addr
  x : Six (Str × Str)
  ld : Option Addr
  home : Option (Addr × List Addr × List (Str × Str))
structure KdI (m : Str → Option Value) (kl : Led) (d : Kd) : Prop where
  kept : m (Str.ofString "kept") = some (.ref d.lk)
  items : PairsIs kl d.lk d.x
  due : ∀ l, d.ld = some l → m (Str.ofString "due") = some (.ref l) ∧ PairsIs kl l d.x
  home : ∀ lh as xs, d.home = some (lh, as, xs) → m (Str.ofString "home") = some (.ref lh) ∧ Paired kl as xs
noncomputable def KdIs (m : Str → Option Value) (kl : Led) : Option Kd → Prop
  | none => True
  | some d => KdI m kl d
noncomputable def Match (Γ : Cst) (c : Card) (e : Ent) : Prop := c.k = nm e.1 e.2 ∧ c.v = replyS Γ.mark (Γ.pf e.1.toNat)
structure Matches (Γ : Cst) (cs : Six Card) (row : Six Ent) : Prop where
  a : Match Γ cs.a row.a
  b : Match Γ cs.b row.b
  c : Match Γ cs.c row.c
  d : Match Γ cs.d row.d
  e : Match Γ cs.e row.e
  f : Match Γ cs.f row.f
/-- things its beside kl: iterators -/
structure ItsOk (its kl : Led) : Prop where
  nt : ∀ p ∈ its, ∀ vs, p.2 ≠ tupOf vs
  off : ∀ p ∈ its, OffD p.1 kl
  pw : its.Pairwise fun p q => Ap p.1 q.1
/-- the law's state: the cards lie as `row` tells, `told` is what the local row tells, `cnt` things were given back; its: the iterators of the loops at hand -/
structure LawSt (w : World) (g : Heap) (L : Addr) (Γ : Cst) (row told : Six Ent) (cuts : Int) (cnt : Nat) (kd : Option Kd) (its : Led) (s : Shared) (m : Str → Option Value) : Prop where
  ex : ∃ (kl : Led) (n ng : Nat) (gv : Array Value) (cs : Six Card) (lr : Addr),
    Fr g L s.heap m ∧ News g L s.heap ((Γ.lg, listOf gv ng) :: (deckC w.params Γ.D Γ.dd Γ.Lh Γ.tk n cs.list ++ (its ++ kl))) ∧ OffD Γ.lg (deckC w.params Γ.D Γ.dd Γ.Lh Γ.tk n cs.list ++ (its ++ kl)) ∧ Keep (deckC w.params Γ.D Γ.dd Γ.Lh Γ.tk n cs.list) (its ++ kl) ∧
    gv = Array.replicate cnt .none ∧ Matches Γ cs row ∧ RowIs kl lr told ∧ Fix L kl Γ ∧ Locs m Γ lr cuts ∧ KdIs m kl kd ∧ ItsOk its kl ∧ (s.gens = Γ.gens ∧ s.os = Γ.os)
theorem subN {M : Model} {A : Around} {v sl : PySem.Expr} {l : Addr} {k : Int} {u : Tok} {Q E : Value → Shared → Prop} {s : Shared} (h : wpAny M A (subscriptTail v sl (.ref l) (.int k u)) Q E s) : wpAny M A (subscriptTail v sl (.ref l) (.int k u)) Q E s := h
theorem six_at {P : Nat → Prop} (h0 : P 0) (h1 : P 1) (h2 : P 2) (h3 : P 3) (h4 : P 4) (h5 : P 5) : ∀ i, i < 6 → P i
  | 0, _ => h0
  | 1, _ => h1
  | 2, _ => h2
  | 3, _ => h3
  | 4, _ => h4
  | 5, _ => h5
  | n + 6, h => absurd h (Nat.not_lt.mpr (Nat.le_add_left 6 n))
theorem inRight {kl nw : Led} : ∀ p ∈ kl, p ∈ nw ++ kl := fun _ hp => List.mem_append_right _ hp
theorem Locs.mk8 {m : Str → Option Value} {Γ : Cst} {lr : Addr} {cuts : Int} {t1 t2 t3 t4 : Tok} (h1 : m (Str.ofString "row") = some (.ref lr)) (h2 : m (Str.ofString "deck") = some (.ref Γ.D)) (h3 : m (Str.ofString "given") = some (.ref Γ.Lh)) (h4 : m (Str.ofString "gave") = some (.ref Γ.lg))
    (h5 : m (Str.ofString "cuts") = some (.int cuts t1)) (h6 : m (Str.ofString "tail") = some (.str Γ.tail t2)) (h7 : m (Str.ofString "far") = some (.int Γ.far t3)) (h8 : m (Str.ofString "other") = some (.str Γ.other t4)) : Locs m Γ lr cuts :=
  ⟨h1, h2, h3, h4, ⟨_, h5⟩, ⟨_, h6⟩, ⟨_, h7⟩, ⟨_, h8⟩⟩
theorem rowIn7 {kl : Led} {l a b c d e f : Addr} {x : Six Ent} {n : Nat} {t1 u1 t2 u2 t3 u3 t4 u4 t5 u5 t6 u6 : Tok} (h : (l, listOf #[.ref a, .ref b, .ref c, .ref d, .ref e, .ref f] n) ∈ kl) (ha : (a, tupOf [.int x.a.1 t1, .int x.a.2 u1]) ∈ kl) (hb : (b, tupOf [.int x.b.1 t2, .int x.b.2 u2]) ∈ kl)
    (hc : (c, tupOf [.int x.c.1 t3, .int x.c.2 u3]) ∈ kl) (hd : (d, tupOf [.int x.d.1 t4, .int x.d.2 u4]) ∈ kl) (he : (e, tupOf [.int x.e.1 t5, .int x.e.2 u5]) ∈ kl) (hf : (f, tupOf [.int x.f.1 t6, .int x.f.2 u6]) ∈ kl) : RowIs kl l x :=
  ⟨⟨a, b, c, d, e, f⟩, n, h, ⟨⟨_, _, ha⟩, ⟨_, _, hb⟩, ⟨_, _, hc⟩, ⟨_, _, hd⟩, ⟨_, _, he⟩, ⟨_, _, hf⟩⟩⟩
theorem KdIs.mono {m m' : Str → Option Value} {kl kl' : Led} (h : ∀ p ∈ kl, p ∈ kl') (e1 : m' (Str.ofString "kept") = m (Str.ofString "kept")) (e2 : m' (Str.ofString "due") = m (Str.ofString "due")) (e3 : m' (Str.ofString "home") = m (Str.ofString "home")) : ∀ {kd : Option Kd}, KdIs m kl kd → KdIs m' kl' kd
  | none, _ => trivial
  | some _, k => ⟨e1.trans k.kept, k.items.mono h, fun l e => ⟨e2.trans (k.due l e).1, (k.due l e).2.mono h⟩, fun lh as xs e => ⟨e3.trans (k.home lh as xs e).1, (k.home lh as xs e).2.mono h⟩⟩
/-- a ledger seen as what was made, the thing a, and the tail -/
inductive Pre (a : Addr × Obj) (tl : Led) : Led → Led → Prop
  | here : Pre a tl (a :: tl) []
  | cons {p l r} : Pre a tl l r → Pre a tl (p :: l) (p :: r)
  | skip {p l r} : Pre a tl l r → Pre a tl (p :: l) r
theorem Pre.mem {a : Addr × Obj} {tl l r : Led} (t : Pre a tl l r) : a ∈ l ∧ (∀ p ∈ r, p ∈ l) ∧ ∀ p ∈ tl, p ∈ l := by
  induction t with
  | here => exact ⟨.head _, (fun _ h => nomatch h), fun _ h => .tail _ h⟩
  | cons _ ih => exact ⟨.tail _ ih.1, List.forall_mem_cons.mpr ⟨.head _, fun p hp => .tail _ (ih.2.1 p hp)⟩, fun p hp => .tail _ (ih.2.2 p hp)⟩
  | skip _ ih => exact ⟨.tail _ ih.1, fun p hp => .tail _ (ih.2.1 p hp), fun p hp => .tail _ (ih.2.2 p hp)⟩
theorem LawSt.make2 {w : World} {g : Heap} {L : Addr} {Γ : Cst} {row told : Six Ent} {cuts : Int} {cnt : Nat} {kd : Option Kd} {s : Shared} {m : Str → Option Value} {big tl kl nw its : Led} {gv : Array Value} {n ng : Nat} {c0 c1 c2 c3 c4 c5 : Card} {lr : Addr}
    (htl : tl = deckC w.params Γ.D Γ.dd Γ.Lh Γ.tk n [c0, c1, c2, c3, c4, c5] ++ (its ++ kl)) (K : Keep (deckC w.params Γ.D Γ.dd Γ.Lh Γ.tk n [c0, c1, c2, c3, c4, c5]) (its ++ kl)) (off : OffD Γ.lg tl) (hgv : gv = Array.replicate cnt .none) (M : Matches Γ ⟨c0, c1, c2, c3, c4, c5⟩ row) (fx : Fix L kl Γ) (io : ItsOk its kl) (gs : s.gens = Γ.gens ∧ s.os = Γ.os)
    (F : Fr g L s.heap m) (lc : Locs m Γ lr cuts) (N : News g L s.heap big) (ha : (Γ.lg, listOf gv ng) ∈ big) (hn : ∀ p ∈ nw, p ∈ big) (hb : ∀ p ∈ tl, p ∈ big) (ho : ∀ q ∈ nw, Ap Γ.lg q.1)
    (hk : ∀ q ∈ nw, (∃ vs, q.2 = tupOf vs) ∨ OffD q.1 tl) (R : RowIs (nw ++ kl) lr told) (hkd : KdIs m (nw ++ kl) kd) : LawSt w g L Γ row told cuts cnt kd its s m := by
  subst htl
  have inI : ∀ p ∈ its, p ∈ big := fun p hp => hb p (List.mem_append_right _ (List.mem_append_left _ hp))
  refine ⟨nw ++ kl, n, ng, gv, ⟨c0, c1, c2, c3, c4, c5⟩, lr, F, fun p hp => ?_, fun q hq => ?_, fun p hp => ?_, hgv, M, R, fx.mono fun p hp => List.mem_append_right _ hp, lc, hkd, ⟨io.nt, fun p hp q hq => ?_, io.pw⟩, gs⟩
  · rcases List.mem_cons.mp hp with rfl | hp
    · exact N _ ha
    rcases List.mem_append.mp hp with hp | hp
    · exact N p (hb p (List.mem_append_left _ hp))
    rcases List.mem_append.mp hp with hp | hp
    · exact N p (inI p hp)
    rcases List.mem_append.mp hp with hp | hp
    · exact N p (hn p hp)
    · exact N p (hb p (List.mem_append_right _ (List.mem_append_right _ hp)))
  · rcases List.mem_append.mp hq with hq | hq
    · exact off q (List.mem_append_left _ hq)
    rcases List.mem_append.mp hq with hq | hq
    · exact off q (List.mem_append_right _ (List.mem_append_left _ hq))
    rcases List.mem_append.mp hq with hq | hq
    · exact ho q hq
    · exact off q (List.mem_append_right _ (List.mem_append_right _ hq))
  · rcases List.mem_append.mp hp with hp | hp
    · exact K p (List.mem_append_left _ hp)
    rcases List.mem_append.mp hp with hp | hp
    · exact (hk p hp).imp id fun o q hq => o q (List.mem_append_left _ hq)
    · exact K p (List.mem_append_right _ hp)
  · rcases List.mem_append.mp hq with hq | hq
    · rcases hk q hq with ⟨vs, hv⟩ | h
      · exact fun e => io.nt p hp vs (by
          have h1 := (N p (inI p hp)).1
          have h2 := (N q (hn q hq)).1
          rw [show p.1 = q.1 from e, h2] at h1
          rw [← Option.some.inj h1]; exact hv)
      · exact (h p (List.mem_append_right _ (List.mem_append_left _ hp))).symm
    · exact io.off p hp q hq
theorem LawSt.make {w : World} {g : Heap} {L : Addr} {Γ : Cst} {row told : Six Ent} {cuts : Int} {cnt : Nat} {kd : Option Kd} {s : Shared} {m : Str → Option Value} {big tl kl nw its : Led} {gv : Array Value} {n ng : Nat} {c0 c1 c2 c3 c4 c5 : Card} {lr : Addr}
    (htl : tl = deckC w.params Γ.D Γ.dd Γ.Lh Γ.tk n [c0, c1, c2, c3, c4, c5] ++ (its ++ kl)) (K : Keep (deckC w.params Γ.D Γ.dd Γ.Lh Γ.tk n [c0, c1, c2, c3, c4, c5]) (its ++ kl)) (off : OffD Γ.lg tl) (hgv : gv = Array.replicate cnt .none) (M : Matches Γ ⟨c0, c1, c2, c3, c4, c5⟩ row) (fx : Fix L kl Γ) (io : ItsOk its kl) (gs : s.gens = Γ.gens ∧ s.os = Γ.os)
    (F : Fr g L s.heap m) (lc : Locs m Γ lr cuts) (N : News g L s.heap big) (ht : Pre (Γ.lg, listOf gv ng) tl big nw) (ho : ∀ q ∈ nw, Ap Γ.lg q.1)
    (hk : ∀ q ∈ nw, (∃ vs, q.2 = tupOf vs) ∨ OffD q.1 tl) (R : RowIs (nw ++ kl) lr told) (hkd : KdIs m (nw ++ kl) kd) : LawSt w g L Γ row told cuts cnt kd its s m :=
  LawSt.make2 htl K off hgv M fx io gs F lc N ht.mem.1 ht.mem.2.1 ht.mem.2.2 ho hk R hkd
section
variable {prog : Program} {w : World} {A : Around} {E : Value → Shared → Prop} {s : Shared} {h₀ : Heap} {L : Addr} {news : Led}
theorem itemF {value slice : PySem.Expr} {l : Addr} {vs : List Value} {f : Nat → Int} {n n0 : Nat} {k : Int} {u : Tok} {Q : Value → Shared → Prop} (N : News h₀ L s.heap news) (hm : (l, listOf vs.toArray n0) ∈ news) (hv : IntF vs f n) (h0 : 0 ≤ k) (h1 : k < n) (hn : n ≤ 100)
    (h : ∀ t, Q (.int (f k.toNat) t) s)
    (hs : subscripted slice false (.ref l) (.int k u) = operate [.ref l, .int k u] (getItem (.ref l) (.int k u)) := by with_unfolding_all rfl) :
    wpAny (model prog w) A (subscriptTail value slice (.ref l) (.int k u)) Q E s := by
  obtain ⟨t, ht⟩ := hv.2 k.toNat (by omega)
  have hl := News.isList N hm
  exact tail_any hl.typeIs slot_list_getitem.lookup (wpAny_getItem_list hl h0 (by omega) (x := .int (f k.toNat) t) (by simpa using ht) (h t)) hs
theorem itemL {value slice : PySem.Expr} {l : Addr} {its : Array Value} {n0 : Nat} {k : Int} {u : Tok} {v : Value} {Q : Value → Shared → Prop} (N : News h₀ L s.heap news) (hm : (l, listOf its n0) ∈ news) (h0 : 0 ≤ k) (hf : k < 2 ^ 63) (hx : its.toList[k.toNat]? = some v)
    (h : Q v s)
    (hs : subscripted slice false (.ref l) (.int k u) = operate [.ref l, .int k u] (getItem (.ref l) (.int k u)) := by with_unfolding_all rfl) :
    wpAny (model prog w) A (subscriptTail value slice (.ref l) (.int k u)) Q E s := by
  have hl := News.isList N hm
  exact tail_any hl.typeIs slot_list_getitem.lookup (wpAny_getItem_list hl h0 hf (x := v) (by simpa using hx) h) hs
end
local macro_rules | `(tactic| walk_at "subscriptTail") => `(tactic| (with_reducible refine subN ?_; k_dflt (first | (refine' itemL ?N ?m (by decide) (by decide) ?x ?_ (by with_unfolding_all rfl); (case N => k_asm); (case m => k_mem); (case x => exact rfl); k_whole) | (refine' item_tupleT (News.isTup (by k_asm) (by k_mem)) (by decide) (by decide) rfl rfl ?_; k_whole))))
local macro_rules | `(tactic| walk_at "subscriptTail") => `(tactic| (with_reducible refine subN ?_; k_dflt (refine' itemF ?N ?m ?v ?_ ?_ ?_ ?_ (by with_unfolding_all rfl); (case N => k_asm); (case m => k_mem); (case v => k_extra "q"); k_extra "om"; k_extra "om"; decide); intros))
local macro_rules | `(tactic| k_extra "my pre") => `(tactic| first | (with_reducible exact Pre.here) | (apply Pre.cons; k_extra "my pre"))
local macro_rules | `(tactic| k_extra "my locs") => `(tactic| (apply Locs.mk8 <;> k_extra "my look"))
local macro_rules | `(tactic| k_extra "my row") => `(tactic| (dsimp only [List.cons_append, List.nil_append]; apply rowIn7; iterate 7 k_extra "my in"))
local macro_rules | `(tactic| k_extra "my kd") => `(tactic| (refine KdIs.mono inRight ?_ ?_ ?_ (by k_extra "q") <;> k_extra "my look"))
local macro_rules | `(tactic| k_extra "st") => `(tactic| ((iterate 3 k_extra "q"); (first | k_extra "q" | k_extra "my gave"); (first | k_extra "q" | k_extra "my match"); (iterate 3 k_extra "q"); k_asm; k_extra "my locs"; k_asm))
local macro_rules | `(tactic| k_extra "my state") => `(tactic| (apply LawSt.make; k_extra "st"; k_extra "my pre"; k_extra "my every"; k_extra "my every"; k_extra "my row"; k_extra "my kd"))
local macro_rules | `(tactic| k_extra "my skip") => `(tactic| first | (with_reducible exact Pre.here) | (apply Pre.skip; k_extra "my skip"))
local macro_rules | `(tactic| k_extra "my state0") => `(tactic| (apply LawSt.make (nw := []); k_extra "st"; k_extra "my skip"; exact fun _ h => nomatch h; exact fun _ h => nomatch h; assumption; k_extra "my kd"))
local macro_rules | `(tactic| k_extra "my in") => `(tactic| first | k_extra "q" | (with_reducible exact List.mem_cons_self) | (refine List.mem_cons_of_mem _ ?_; k_extra "my in"))
local macro_rules | `(tactic| k_extra "my facts") => `(tactic| (repeat ((with_reducible rename @LT.lt Nat _ _ _ ∧ _ => hh); obtain ⟨_, _⟩ := hh)))
local macro_rules | `(tactic| k_extra "my every") => `(tactic| ((try simp only [List.forall_mem_cons, List.not_mem_nil, false_implies, implies_true, and_true, true_and]); (try dsimp only); first | exact True.intro | (repeat' (refine And.intro ?_ ?_)) <;> (first | k_mem | k_extra "q" | with_reducible (first | exact Ap.symm ‹_› | exact Or.inl ⟨_, rfl⟩ | exact Or.inr (OffD.ofLt ‹_›) | exact Or.inr ‹_›) | exact Ap.of (by k_ne))))
noncomputable def figS (P : Params) (i : Nat) : Stmt := (bodyOf (stmtAt P 15)).getD i default
noncomputable abbrev cutR {α : Type} (x : Six α) : Six α := ⟨x.b, x.c, x.d, x.e, x.f, x.a⟩
noncomputable abbrev turnR (x : Six Ent) : Six Ent := ⟨x.c, x.d, x.e, x.f, (x.b.1, 1 - x.b.2), (x.a.1, 1 - x.a.2)⟩
theorem rowStep {w : World} {g : Heap} {L : Addr} {Γ : Cst} {row told : Six Ent} {cuts fig : Int} {ft : Tok} {cnt : Nat} {kd : Option Kd} {its : Led} {s : Shared} {m : Str → Option Value} {mean : ExcName → Option Value} {mg mb : Str → Option Value} {rest : List Stmt} {Q : Flow → Shared → Prop} {E : Value → Shared → Prop}
    (X : (hd.heap_1 w.params).In g) (T : Top View Loose mean mg mb g) (S : LawSt w g L Γ row told cuts cnt kd its s m) (hfig : m (Str.ofString "figure") = some (.int fig ft)) (h0 : 0 ≤ told.a.1) (h6 : told.a.1 < 6)
    (h : ∀ s' m', (Γ.pf told.a.1.toNat + fig).fmod 2 = 0 → LawSt w g L Γ row (cutR told) (cuts + 1) cnt kd its s' m' → wpAny (lawM w) (lawA w.params L) (execs rest (lawEnv w.params L)) Q E s')
    (h' : ∀ s' m', ¬ (Γ.pf told.a.1.toNat + fig).fmod 2 = 0 → LawSt w g L Γ row (turnR told) cuts cnt kd its s' m' → wpAny (lawM w) (lawA w.params L) (execs rest (lawEnv w.params L)) Q E s') :
    wpAny (lawM w) (lawA w.params L) (execs (figS w.params 2 :: rest) (lawEnv w.params L)) Q E s := by
  obtain ⟨kl, n, ng, gv, cs, lr, F, N, off, K, hgv, M, R, fx, lc, kdh, io, gs⟩ := S.ex
  clear S
  obtain ⟨r, nr, mr, ⟨⟨t0, u0, z0⟩, ⟨t1, u1, z1⟩, ⟨t2, u2, z2⟩, ⟨t3, u3, z3⟩, ⟨t4, u4, z4⟩, ⟨t5, u5, z5⟩⟩⟩ := R
  obtain ⟨op, mop, dop⟩ := fx.cports
  obtain ⟨vp, kp, mvp, hvp⟩ := fx.ports
  obtain ⟨e1, e2, e3, e4, ⟨tc, e5⟩, ⟨tt, e6⟩, ⟨tf, e7⟩, ⟨to, e8⟩⟩ := lc
  obtain ⟨tl, htl⟩ : ∃ tl, tl = deckC w.params Γ.D Γ.dd Γ.Lh Γ.tk n cs.list ++ (its ++ kl) := ⟨_, rfl⟩
  rw [← htl] at N off
  have B : Below (Lv 301 []) g [] g := ⟨rfl, fun _ _ e => e, trivial⟩
  have hsc : lawScope w.params = ⟨_, _, _, _, _⟩ := rfl
  show wpAny _ _ (execs (Stmt.If _ _ _ _ :: _) _) _ _ _
  dsimp only [lawEnv, lawA, lawM]
  rw [hsc]
  clear hsc
  k_steps
  all_goals (try dsimp only)
  all_goals k_extra "my facts"
  all_goals (try dsimp only at *)
  · (refine' h _ _ ?yc ?yst; (case yc => with_reducible assumption); (case yst => k_extra "my state"))
  · (refine' h' _ _ ?yc ?yst; (case yc => with_reducible assumption); (case yst => k_extra "my state"))
noncomputable def MarkOk (x : Str) : Prop := x = Str.ofString "|" ∨ x = Str.ofString "!" ∨ x = Str.ofString "/" ∨ x = Str.ofString ":"
noncomputable def TailOk (x : Str) : Prop := x = Str.ofString "Z " ∨ x = Str.ofString "Z \"" ∨ x = Str.ofString "Z \" is on"
structure CstOk (Γ : Cst) : Prop where
  pf : ∀ k, k < 6 → 0 ≤ Γ.pf k ∧ Γ.pf k ≤ 5
  ff : ∀ k, k < 6 → Γ.ff k = 0 ∨ Γ.ff k = 1
  mark : MarkOk Γ.mark
  other : MarkOk Γ.other
  tail : TailOk Γ.tail
  far : 0 ≤ Γ.far ∧ Γ.far < 65536
noncomputable def EntOk (e : Ent) : Prop := 0 ≤ e.1 ∧ e.1 < 6 ∧ (e.2 = 0 ∨ e.2 = 1)
noncomputable def RowOk (x : Six Ent) : Prop := (∀ e ∈ x.list, EntOk e) ∧ x.list.Pairwise fun a b => a.1 ≠ b.1
noncomputable abbrev marksL : List Str := [Str.ofString "|", Str.ofString "!", Str.ofString "/", Str.ofString ":"]
noncomputable abbrev tailsL : List Str := [Str.ofString "Z ", Str.ofString "Z \"", Str.ofString "Z \" is on"]
theorem inMarks {x : Str} (h : MarkOk x) : x ∈ marksL := by
  rcases h with rfl | rfl | rfl | rfl
  · exact .head _
  · exact .tail _ (.head _)
  · exact .tail _ (.tail _ (.head _))
  · exact .tail _ (.tail _ (.tail _ (.head _)))
theorem inTails {x : Str} (h : TailOk x) : x ∈ tailsL := by
  rcases h with rfl | rfl | rfl
  · exact .head _
  · exact .tail _ (.head _)
  · exact .tail _ (.tail _ (.head _))
theorem nat_of {p : Int} {k : Nat} (h0 : 0 ≤ p) (h : p < k) : ∃ n : Nat, n < k ∧ p = n := by
  obtain ⟨n, rfl⟩ := Int.eq_ofNat_of_zero_le h0
  exact ⟨n, Int.ofNat_lt.mp h, rfl⟩
theorem bit_of {f : Int} (h : f = 0 ∨ f = 1) : ∃ n : Nat, n < 2 ∧ f = n := by
  rcases h with rfl | rfl
  · exact ⟨0, by decide, rfl⟩
  · exact ⟨1, by decide, rfl⟩
noncomputable abbrev GoodB (x : Str) (n : Int) (p0 p1 p2 p3 p4 : Str) : Prop := x.length ≤ 400 ∧ (Txt.slice x none (some 3) != Str.ofString "229") = false ∧ ¬ lf x < 0 ∧ ¬ rf x < 0 ∧ -(x.length : Int) ≤ lf x + 1 ∧ lf x + 1 < x.length ∧ -(x.length : Int) ≤ rf x - 1 ∧ rf x - 1 < x.length ∧ (Txt.item x (lf x + 1) != Txt.item x (rf x - 1)) = false ∧ ((Txt.item x (lf x + 1)).length == 0) = false ∧ (Txt.slice x (some (lf x + 1)) (some (rf x))).length ≤ 1000 ∧
    Txt.split (Txt.slice x (some (lf x + 1)) (some (rf x))) (Txt.item x (lf x + 1)) = [p0, p1, p2, p3, p4] ∧ PySem.intText? p3 = some n ∧ p3.length ≤ 640
theorem good_all : ∀ n : Nat, n < 6 → ∀ x ∈ marksL, GoodB (replyS x n) n (Str.ofString "") (Str.ofString "") (Str.ofString "") (Str.ofString (toString (n : Int))) (Str.ofString "") := by decide +kernel
theorem good_reply {x : Str} {p : Int} (h : MarkOk x) (h0 : 0 ≤ p) (h5 : p ≤ 5) : GoodR (replyS x p) p := by
  obtain ⟨n, hn, rfl⟩ := nat_of (k := 6) h0 (Int.lt_of_le_of_lt h5 (by decide))
  exact ⟨⟨_, _, _, _, _, good_all n hn x (inMarks h)⟩⟩
noncomputable def failedB : Option Sre.Outcome → Bool
  | some .failed => true
  | _ => false
noncomputable def cleanB (code : Array Nat) (x : Str) : Bool := failedB (Sre.M.runFor 2000 (Sre.forSearch code x.cps 0 0 x.cps.size false)).outcome && decide (x.cps.size < 2 ^ 62)
theorem cleanOf {code : Array Nat} {x : Str} (h : cleanB code x = true) : cleanBy code x := by
  unfold cleanB at h
  rw [Bool.and_eq_true, decide_eq_true_eq] at h
  refine ⟨?_, h.2⟩
  have h := h.1
  generalize (Sre.M.runFor 2000 (Sre.forSearch code x.cps 0 0 x.cps.size false)).outcome = o at h
  unfold failedB at h
  split at h
  · rfl
  · cases h
theorem clean_all : ∀ n : Nat, n < 6 → ∀ x ∈ marksL, cleanB codeV (replyS x n) = true := by decide +kernel
theorem clean_reply {x : Str} {p : Int} (h : MarkOk x) (h0 : 0 ≤ p) (h5 : p ≤ 5) : cleanV (replyS x p) := by
  obtain ⟨n, hn, rfl⟩ := nat_of (k := 6) h0 (Int.lt_of_le_of_lt h5 (by decide))
  exact cleanOf (clean_all n hn x (inMarks h))
theorem fit_all : ∀ k : Nat, k < 6 → ∀ f : Nat, f < 2 → (nm k f).length ≤ 100 ∧ cleanB codeN (nm k f) = true ∧ cleanB codeN (Txt.lower (nm k f)) = true ∧ cleanB codeN (otherS (nm k f)) = true ∧ (otherS (nm k f)).length ≤ 100 ∧ Txt.lower (otherS (nm k f)) = Txt.lower (nm k f) := by decide +kernel
theorem fit_nm {k f : Int} (h0 : 0 ≤ k) (h6 : k < 6) (hf : f = 0 ∨ f = 1) : Fit (nm k f) := by
  obtain ⟨n, hn, rfl⟩ := nat_of (k := 6) h0 h6
  obtain ⟨b, hb, rfl⟩ := bit_of hf
  have h := fit_all n hn b hb
  exact ⟨h.1, cleanOf h.2.1, cleanOf h.2.2.1, cleanOf h.2.2.2.1, h.2.2.2.2.1, h.2.2.2.2.2⟩
theorem nm_all : ∀ k : Nat, k < 6 → ∀ f : Nat, f < 2 → Txt.lower (nm k f) = nm k 0 ∧ otherS (nm k f) = nm k (1 - f) := by decide +kernel
theorem low_nm {k f : Int} (h0 : 0 ≤ k) (h6 : k < 6) (hf : f = 0 ∨ f = 1) : Txt.lower (nm k f) = nm k 0 := by
  obtain ⟨n, hn, rfl⟩ := nat_of (k := 6) h0 h6
  obtain ⟨b, hb, rfl⟩ := bit_of hf
  exact (nm_all n hn b hb).1
theorem other_nm {k f : Int} (h0 : 0 ≤ k) (h6 : k < 6) (hf : f = 0 ∨ f = 1) : otherS (nm k f) = nm k (1 - f) := by
  obtain ⟨n, hn, rfl⟩ := nat_of (k := 6) h0 h6
  obtain ⟨b, hb, rfl⟩ := bit_of hf
  exact (nm_all n hn b hb).2
theorem apart_all : ∀ a : Nat, a < 6 → ∀ b : Nat, b < 6 → a ≠ b → (nm a 0 != nm b 0) = true := by decide +kernel
theorem apart_nm {a b : Ent} (ha : EntOk a) (hb : EntOk b) (h : a.1 ≠ b.1) : (Txt.lower (nm a.1 a.2) != Txt.lower (nm b.1 b.2)) = true := by
  rw [low_nm ha.1 ha.2.1 ha.2.2, low_nm hb.1 hb.2.1 hb.2.2]
  obtain ⟨n, hn, en⟩ := nat_of (k := 6) ha.1 ha.2.1
  obtain ⟨m, hm, em⟩ := nat_of (k := 6) hb.1 hb.2.1
  rw [en, em]
  exact apart_all n hn m hm fun e => h (by rw [en, em, e])
structure NameOk (x r : Str) : Prop where
  hl : x.length ≤ 400
  h5 : 5 ≤ x.length
  c1 : (Txt.slice x none (some 3) != Str.ofString "257") = false
  c2 : (Txt.slice x (some 3) (some 5) != Str.ofString " \"") = false
  e : nameL x 402 5 (Str.ofString "") = r
noncomputable def nameX (m : Int) (tl : Str) : Str := Str.ofString "257 \"" ++ Txt.mul (Str.ofString "\"") m ++ tl
noncomputable def nameR (m : Int) : Str := Txt.mul (Str.ofString "\"") (m / 2) ++ (if m % 2 = 0 then Str.ofString "Z " else Str.ofString "")
theorem name_all : ∀ m : Nat, m < 13 → ∀ tl ∈ tailsL, (nameX m tl).length ≤ 400 ∧ 5 ≤ (nameX m tl).length ∧ (Txt.slice (nameX m tl) none (some 3) != Str.ofString "257") = false ∧ (Txt.slice (nameX m tl) (some 3) (some 5) != Str.ofString " \"") = false ∧ nameL (nameX m tl) 402 5 (Str.ofString "") = nameR m := by decide +kernel
theorem name_ok {m : Int} {tl : Str} (h0 : 0 ≤ m) (h : m ≤ 12) (ht : TailOk tl) : NameOk (nameX m tl) (nameR m) := by
  obtain ⟨n, hn, rfl⟩ := nat_of (k := 13) h0 (Int.lt_of_le_of_lt h (by decide))
  have h := name_all n hn tl (inTails ht)
  exact ⟨h.1, h.2.1, h.2.2.1, h.2.2.2.1, h.2.2.2.2⟩
theorem count_all : ∀ m : Nat, m < 13 → (nameR m).cps.all (· < 128) = true ∧ countN (Str.ofString "Z") (nameR m).cps.toList 0 = if (m : Int) % 2 = 0 then 1 else 0 := by decide +kernel
theorem name_count {m : Int} (h0 : 0 ≤ m) (h : m ≤ 12) : (nameR m).cps.all (· < 128) = true ∧ countN (Str.ofString "Z") (nameR m).cps.toList 0 = if m % 2 = 0 then 1 else 0 := by
  obtain ⟨n, hn, rfl⟩ := nat_of (k := 13) h0 (Int.lt_of_le_of_lt h (by decide))
  exact count_all n hn
theorem RowOk.cut {x : Six Ent} (h : RowOk x) : RowOk (cutR x) := by
  have p : x.list.Perm (cutR x).list := List.perm_append_comm (l₁ := [x.a]) (l₂ := [x.b, x.c, x.d, x.e, x.f])
  exact ⟨fun e he => h.1 e (p.mem_iff.mpr he), (p.pairwise_iff fun h => Ne.symm h).mp h.2⟩
theorem EntOk.flip {e : Ent} (h : EntOk e) : EntOk (e.1, 1 - e.2) := by
  obtain ⟨a, b, c⟩ := h
  exact ⟨a, b, by rcases c with c | c <;> (dsimp only; rw [c]; decide)⟩
theorem RowOk.turn {x : Six Ent} (h : RowOk x) : RowOk (turnR x) := by
  have p : (x.list.map (·.1)).Perm ((turnR x).list.map (·.1)) := (List.perm_append_comm (l₁ := [x.a.1, x.b.1]) (l₂ := [x.c.1, x.d.1, x.e.1, x.f.1])).trans (List.Perm.append_left [x.c.1, x.d.1, x.e.1, x.f.1] (List.Perm.swap _ _ []))
  exact ⟨List.forall_mem_cons.mpr ⟨h.1 _ (.tail _ (.tail _ (.head _))), List.forall_mem_cons.mpr ⟨h.1 _ (.tail _ (.tail _ (.tail _ (.head _)))), List.forall_mem_cons.mpr ⟨h.1 _ (.tail _ (.tail _ (.tail _ (.tail _ (.head _))))), List.forall_mem_cons.mpr ⟨h.1 _ (.tail _ (.tail _ (.tail _ (.tail _ (.tail _ (.head _)))))), List.forall_mem_cons.mpr ⟨(h.1 _ (.tail _ (.head _))).flip, List.forall_mem_cons.mpr ⟨(h.1 _ (.head _)).flip, fun _ h => nomatch h⟩⟩⟩⟩⟩⟩,
    List.pairwise_map.mp ((p.pairwise_iff fun h => Ne.symm h).mp (List.pairwise_map.mpr h.2))⟩
theorem Match.fit {Γ : Cst} {c : Card} {e : Ent} (ok : CstOk Γ) (he : EntOk e) (h : Match Γ c e) : Fit c.k ∧ cleanV c.v := by
  rw [h.1, h.2]
  have hp := ok.pf e.1.toNat (by have := he.1; have := he.2.1; omega)
  exact ⟨fit_nm he.1 he.2.1 he.2.2, clean_reply ok.mark hp.1 hp.2⟩
theorem Match.good {Γ : Cst} {c : Card} {e : Ent} (ok : CstOk Γ) (he : EntOk e) (h : Match Γ c e) : GoodR c.v (Γ.pf e.1.toNat) := by
  rw [h.2]
  have hp := ok.pf e.1.toNat (by have := he.1; have := he.2.1; omega)
  exact good_reply ok.mark hp.1 hp.2
theorem Match.turn {Γ : Cst} {c : Card} {e : Ent} {t : Addr} {a b : Tok} (he : EntOk e) (h : Match Γ c e) : Match Γ ⟨t, otherS c.k, c.v, a, b⟩ (e.1, 1 - e.2) := by
  refine ⟨?_, h.2⟩
  show otherS c.k = _
  rw [h.1]
  exact other_nm he.1 he.2.1 he.2.2
theorem Matches.fits {Γ : Cst} {cs : Six Card} {row : Six Ent} (ok : CstOk Γ) (ro : RowOk row) (M : Matches Γ cs row) : (∀ c ∈ [cs.a, cs.b, cs.c, cs.d, cs.e, cs.f], Fit c.k ∧ cleanV c.v) ∧ Apart [cs.a.k, cs.b.k, cs.c.k, cs.d.k, cs.e.k, cs.f.k] := by
  obtain ⟨h1, h2⟩ := ro
  refine ⟨List.forall_mem_cons.mpr ⟨M.a.fit ok (h1 _ (.head _)), List.forall_mem_cons.mpr ⟨M.b.fit ok (h1 _ (.tail _ (.head _))), List.forall_mem_cons.mpr ⟨M.c.fit ok (h1 _ (.tail _ (.tail _ (.head _)))), List.forall_mem_cons.mpr ⟨M.d.fit ok (h1 _ (.tail _ (.tail _ (.tail _ (.head _))))), List.forall_mem_cons.mpr ⟨M.e.fit ok (h1 _ (.tail _ (.tail _ (.tail _ (.tail _ (.head _)))))), List.forall_mem_cons.mpr ⟨M.f.fit ok (h1 _ (.tail _ (.tail _ (.tail _ (.tail _ (.tail _ (.head _))))))), fun _ h => nomatch h⟩⟩⟩⟩⟩⟩, ?_⟩
  rw [M.a.1, M.b.1, M.c.1, M.d.1, M.e.1, M.f.1]
  exact (List.pairwise_map (f := fun e : Ent => nm e.1 e.2) (l := row.list)).mpr (List.Pairwise.imp_of_mem (fun ha hb hn => apart_nm (h1 _ ha) (h1 _ hb) hn) h2)theorem gave_one {gv : Array Value} {n : Nat} (h : gv = Array.replicate n .none) : gv ++ #[.none] = Array.replicate (n + 1) .none := by rw [h]; simp [Array.replicate_succ]
theorem gave_two {gv : Array Value} {n : Nat} (h : gv = Array.replicate n .none) : gv ++ #[.none, .none] = Array.replicate (n + 2) .none := by
  rw [show (#[.none, .none] : Array Value) = #[.none] ++ #[.none] from rfl, ← Array.append_assoc]
  exact gave_one (gave_one h)
theorem match_cut {Γ : Cst} {cs : Six Card} {row : Six Ent} {t : Addr} (M : Matches Γ cs row) : Matches Γ ⟨cs.b, cs.c, cs.d, cs.e, cs.f, ⟨t, cs.a.k, cs.a.v, cs.a.a, cs.a.b⟩⟩ (cutR row) := ⟨M.b, M.c, M.d, M.e, M.f, M.a⟩
theorem match_turn {Γ : Cst} {cs : Six Card} {row : Six Ent} {ta tb : Addr} {ca cb : Tok} (ro : RowOk row) (M : Matches Γ cs row) : Matches Γ ⟨cs.c, cs.d, cs.e, cs.f, ⟨ta, otherS cs.b.k, cs.b.v, ca, cs.b.b⟩, ⟨tb, otherS cs.a.k, cs.a.v, cb, cs.a.b⟩⟩ (turnR row) :=
  ⟨M.c, M.d, M.e, M.f, M.b.turn (ro.1 _ (.tail _ (.head _))), M.a.turn (ro.1 _ (.head _))⟩
theorem name_ok_use {w : World} {A : Around} {h₀ : Heap} {all : List Env} {L : Addr} {m : Str → Option Value} {s : Shared} {mean : ExcName → Option Value} {mg mb : Str → Option Value} {news : Led} {E : Value → Shared → Prop} {x r : Str} {t : Tok} {Q : Value → Shared → Prop} (F : Fr h₀ L s.heap m) (X : (hd.heap_1 w.params).In h₀) (T : Top View Loose mean mg mb h₀) (hB : FB A h₀ L m all) (N : News h₀ L s.heap news)
    (hh : A.handled = none) (hd : A.depth ≤ 470) (hu : A.units ≤ 470) (ok : NameOk x r)
    (h : ∀ h' tk' t', Fr h₀ L h' m → News h₀ L h' news → @LT.lt Nat _ 0 tk' → Q (.str r t') { s with heap := h', toks := tk' }) :
    wpAny (lawM w) A (call (.ref 296) [.str x t]) Q E s := name_good_use F X T hB N hh hd hu ok.hl ok.h5 ok.c1 ok.c2 ok.e h
theorem count_is_use {w : World} {A : Around} {h₀ : Heap} {all : List Env} {L : Addr} {m : Str → Option Value} {s : Shared} {mean : ExcName → Option Value} {mg mb : Str → Option Value} {news : Led} {E : Value → Shared → Prop} {x y : Str} {t u : Tok} {c : Int} {Q : Value → Shared → Prop} (F : Fr h₀ L s.heap m) (X : (hd.heap_1 w.params).In h₀) (T : Top View Loose mean mg mb h₀) (hB : FB A h₀ L m all) (N : News h₀ L s.heap news)
    (hh : A.handled = none) (hd : A.depth ≤ 480) (hu : A.units ≤ 480) (hx : x.cps.all (· < 128) = true) (e : countN y x.cps.toList 0 = c) (hu0 : u ≠ 0) (ht : @LT.lt Nat _ u s.toks)
    (h : ∀ h' tk' t', Fr h₀ L h' m → News h₀ L h' news → Q (.int c t') { s with heap := h', toks := tk' }) : wpAny (lawM w) A (call (.ref 247) [.str x t, .str y u]) Q E s := by
  subst e
  exact count_use F X T hB N hh hd hu hx hu0 ht h
local macro_rules | `(tactic| walk_at "call ref") => `(tactic| (with_reducible refine callN 296 ?_; k_dflt apply name_ok_use; k_extra "c1"; k_extra "s"))
local macro_rules | `(tactic| walk_at "call ref") => `(tactic| (with_reducible refine callN 128 ?_; k_dflt apply values_law; k_dflt (k_extra "my deck"); intros; k_extra "my decked"))
local macro_rules | `(tactic| walk_at "call ref") => `(tactic| (with_reducible refine callN 135 ?_; k_dflt apply items_law; k_dflt (k_extra "my deck"); intros; k_extra "my decked"))
local macro_rules | `(tactic| walk_at "call ref") => `(tactic| (with_reducible refine callN 310 ?_; k_dflt apply cut_law; k_dflt (k_extra "my deck"; iterate 2 k_extra "q"); intros; k_extra "my decked"))
local macro_rules | `(tactic| walk_at "call ref") => `(tactic| (with_reducible refine callN 315 ?_; k_dflt apply turn_law; k_dflt (k_extra "my deck"; iterate 2 k_extra "q"); intros; k_extra "my decked"))
local macro_rules | `(tactic| walk_at "call ref") => `(tactic| (with_reducible refine callN 247 ?_; k_dflt apply count_is_use; k_dflt (k_extra "my use"; (iterate 2 k_extra "q"); k_ne; (refine ltN ?_; (try dsimp only); omega)); intros; k_extra "s"))
local macro_rules | `(tactic| k_extra "my gave") => `(tactic| with_reducible (first | exact gave_one ‹_› | exact gave_two ‹_›))
local macro_rules | `(tactic| k_extra "my match") => `(tactic| with_reducible (first | exact match_cut ‹_› | exact match_turn ‹_› ‹_›))
section
local macro_rules | `(tactic| walk_at "execs nil") => `(tactic| (with_reducible refine wpAny_execs_nil ?_; (try dsimp only)))
theorem toldStep {w : World} {g : Heap} {L : Addr} {Γ : Cst} {row told : Six Ent} {cuts fig : Int} {ft : Tok} {cnt : Nat} {kd : Option Kd} {its : Led} {s : Shared} {m : Str → Option Value} {mean : ExcName → Option Value} {mg mb : Str → Option Value} {rest : List Stmt} {Q : Flow → Shared → Prop} {E : Value → Shared → Prop}
    (X : (hd.heap_1 w.params).In g) (T : Top View Loose mean mg mb g) (ok : CstOk Γ) (ro : RowOk row) (S : LawSt w g L Γ row told cuts cnt kd its s m) (hfig : m (Str.ofString "figure") = some (.int fig ft)) (hf : fig = 0 ∨ fig = 1)
    (h : ∀ s' m' t, m' (Str.ofString "told") = some (.str (nameR (Γ.pf row.a.1.toNat + fig)) t) → m' (Str.ofString "figure") = some (.int fig ft) → @LT.lt Nat _ 0 s'.toks → LawSt w g L Γ row told cuts cnt kd its s' m' → wpAny (lawM w) (lawA w.params L) (execs rest (lawEnv w.params L)) Q E s') :
    wpAny (lawM w) (lawA w.params L) (execs (figS w.params 0 :: rest) (lawEnv w.params L)) Q E s := by
  obtain ⟨kl, n, ng, gv, cs, lr, F, N, off, K, hgv, M, R, fx, lc, kdh, io, gs⟩ := S.ex
  clear S
  obtain ⟨e1, e2, e3, e4, ⟨tc, e5⟩, ⟨tt, e6⟩, ⟨tf, e7⟩, ⟨to, e8⟩⟩ := lc
  obtain ⟨tl, htl⟩ : ∃ tl, tl = deckC w.params Γ.D Γ.dd Γ.Lh Γ.tk n cs.list ++ (its ++ kl) := ⟨_, rfl⟩
  rw [← htl] at N off
  have B : Below (Lv 301 []) g [] g := ⟨rfl, fun _ _ e => e, trivial⟩
  have oa : EntOk row.a := ro.1 _ List.mem_cons_self
  have gr : GoodR cs.a.v (Γ.pf row.a.1.toNat) := M.a.good ok oa
  have hp := ok.pf row.a.1.toNat (by have := oa.1; have := oa.2.1; omega)
  have nk : NameOk (nameX (Γ.pf row.a.1.toNat + fig) Γ.tail) (nameR (Γ.pf row.a.1.toNat + fig)) := name_ok (by omega) (by omega) ok.tail
  unfold nameX at nk
  have tlen : Γ.tail.length ≤ 10 := by rcases ok.tail with h | h | h <;> rw [h] <;> decide
  have hsc : lawScope w.params = ⟨_, _, _, _, _⟩ := rfl
  show wpAny _ _ (execs (Stmt.Assign _ _ _ :: _) _) _ _ _
  dsimp only [lawEnv, lawA, lawM]
  rw [hsc]
  clear hsc
  k_steps
  all_goals (try dsimp only)
  all_goals k_extra "my facts"
  all_goals (try dsimp only at *)
  (refine' h _ _ _ ?ya ?yb ?yc ?yst; (case yst => k_extra "my state0"); (case ya => k_extra "my look"); (case yb => k_extra "my look"); (case yc => (refine ltN ?_; (try dsimp only); omega)))
theorem deedCut {w : World} {g : Heap} {L : Addr} {Γ : Cst} {row told : Six Ent} {cuts p : Int} {tt : Tok} {cnt : Nat} {kd : Option Kd} {its : Led} {s : Shared} {m : Str → Option Value} {mean : ExcName → Option Value} {mg mb : Str → Option Value} {rest : List Stmt} {Q : Flow → Shared → Prop} {E : Value → Shared → Prop}
    (X : (hd.heap_1 w.params).In g) (T : Top View Loose mean mg mb g) (ok : CstOk Γ) (ro : RowOk row) (S : LawSt w g L Γ row told cuts cnt kd its s m) (ht : m (Str.ofString "told") = some (.str (nameR p) tt)) (p0 : 0 ≤ p) (p6 : p ≤ 6) (hev : p % 2 = 0) (hs : @LT.lt Nat _ 0 s.toks) (hc : cnt ≤ 90)
    (h : ∀ s', LawSt w g L Γ (cutR row) told cuts (cnt + 1) kd its s' m → wpAny (lawM w) (lawA w.params L) (execs rest (lawEnv w.params L)) Q E s') :
    wpAny (lawM w) (lawA w.params L) (execs (figS w.params 1 :: rest) (lawEnv w.params L)) Q E s := by
  obtain ⟨kl, n, ng, gv, cs, lr, F, N, off, K, hgv, M, R, fx, lc, kdh, io, gs⟩ := S.ex
  clear S
  obtain ⟨e1, e2, e3, e4, ⟨tc, e5⟩, ⟨tt, e6⟩, ⟨tf, e7⟩, ⟨to, e8⟩⟩ := lc
  obtain ⟨tl, htl⟩ : ∃ tl, tl = deckC w.params Γ.D Γ.dd Γ.Lh Γ.tk n cs.list ++ (its ++ kl) := ⟨_, rfl⟩
  rw [← htl] at N off
  have B : Below (Lv 301 []) g [] g := ⟨rfl, fun _ _ e => e, trivial⟩
  obtain ⟨hf, ha⟩ := M.fits ok ro
  obtain ⟨n1, n2⟩ := name_count p0 (by omega)
  rw [if_pos hev] at n2
  have hsz : gv.size ≤ 100 := by rw [hgv, Array.size_replicate]; omega
  have hsc : lawScope w.params = ⟨_, _, _, _, _⟩ := rfl
  show wpAny _ _ (execs (Stmt.Expr _ _ :: _) _) _ _ _
  dsimp only [lawEnv, lawA, lawM]
  rw [hsc]
  clear hsc
  k_steps
  all_goals (try dsimp only)
  all_goals k_extra "my facts"
  all_goals (try dsimp only at *)
  (refine' h _ ?yst; (case yst => k_extra "my state0"))
theorem deedTurn {w : World} {g : Heap} {L : Addr} {Γ : Cst} {row told : Six Ent} {cuts p : Int} {tt : Tok} {cnt : Nat} {kd : Option Kd} {its : Led} {s : Shared} {m : Str → Option Value} {mean : ExcName → Option Value} {mg mb : Str → Option Value} {rest : List Stmt} {Q : Flow → Shared → Prop} {E : Value → Shared → Prop}
    (X : (hd.heap_1 w.params).In g) (T : Top View Loose mean mg mb g) (ok : CstOk Γ) (ro : RowOk row) (S : LawSt w g L Γ row told cuts cnt kd its s m) (ht : m (Str.ofString "told") = some (.str (nameR p) tt)) (p0 : 0 ≤ p) (p6 : p ≤ 6) (hev : ¬ p % 2 = 0) (hs : @LT.lt Nat _ 0 s.toks) (hc : cnt ≤ 90)
    (h : ∀ s', LawSt w g L Γ (turnR row) told cuts (cnt + 2) kd its s' m → wpAny (lawM w) (lawA w.params L) (execs rest (lawEnv w.params L)) Q E s') :
    wpAny (lawM w) (lawA w.params L) (execs (figS w.params 1 :: rest) (lawEnv w.params L)) Q E s := by
  obtain ⟨kl, n, ng, gv, cs, lr, F, N, off, K, hgv, M, R, fx, lc, kdh, io, gs⟩ := S.ex
  clear S
  obtain ⟨e1, e2, e3, e4, ⟨tc, e5⟩, ⟨tt, e6⟩, ⟨tf, e7⟩, ⟨to, e8⟩⟩ := lc
  obtain ⟨tl, htl⟩ : ∃ tl, tl = deckC w.params Γ.D Γ.dd Γ.Lh Γ.tk n cs.list ++ (its ++ kl) := ⟨_, rfl⟩
  rw [← htl] at N off
  have B : Below (Lv 301 []) g [] g := ⟨rfl, fun _ _ e => e, trivial⟩
  obtain ⟨hf, ha⟩ := M.fits ok ro
  obtain ⟨n1, n2⟩ := name_count p0 (by omega)
  rw [if_neg hev] at n2
  have hsz : gv.size ≤ 100 := by rw [hgv, Array.size_replicate]; omega
  have hsc : lawScope w.params = ⟨_, _, _, _, _⟩ := rfl
  show wpAny _ _ (execs (Stmt.Expr _ _ :: _) _) _ _ _
  dsimp only [lawEnv, lawA, lawM]
  rw [hsc]
  clear hsc
  k_steps
  all_goals (try dsimp only)
  all_goals k_extra "my facts"
  all_goals (try dsimp only at *)
  (refine' h _ ?yst; (case yst => k_extra "my state0"))
end
noncomputable def lawNames : List Str := ["row", "deck", "given", "gave", "cuts", "tail", "far", "other", "kept", "due", "home"].map Str.ofString
noncomputable def Same (m m' : Str → Option Value) : Prop := ∀ x ∈ lawNames, m' x = m x
theorem Same.refl {m : Str → Option Value} : Same m m := fun _ _ => rfl
theorem Same.store {m : Str → Option Value} {y : Str} {v : Value} (h : lawNames.contains y = false) : Same m (fun z => if z = y then some v else m z) := fun x hx => by
  show (if x = y then _ else _) = _
  rw [if_neg]
  rintro rfl
  rw [← Bool.not_eq_true, List.contains_iff_mem] at h
  exact h hx
theorem Locs.same {m m' : Str → Option Value} {Γ : Cst} {lr : Addr} {cuts : Int} (h : Same m m') (l : Locs m Γ lr cuts) : Locs m' Γ lr cuts := by
  have q : ∀ x, lawNames.contains x = true → m' x = m x := fun x hx => h x (List.contains_iff_mem.mp hx)
  exact ⟨(q _ (by decide)).trans l.row, (q _ (by decide)).trans l.deck, (q _ (by decide)).trans l.given, (q _ (by decide)).trans l.gave, let ⟨t, e⟩ := l.cuts; ⟨t, (q _ (by decide)).trans e⟩, let ⟨t, e⟩ := l.tail; ⟨t, (q _ (by decide)).trans e⟩, let ⟨t, e⟩ := l.far; ⟨t, (q _ (by decide)).trans e⟩, let ⟨t, e⟩ := l.other; ⟨t, (q _ (by decide)).trans e⟩⟩
theorem KdIs.same {m m' : Str → Option Value} {kl : Led} {kd : Option Kd} (h : Same m m') (k : KdIs m kl kd) : KdIs m' kl kd :=
  k.mono (fun _ hp => hp) (h _ (List.contains_iff_mem.mp (by decide))) (h _ (List.contains_iff_mem.mp (by decide))) (h _ (List.contains_iff_mem.mp (by decide)))
section
variable {w : World} {g : Heap} {L : Addr} {Γ : Cst} {row told : Six Ent} {cuts : Int} {cnt : Nat} {kd : Option Kd} {its : Led} {s : Shared} {m : Str → Option Value}
/-- the state's whole ledger -/
theorem LawSt.all (S : LawSt w g L Γ row told cuts cnt kd its s m) : ∃ big, Fr g L s.heap m ∧ News g L s.heap big ∧ (∀ p ∈ its, p ∈ big) ∧
    (∀ s' m', (s'.gens = s.gens ∧ s'.os = s.os) → Same m m' → Fr g L s'.heap m' → News g L s'.heap big → LawSt w g L Γ row told cuts cnt kd its s' m') ∧
    (∀ s' m' I o, (s'.gens = s.gens ∧ s'.os = s.os) → Same m m' → Fr g L s'.heap m' → News g L s'.heap ((I, o) :: big) → (∀ p ∈ big, p.1 < I) → (∀ vs, o ≠ tupOf vs) → LawSt w g L Γ row told cuts cnt kd ((I, o) :: its) s' m') := by
  obtain ⟨kl, n, ng, gv, cs, lr, F, N, off, K, hgv, M, R, fx, lc, kdh, io, gs⟩ := S.ex
  refine ⟨_, F, N, fun p hp => .tail _ (List.mem_append_right _ (List.mem_append_left _ hp)), fun s' m' ge e F' N' => ⟨kl, n, ng, gv, cs, lr, F', N', off, K, hgv, M, R, fx, lc.same e, kdh.same e, io, ge.1.trans gs.1, ge.2.trans gs.2⟩, fun s' m' I o ge e F' N' lt nt => ?_⟩
  have ltK : ∀ p ∈ deckC w.params Γ.D Γ.dd Γ.Lh Γ.tk n cs.list ++ (its ++ kl), p.1 < I := fun p hp => lt p (.tail _ hp)
  refine ⟨kl, n, ng, gv, cs, lr, F', fun p hp => ?_, fun q hq => ?_, fun p hp => ?_, hgv, M, R, fx, lc.same e, kdh.same e, ⟨?_, ?_, ?_⟩, ge.1.trans gs.1, ge.2.trans gs.2⟩
  · rcases List.mem_cons.mp hp with rfl | hp
    · exact N' _ (.tail _ (.head _))
    rcases List.mem_append.mp hp with hp | hp
    · exact N' p (.tail _ (.tail _ (List.mem_append_left _ hp)))
    rcases List.mem_cons.mp hp with rfl | hp
    · exact N' _ (.head _)
    · exact N' p (.tail _ (.tail _ (List.mem_append_right _ hp)))
  · rcases List.mem_append.mp hq with hq | hq
    · exact off q (List.mem_append_left _ hq)
    rcases List.mem_cons.mp hq with rfl | hq
    · exact Nat.ne_of_lt (lt _ (.head _))
    · exact off q (List.mem_append_right _ hq)
  · rcases List.mem_cons.mp hp with rfl | hp
    · exact .inr fun q hq => Ne.symm (Nat.ne_of_lt (ltK q (List.mem_append_left _ hq)))
    · exact K p hp
  · intro p hp
    rcases List.mem_cons.mp hp with rfl | hp
    · exact nt
    · exact io.nt p hp
  · intro p hp
    rcases List.mem_cons.mp hp with rfl | hp
    · exact fun q hq => Ne.symm (Nat.ne_of_lt (ltK q (List.mem_append_right _ (List.mem_append_right _ hq))))
    · exact io.off p hp
  · exact List.pairwise_cons.mpr ⟨fun q hq => Ne.symm (Nat.ne_of_lt (ltK q (List.mem_append_right _ (List.mem_append_left _ hq)))), io.pw⟩
/-- the newest iterator taken out of the state's ledger -/
theorem LawSt.head {I : Addr} {o : Obj} (S : LawSt w g L Γ row told cuts cnt kd ((I, o) :: its) s m) : ∃ rest, Fr g L s.heap m ∧ News g L s.heap ((I, o) :: rest) ∧ (∀ p ∈ rest, p.1 ≠ I) ∧ (∀ p ∈ its, p ∈ rest) ∧
    (∀ s' o', (s'.gens = s.gens ∧ s'.os = s.os) → Fr g L s'.heap m → News g L s'.heap ((I, o') :: rest) → (∀ vs, o' ≠ tupOf vs) → LawSt w g L Γ row told cuts cnt kd ((I, o') :: its) s' m) ∧
    (∀ s', (s'.gens = s.gens ∧ s'.os = s.os) → Fr g L s'.heap m → News g L s'.heap rest → LawSt w g L Γ row told cuts cnt kd its s' m) := by
  obtain ⟨kl, n, ng, gv, cs, lr, F, N, off, K, hgv, M, R, fx, lc, kdh, io, gs⟩ := S.ex
  have mI : (I, o) ∈ ((I, o) :: its) ++ kl := List.mem_append_left _ (.head _)
  have kI : OffD I (deckC w.params Γ.D Γ.dd Γ.Lh Γ.tk n cs.list) := by
    rcases K _ mI with ⟨vs, hv⟩ | h
    · exact absurd hv (io.nt _ (.head _) vs)
    · exact h
  have pw := List.pairwise_cons.mp io.pw
  have sub : ∀ p ∈ its ++ kl, p ∈ ((I, o) :: its) ++ kl := fun p hp => .tail _ hp
  refine ⟨(Γ.lg, listOf gv ng) :: (deckC w.params Γ.D Γ.dd Γ.Lh Γ.tk n cs.list ++ (its ++ kl)), F, fun p hp => ?_, fun p hp => ?_, fun p hp => .tail _ (List.mem_append_right _ (List.mem_append_left _ hp)), fun s' o' ge F' N' nt => ?_, fun s' ge F' N' => ?_⟩
  · rcases List.mem_cons.mp hp with rfl | hp
    · exact N _ (.tail _ (List.mem_append_right _ mI))
    rcases List.mem_cons.mp hp with rfl | hp
    · exact N _ (.head _)
    rcases List.mem_append.mp hp with hp | hp
    · exact N p (.tail _ (List.mem_append_left _ hp))
    · exact N p (.tail _ (List.mem_append_right _ (sub p hp)))
  · rcases List.mem_cons.mp hp with rfl | hp
    · exact off _ (List.mem_append_right _ mI)
    rcases List.mem_append.mp hp with hp | hp
    · exact (kI p hp).ne'
    rcases List.mem_append.mp hp with hp | hp
    · exact (pw.1 p hp).ne'
    · exact (io.off _ (.head _) p hp).ne'
  · refine ⟨kl, n, ng, gv, cs, lr, F', fun p hp => ?_, fun q hq => ?_, fun p hp => ?_, hgv, M, R, fx, lc, kdh, ⟨?_, ?_, ?_⟩, ge.1.trans gs.1, ge.2.trans gs.2⟩
    · rcases List.mem_cons.mp hp with rfl | hp
      · exact N' _ (.tail _ (.head _))
      rcases List.mem_append.mp hp with hp | hp
      · exact N' p (.tail _ (.tail _ (List.mem_append_left _ hp)))
      rcases List.mem_cons.mp hp with rfl | hp
      · exact N' _ (.head _)
      · exact N' p (.tail _ (.tail _ (List.mem_append_right _ hp)))
    · rcases List.mem_append.mp hq with hq | hq
      · exact off q (List.mem_append_left _ hq)
      rcases List.mem_cons.mp hq with rfl | hq
      · exact (off (I, o) (List.mem_append_right _ mI) : Ap Γ.lg I)
      · exact off q (List.mem_append_right _ (sub q hq))
    · rcases List.mem_cons.mp hp with rfl | hp
      · exact .inr kI
      · exact K p (sub p hp)
    · intro p hp
      rcases List.mem_cons.mp hp with rfl | hp
      · exact nt
      · exact io.nt p (.tail _ hp)
    · intro p hp
      rcases List.mem_cons.mp hp with rfl | hp
      · exact (io.off (I, o) (.head _) : OffD I kl)
      · exact io.off p (.tail _ hp)
    · exact List.pairwise_cons.mpr pw
  · exact ⟨kl, n, ng, gv, cs, lr, F', fun p hp => N' p hp, fun q hq => off q (by
      rcases List.mem_append.mp hq with hq | hq
      · exact List.mem_append_left _ hq
      · exact List.mem_append_right _ (sub q hq)), fun p hp => K p (sub p hp), hgv, M, R, fx, lc, kdh, ⟨fun p hp => io.nt p (.tail _ hp), fun p hp => io.off p (.tail _ hp), pw.2⟩, ge.1.trans gs.1, ge.2.trans gs.2⟩
variable {A : Around} {E : Value → Shared → Prop}
theorem law_store {y : Str} {py : Pos} {v : Value} {Q : Unit → Shared → Prop} (S : LawSt w g L Γ row told cuts cnt kd its s m) (hy : lawNames.contains y = false) (hk : (lawScope w.params).kind = .function) (hx : (lawEnv w.params L).kindOf y = some .local)
    (h : ∀ s', LawSt w g L Γ row told cuts cnt kd its s' (fun z => if z = y then some v else m z) → Q () s') : wpAny (lawM w) A (assign (.Name y py) (lawEnv w.params L) v) Q E s := by
  obtain ⟨big, F, N, -, k, -⟩ := S.all
  refine wpAny_assign_Name ?_
  exact storeX_L F N (fun h' F' N' => h _ (k _ _ ⟨rfl, rfl⟩ (Same.store hy) F' N')) hk hx
variable {R : Result → Shared → Prop} {body : List Stmt} {y : Str} {py : Pos} {I l : Addr}
/-- a turn of a loop over a list, the state known -/
theorem law_turnL {i n : Nat} {d : Option Addr} {sl : Array (Option Value)} {vs : Array Value} {v : Value} (S : LawSt w g L Γ row told cuts cnt kd ((I, iterG l i d sl) :: its) s m) (hl : (l, listOf vs n) ∈ its) (hv : vs.toList[i]? = some v) (hy : lawNames.contains y = false) (hk : (lawScope w.params).kind = .function) (hx : (lawEnv w.params L).kindOf y = some .local)
    (h : ∀ s' d' sl', LawSt w g L Γ row told cuts cnt kd ((I, iterG l (i + 1) d' sl') :: its) s' (fun z => if z = y then some v else m z) → wpAny (lawM w) (lawA w.params L) (execs body (lawEnv w.params L)) (fun f s₃ => match f with
            | .next | .cont => codeAny (lawM w) (lawA w.params L) (.forLoop (.Name y py) (.ref I) body [] (lawEnv w.params L)) R s₃
            | .brk => R (.ok .next) s₃
            | .ret v => R (.ok (.ret v)) s₃) (notedBy (lawM w) (lawA w.params L) (lawEnv w.params L) fun e s' => R (.error e) s') s') :
    codeAny (lawM w) (lawA w.params L) (.forLoop (.Name y py) (.ref I) body [] (lawEnv w.params L)) R s := by
  obtain ⟨rest, F, N, hne, hs, k, -⟩ := S.head
  refine for_turnN F N (.tail _ (hs _ hl)) hv (.head hne) goName fun h' d' sl' F' N' => ?_
  exact law_store (k _ _ ⟨rfl, rfl⟩ F' N' fun vs => objNe (by rfl)) hy hk hx fun s' S' => h s' d' sl' S'
theorem law_endL {i n : Nat} {d : Option Addr} {sl : Array (Option Value)} {vs : Array Value} {t : PySem.Expr} (S : LawSt w g L Γ row told cuts cnt kd ((I, iterG l i d sl) :: its) s m) (hl : (l, listOf vs n) ∈ its) (hv : vs.toList[i]? = none)
    (h : ∀ s', LawSt w g L Γ row told cuts cnt kd its s' m → R (.ok .next) s') : codeAny (lawM w) (lawA w.params L) (.forLoop t (.ref I) body [] (lawEnv w.params L)) R s := by
  obtain ⟨rest, F, N, hne, hs, -, k⟩ := S.head
  exact for_endN F N (.tail _ (hs _ hl)) (.head _) hv rfl (.head hne) fun h' F' N' => h _ (k _ ⟨rfl, rfl⟩ F' N')
/-- a turn of a loop over a range, the state known -/
theorem law_turnR {x left : Int} (S : LawSt w g L Γ row told cuts cnt kd ((I, rangeG x left) :: its) s m) (hl : 0 < left) (hy : lawNames.contains y = false) (hk : (lawScope w.params).kind = .function) (hx : (lawEnv w.params L).kindOf y = some .local)
    (h : ∀ s' t, LawSt w g L Γ row told cuts cnt kd ((I, rangeG (x + 1) (left - 1)) :: its) s' (fun z => if z = y then some (.int x t) else m z) → wpAny (lawM w) (lawA w.params L) (execs body (lawEnv w.params L)) (fun f s₃ => match f with
            | .next | .cont => codeAny (lawM w) (lawA w.params L) (.forLoop (.Name y py) (.ref I) body [] (lawEnv w.params L)) R s₃
            | .brk => R (.ok .next) s₃
            | .ret v => R (.ok (.ret v)) s₃) (notedBy (lawM w) (lawA w.params L) (lawEnv w.params L) fun e s' => R (.error e) s') s') :
    codeAny (lawM w) (lawA w.params L) (.forLoop (.Name y py) (.ref I) body [] (lawEnv w.params L)) R s := by
  obtain ⟨rest, F, N, hne, hs, k, -⟩ := S.head
  refine for_turnR F N (.head hne) hl fun h' F' N' => ?_
  exact law_store (k _ _ ⟨rfl, rfl⟩ F' N' fun vs => objNe (by rfl)) hy hk hx fun s' S' => h s' _ S'
theorem law_endR {x left : Int} {t : PySem.Expr} (S : LawSt w g L Γ row told cuts cnt kd ((I, rangeG x left) :: its) s m) (hl : left ≤ 0)
    (h : ∀ s', LawSt w g L Γ row told cuts cnt kd its s' m → R (.ok .next) s') : codeAny (lawM w) (lawA w.params L) (.forLoop t (.ref I) body [] (lawEnv w.params L)) R s := by
  obtain ⟨rest, F, N, hne, hs, -, k⟩ := S.head
  exact for_endR F N (.head _) hl rfl (.head hne) fun h' F' N' => h _ (k _ ⟨rfl, rfl⟩ F' N')
end
/-- whatever the deeds: place, number, face and first face -/
noncomputable def Par (Γ : Cst) (x : Six Ent) (c : Int) : Prop := (x.a.1 + x.a.2 + Γ.ff x.a.1.toNat) % 2 = c % 2 ∧ (1 + x.b.1 + x.b.2 + Γ.ff x.b.1.toNat) % 2 = c % 2 ∧ (2 + x.c.1 + x.c.2 + Γ.ff x.c.1.toNat) % 2 = c % 2 ∧ (3 + x.d.1 + x.d.2 + Γ.ff x.d.1.toNat) % 2 = c % 2 ∧ (4 + x.e.1 + x.e.2 + Γ.ff x.e.1.toNat) % 2 = c % 2 ∧ (5 + x.f.1 + x.f.2 + Γ.ff x.f.1.toNat) % 2 = c % 2
theorem par_gen {a b a' b' : Int} (k : Int) (h : a % 2 = b % 2) (e : a' + b = a + b' + 2 * k) : a' % 2 = b' % 2 := by omega
theorem par_on {k k' p q r c : Int} (hk : k = k' + 1) (h : (k + p + q + r) % 2 = c % 2) : (k' + p + q + r) % 2 = (c + 1) % 2 := par_gen (-1) h (by omega)
theorem par_zero {p q r c : Int} (h : (1 + p + q + r) % 2 = c % 2) : (p + q + r) % 2 = (c + 1) % 2 := par_gen (-1) h (by omega)
theorem par_last {p q r c : Int} (h : (p + q + r) % 2 = c % 2) : (5 + p + q + r) % 2 = (c + 1) % 2 := par_gen (2) h (by omega)
theorem par_two {k k' p q r c : Int} (hk : k = k' + 2) (h : (k + p + q + r) % 2 = c % 2) : (k' + p + q + r) % 2 = c % 2 := par_gen (-1) h (by omega)
theorem par_two0 {p q r c : Int} (h : (2 + p + q + r) % 2 = c % 2) : (p + q + r) % 2 = c % 2 := par_gen (-1) h (by omega)
theorem par_over4 {p q r c : Int} (h : (1 + p + q + r) % 2 = c % 2) : (4 + p + (1 - q) + r) % 2 = c % 2 := par_gen (2 - q) h (by omega)
theorem par_over5 {p q r c : Int} (h : (p + q + r) % 2 = c % 2) : (5 + p + (1 - q) + r) % 2 = c % 2 := par_gen (3 - q) h (by omega)
theorem Par.cut {Γ : Cst} {x : Six Ent} {c : Int} (h : Par Γ x c) : Par Γ (cutR x) (c + 1) :=
  ⟨par_zero h.2.1, par_on rfl h.2.2.1, par_on rfl h.2.2.2.1, par_on rfl h.2.2.2.2.1, par_on rfl h.2.2.2.2.2, par_last h.1⟩
theorem Par.turn {Γ : Cst} {x : Six Ent} {c : Int} (h : Par Γ x c) : Par Γ (turnR x) c :=
  ⟨par_two0 h.2.2.1, par_two rfl h.2.2.2.1, par_two rfl h.2.2.2.2.1, par_two rfl h.2.2.2.2.2, par_over4 h.2.1, par_over5 h.1⟩
noncomputable def FigOk (fv : List Value) : Prop := fv.length = 8 ∧ ∀ i, i < 8 → ∃ z t, fv[i]? = some (.int z t) ∧ (z = 0 ∨ z = 1)
theorem figLoop {w : World} {g : Heap} {L : Addr} {Γ : Cst} {mean : ExcName → Option Value} {mg mb : Str → Option Value} {R : Result → Shared → Prop} {I l : Addr} {fv : List Value} {n : Nat} {py : Pos}
    (X : (hd.heap_1 w.params).In g) (T : Top View Loose mean mg mb g) (ok : CstOk Γ) (fo : FigOk fv)
    (hend : ∀ s' m' row' cuts' (cnt' : Nat), RowOk row' → Par Γ row' cuts' → (cnt' : Int) + cuts' = 16 → 0 ≤ cuts' → cuts' ≤ 8 → LawSt w g L Γ row' row' cuts' cnt' none [(l, listOf fv.toArray n)] s' m' → R (.ok .next) s') :
    ∀ (k i : Nat) (row : Six Ent) (cuts : Int) (cnt : Nat) (d : Option Addr) (sl : Array (Option Value)) (s : Shared) (m : Str → Option Value), i + k = 8 → RowOk row → Par Γ row cuts → (cnt : Int) + cuts = 2 * i → 0 ≤ cuts → cuts ≤ i →
      LawSt w g L Γ row row cuts cnt none [(I, iterG l i d sl), (l, listOf fv.toArray n)] s m →
      codeAny (lawM w) (lawA w.params L) (.forLoop (.Name (Str.ofString "figure") py) (.ref I) [figS w.params 0, figS w.params 1, figS w.params 2] [] (lawEnv w.params L)) R s
  | 0, i, row, cuts, cnt, d, sl, s, m, hi, ro, pr, hc, c0, c1, S => law_endL S (.head _) (by simp [fo.1]; omega) fun s' S' => hend s' m row cuts cnt ro pr (by omega) c0 (by omega) S'
  | k + 1, i, row, cuts, cnt, d, sl, s, m, hi, ro, pr, hc, c0, c1, S => by
    obtain ⟨z, t, hz, h01⟩ := fo.2 i (by omega)
    have oa : EntOk row.a := ro.1 _ List.mem_cons_self
    have o1 : 0 ≤ row.a.1 := oa.1
    have o2 : row.a.1 < 6 := oa.2.1
    have hp := ok.pf row.a.1.toNat (by have := oa.1; have := oa.2.1; omega)
    have hz' : fv.toArray.toList[i]? = some (.int z t) := by simpa using hz
    have y1 : lawNames.contains (Str.ofString "figure") = false := by decide
    have y2 : (lawScope w.params).kind = .function := rfl
    have y3 : (lawEnv w.params L).kindOf (Str.ofString "figure") = some .local := rfl
    with_reducible refine law_turnL S List.mem_cons_self hz' y1 y2 y3 ?_
    intro s1 d1 sl1 S1
    with_reducible refine toldStep X T ok ro S1 (if_pos rfl) h01 ?_
    intro s2 m2 t2 e2 e3 tp S2
    have fm : ∀ a : Int, a.fmod 2 = a % 2 := fun a => Int.fmod_eq_emod_of_nonneg a (by decide)
    rcases Decidable.em ((Γ.pf row.a.1.toNat + z) % 2 = 0) with hev | hev
    · have hv : (Γ.pf row.a.1.toNat + z).fmod 2 = 0 := by rw [fm]; exact hev
      have b1 : 0 ≤ Γ.pf row.a.1.toNat + z := by omega
      have b2 : Γ.pf row.a.1.toNat + z ≤ 6 := by omega
      have b3 : cnt ≤ 90 := by omega
      with_reducible refine deedCut X T ok ro S2 e2 b1 b2 hev tp b3 ?_
      intro s3 S3
      with_reducible refine rowStep X T S3 e3 o1 o2 ?_ ?_
      · intro s4 m4 _ S4
        exact wpAny_execs_nil (figLoop X T ok fo hend k (i + 1) _ _ _ _ _ _ _ (by omega) ro.cut pr.cut (by omega) (by omega) (by omega) S4)
      · exact fun s4 m4 hn _ => absurd hv hn
    · have hv : ¬ (Γ.pf row.a.1.toNat + z).fmod 2 = 0 := by rw [fm]; exact hev
      have b1 : 0 ≤ Γ.pf row.a.1.toNat + z := by omega
      have b2 : Γ.pf row.a.1.toNat + z ≤ 6 := by omega
      have b3 : cnt ≤ 90 := by omega
      with_reducible refine deedTurn X T ok ro S2 e2 b1 b2 hev tp b3 ?_
      intro s3 S3
      with_reducible refine rowStep X T S3 e3 o1 o2 ?_ ?_
      · exact fun s4 m4 hn _ => absurd hn hv
      · intro s4 m4 _ S4
        exact wpAny_execs_nil (figLoop X T ok fo hend k (i + 1) _ _ _ _ _ _ _ (by omega) ro.turn pr.turn (by omega) (by omega) (by omega) S4)
/-- a row's cards, told plainly -/
noncomputable def pairOf (Γ : Cst) (e : Ent) : Str × Str := (nm e.1 e.2, replyS Γ.mark (Γ.pf e.1.toNat))
noncomputable def xOf (Γ : Cst) (x : Six Ent) : Six (Str × Str) := ⟨pairOf Γ x.a, pairOf Γ x.b, pairOf Γ x.c, pairOf Γ x.d, pairOf Γ x.e, pairOf Γ x.f⟩
theorem Match.obj {Γ : Cst} {c : Card} {e : Ent} (h : Match Γ c e) : cardO c = (c.t, tupOf [.str (pairOf Γ e).1 c.a, .str (pairOf Γ e).2 c.b]) := by
  show (c.t, tupOf [.str c.k c.a, .str c.v c.b]) = _
  rw [h.1, h.2]; rfl
theorem Matches.pairs {Γ : Cst} {cs : Six Card} {row : Six Ent} {kl : Led} (M : Matches Γ cs row) (h : ∀ p ∈ [cardO cs.a, cardO cs.b, cardO cs.c, cardO cs.d, cardO cs.e, cardO cs.f], p ∈ kl) : PairT kl ⟨cs.a.t, cs.b.t, cs.c.t, cs.d.t, cs.e.t, cs.f.t⟩ (xOf Γ row) := by
  simp only [List.forall_mem_cons, List.not_mem_nil, false_implies, implies_true, and_true] at h
  obtain ⟨h1, h2, h3, h4, h5, h6⟩ := h
  rw [M.a.obj] at h1
  rw [M.b.obj] at h2
  rw [M.c.obj] at h3
  rw [M.d.obj] at h4
  rw [M.e.obj] at h5
  rw [M.f.obj] at h6
  exact ⟨⟨_, _, h1⟩, ⟨_, _, h2⟩, ⟨_, _, h3⟩, ⟨_, _, h4⟩, ⟨_, _, h5⟩, ⟨_, _, h6⟩⟩
theorem deckCards {P : Params} {D dd Lh : Addr} {tk : Tok} {n : Nat} {cs : Six Card} {tl kl : Led} (e : tl = deckC P D dd Lh tk n cs.list ++ kl) : ∀ p ∈ [cardO cs.a, cardO cs.b, cardO cs.c, cardO cs.d, cardO cs.e, cardO cs.f], p ∈ tl := fun p hp => by
  rw [e]; exact List.mem_append_left _ (List.mem_append_right _ hp)
theorem keptS {w : World} {g : Heap} {L : Addr} {Γ : Cst} {row told : Six Ent} {cuts : Int} {cnt : Nat} {its : Led} {s : Shared} {m : Str → Option Value} {mean : ExcName → Option Value} {mg mb : Str → Option Value} {rest : List Stmt} {Q : Flow → Shared → Prop} {E : Value → Shared → Prop}
    (X : (hd.heap_1 w.params).In g) (T : Top View Loose mean mg mb g) (S : LawSt w g L Γ row told cuts cnt none its s m)
    (h : ∀ s' m' lk, LawSt w g L Γ row told cuts cnt (some ⟨lk, xOf Γ row, none, none⟩) its s' m' → wpAny (lawM w) (lawA w.params L) (execs rest (lawEnv w.params L)) Q E s') :
    wpAny (lawM w) (lawA w.params L) (execs (stmtAt w.params 16 :: rest) (lawEnv w.params L)) Q E s := by
  obtain ⟨kl, n, ng, gv, cs, lr, F, N, off, K, hgv, M, R, fx, lc, kdh, io, gs⟩ := S.ex
  clear S
  obtain ⟨e1, e2, e3, e4, ⟨tc, e5⟩, ⟨tt, e6⟩, ⟨tf, e7⟩, ⟨to, e8⟩⟩ := lc
  obtain ⟨tl, htl⟩ : ∃ tl, tl = deckC w.params Γ.D Γ.dd Γ.Lh Γ.tk n cs.list ++ (its ++ kl) := ⟨_, rfl⟩
  rw [← htl] at N off
  have B : Below (Lv 301 []) g [] g := ⟨rfl, fun _ _ e => e, trivial⟩
  have hsc : lawScope w.params = ⟨_, _, _, _, _⟩ := rfl
  show wpAny _ _ (execs (Stmt.Assign _ _ _ :: _) _) _ _ _
  dsimp only [lawEnv, lawA, lawM]
  rw [hsc]
  clear hsc
  k_steps
  all_goals (try dsimp only)
  all_goals k_extra "my facts"
  all_goals (try dsimp only at *)
  rename_i lk tl2 htl2 nr K2 no nx h2 F2 N2
  have mc := deckCards htl2
  refine' h _ _ lk (LawSt.make2 (nw := (lk, listOf (refs ⟨cs.a.t, cs.b.t, cs.c.t, cs.d.t, cs.e.t, cs.f.t⟩) 0) :: [cardO cs.a, cardO cs.b, cardO cs.c, cardO cs.d, cardO cs.e, cardO cs.f]) htl2 K2 no hgv M fx io gs F2 ?ylc N2 ?yha ?yhn ?yhb ?yho ?yhk ?yR ?ykd)
  case ylc => k_extra "my locs"
  case yha => exact .tail _ (.head _)
  case yhn => exact List.forall_mem_cons.mpr ⟨.head _, fun p hp => .tail _ (.tail _ (mc p hp))⟩
  case yhb => exact fun p hp => .tail _ (.tail _ hp)
  case yho => exact List.forall_mem_cons.mpr ⟨nx, fun p hp => no p (mc p hp)⟩
  case yhk =>
    refine List.forall_mem_cons.mpr ⟨.inr nr, fun p hp => .inl ?_⟩
    simp only [List.mem_cons, List.not_mem_nil, or_false] at hp
    rcases hp with rfl | rfl | rfl | rfl | rfl | rfl <;> exact ⟨_, rfl⟩
  case yR => exact R.mono fun p hp => List.mem_append_right _ hp
  case ykd => exact ⟨by k_extra "my look", ⟨_, _, List.mem_append_left _ (.head _), M.pairs fun p hp => List.mem_append_left _ (.tail _ hp)⟩, (fun _ e => nomatch e), fun _ _ _ e => nomatch e⟩
/-- behind the store that ends a comprehension: its variables go -/
noncomputable def UsePost (Q : Value → Shared → Prop) (C : Addr) : Unit → Shared → Prop := fun _ s' => ∃ m, s'.heap.Ns C m ∧ ∀ h', Heap.SameBut C s'.heap h' → Q .none { s' with heap := h' }
noncomputable def NsAt (C : Addr) (o : Obj) (m : Str → Option Value) : Prop := ∀ h : Heap, h.get? C = some o → h.Ns C m
section
variable {prog : Program} {w : World} {A : Around} {E : Value → Shared → Prop} {s : Shared} {h₀ : Heap} {L : Addr} {m : Str → Option Value} {news : Led}
/-- what a comprehension's loop owes at its end, its list stored at once -/
noncomputable def CompU (prog : Program) (w : World) (A : Around) (E : Value → Shared → Prop) (h₀ : Heap) (L : Addr) (m : Str → Option Value) (g : Heap) (C : Addr) (u : Value → Sem Unit) (Q : Value → Shared → Prop) (acc : Value) : Result → Shared → Prop := fun r s' => match r with
  | .ok _ => ∃ g' m' news', KtsTurn [L] g g' ∧ Fr g' C s'.heap m' ∧ News g' C s'.heap news' ∧ ∀ oC, NsAt C oC m' → Fr h₀ L s'.heap m → News h₀ L s'.heap ((C, oC) :: news') → wpAny (model prog w) A (u acc) (UsePost Q C) E s'
  | .error x => compPost (model prog w) A E (some u) Q acc C (.error x) s'
theorem compU_end {g g' : Heap} {C : Addr} {u : Value → Sem Unit} {Q : Value → Shared → Prop} {acc : Value} {m' : Str → Option Value} {news' : Led} {f : Flow} {s' : Shared} (F : Fr g' C s'.heap m') (N : News g' C s'.heap news') (T : KtsTurn [L] g g')
    (h : ∀ oC, NsAt C oC m' → Fr h₀ L s'.heap m → News h₀ L s'.heap ((C, oC) :: news') → wpAny (model prog w) A (u acc) (UsePost Q C) E s') : CompU prog w A E h₀ L m g C u Q acc (.ok f) s' := ⟨g', m', news', T, F, N, h⟩
theorem usePost_end {C : Addr} {oC : Obj} {m' : Str → Option Value} {Q : Value → Shared → Prop} (F : Fr h₀ L s.heap m) (N : News h₀ L s.heap ((C, oC) :: news)) (n : NsAt C oC m') (hd : ∀ p ∈ news, p.1 ≠ C)
    (h : ∀ h', Fr h₀ L h' m → News h₀ L h' news → Q .none { s with heap := h' }) : UsePost Q C () s := by
  have hC := N _ (.head _)
  refine ⟨m', n _ hC.1, fun h' hs => h h' ?_ fun p hp => ?_⟩
  · refine ⟨F.ns.sameBut hs (Ne.symm hC.2.1), fun b o e => (hs.2 b fun q => ?_).trans (F.keep b o e), F.above⟩
    have := hC.2.2
    rw [← q, e] at this; cases this
  · have := N p (.tail _ hp)
    exact ⟨(hs.2 _ (hd p hp)).trans this.1, this.2⟩
theorem compEnvU {A₀ : Around} {base : Heap} {outer : List Env} {env : Env} {elt target iter : PySem.Expr} {ifs : List PySem.Expr} {scope : Scope} {pos : Pos} {cl : List (Str × Addr)} {I : Addr} {oI : Obj} {acc : Value} {u : Value → Sem Unit} {Q : Value → Shared → Prop}
    (B : Below A₀ base outer h₀) (F : Fr h₀ L s.heap m) (N : News h₀ L s.heap news) (hm : (I, oI) ∈ news) (hA : A.frames = some (env :: outer)) (hf : env.frame = some L) (hke : env.scope.kind = .function)
    (hcell : ∀ y ∈ scope.names, y.2 ≠ .cell) (hk : scope.kind = .function)
    (hpi : ∀ {A : Around} {E : Value → Shared → Prop} {s : Shared} {Q : Value → Shared → Prop}, s.heap.get? I = some oI → Q (.ref I) s → wpAny (model prog w) A (pyIter (.ref I)) Q E s)
    (h : ∀ g C h' tk, Fr g C h' (fun _ => none) → News g C h' news → (∀ p ∈ news, p.1 < C) → h₀.StaysIn g → Below A base (env :: outer) g →
      codeAny (model prog w) A (.compLoop (.ListComp elt [⟨target, iter, ifs, 0⟩] scope pos) 0 (.ref I) acc (compEnvC scope cl C env)) (CompU prog w A E h₀ L m g C u Q acc) { s with heap := h', toks := tk }) :
    wpAny (model prog w) A (newFunctionEnv scope env.globals cl [] env.qual none .none (some env)) (fun cenv s₄ =>
      codeAny (model prog w) A (.compStart (.ListComp elt [⟨target, iter, ifs, 0⟩] scope pos) 0 (.ref I) acc { cenv with scope := relabel scope env }) (compPost (model prog w) A E (some u) Q acc cenv.locals) s₄) E s := by
  obtain ⟨FG, BG, st, _⟩ := groundX (R := fun _ _ => True) B F N hA hf hke
  have hsz : (hideAll s.heap (news.map (·.1))).objs.size = s.heap.objs.size := hideAll_size _ _
  have hkp : ∀ b o, (hideAll s.heap (news.map (·.1))).get? b = some o → s.heap.get? b = some o := fun b o e => of_hideAll _ e
  have hn : ∀ p ∈ news, (hideAll s.heap (news.map (·.1))).get? p.1 = none := fun p hp => hideAll_none _ (List.mem_map_of_mem hp)
  generalize hideAll s.heap (news.map (·.1)) = g at FG BG st hsz hkp hn
  refine wpAny_newFunctionEnv hcell (by intro y hy; simp at hy) (fun h₁ hns₁ hsb₁ => ?_) hk
  have old : ∀ b o, s.heap.get? b = some o → h₁.get? b = some o := fun b o e => hsb₁.extBut b o (Nat.ne_of_lt (Heap.lt_size e)) (Heap.get?_push_of_some _ e)
  have F₁ : Fr g s.heap.objs.size h₁ (fun _ => none) := ⟨hns₁, fun b o e => old b o (hkp b o e), Nat.le_of_eq hsz⟩
  have N₁ : News g s.heap.objs.size h₁ news := fun p hp => ⟨old _ _ (N p hp).1, Nat.ne_of_lt (Heap.lt_size (N p hp).1), hn p hp⟩
  have lp := h g s.heap.objs.size h₁ (s.toks + ([] : List (Str × Value)).length) F₁ N₁ (fun p hp => Heap.lt_size (N p hp).1) st BG
  have hpost : ∀ r s', CompU prog w A E h₀ L m g s.heap.objs.size u Q acc r s' → compPost (model prog w) A E (some u) Q acc s.heap.objs.size r s' := fun r s' hr => by
    cases r with
    | error x => exact hr
    | ok f =>
      obtain ⟨g', m', news', T', F', N', k⟩ := hr
      have hL0 : h₀.get? L = none := by
        cases q : h₀.get? L with
        | none => rfl
        | some o => exact absurd (Nat.lt_of_lt_of_le (Heap.lt_size q) F.above) (Nat.lt_irrefl _)
      have st' : ∀ b o, h₀.get? b = some o → g'.get? b = some o := fun b o e => T'.other b o (st b o e) fun q => by
        rw [List.mem_singleton.mp q, hL0] at e; cases e
      obtain ⟨oL, es, ep, hL, hLd, hLk, hLf⟩ := FG.ns
      obtain ⟨sl, hL'⟩ := T'.up hL
      obtain ⟨oC, esC, epC, hC, hCd, hCk, hCf⟩ := F'.ns
      have gC : g'.get? s.heap.objs.size = none := by
        cases q : g'.get? s.heap.objs.size with
        | none => rfl
        | some o => exact absurd (Nat.lt_of_lt_of_le (Heap.lt_size q) F'.above) (Nat.lt_irrefl _)
      refine k oC (fun h' e => ⟨oC, esC, epC, e, hCd, hCk, hCf⟩) ⟨⟨_, es, ep, F'.keep _ _ hL', hLd, hLk, hLf⟩, fun b o e => F'.keep b o (st' b o e), F.above⟩ fun p hp => ?_
      rcases List.mem_cons.mp hp with rfl | hp
      · refine ⟨hC, fun q => ?_, ?_⟩
        · have q' : s.heap.objs.size = L := q
          rw [q', hL'] at gC; cases gC
        · cases q : h₀.get? s.heap.objs.size with
          | none => rfl
          | some o => rw [st' _ _ q] at gC; cases gC
      · refine ⟨(N' p hp).1, fun q => ?_, ?_⟩
        · have := (N' p hp).2.2; rw [q, hL'] at this; cases this
        · cases q : h₀.get? p.1 with
          | none => rfl
          | some o => have := (N' p hp).2.2; rw [st' _ _ q] at this; cases this
  have lp' := codeAny_mono lp hpost
  exact codeAny_compStart_list lp' (hpi (N₁ _ hm).1 lp')
theorem listAssignN {env : Env} {elt target iter : PySem.Expr} {ifs : List PySem.Expr} {scope : Scope} {pos spos py : Pos} {y : Str} {cl : List (Str × Addr)} {Q : Flow → Shared → Prop} (hsw : swapsWith (.ListComp elt [⟨target, iter, ifs, 0⟩] scope pos) (some (.Name y py)) spos.line env = pure true) (hclos : closureFor scope env = pure cl) (hkind : scope.kind = .function)
    (hnames : (scope.names.all fun x => x.2 != .local || scope.names.lookup x.1 == some .local) = true) (hs : ∀ x, foldedSetIterable iter env x = pure x)
    (h : wpAny (model prog w) A (eval iter env) (fun x s₁ => wpAny (model prog w) A (pyIter x) (fun it s₂ => wpAny (model prog w) A (newList []) (fun acc s₃ =>
      wpAny (model prog w) A (newFunctionEnv scope env.globals cl [] env.qual none .none (some env)) (fun cenv s₄ =>
        codeAny (model prog w) A (.compStart (.ListComp elt [⟨target, iter, ifs, 0⟩] scope pos) 0 it acc { cenv with scope := relabel scope env }) (compPost (model prog w) A E (some (assign (.Name y py) env)) (fun _ s' => Q .next s') acc cenv.locals) s₄) E s₃) E s₂) E s₁) E s) :
    wpAny (model prog w) A (exec (.Assign [.Name y py] (.ListComp elt [⟨target, iter, ifs, 0⟩] scope pos) spos) env) Q E s := by
  rw [exec_Assign_Name_used _ _ _ _ hsw]
  refine wpAny_bind (wpAny_standAt (wpAny_bind ?_))
  show wpAny _ A (do let _ ← comprehension (.ListComp elt [⟨target, iter, ifs, 0⟩] scope pos) scope env _ (newList []) false (eval iter env) (some (assign (.Name y py) env))) _ _ s
  refine wpAny_bind (wpAny_mono (wpAny_comprehension_free (use := some (assign (.Name y py) env)) (Q := fun _ s' => Q .next s') rfl hs hclos hkind (fun x hx hl => ?_) h) (fun _ s' hq => wpAny_pure (wpAny_pure hq)) fun _ _ e => e)
  have := List.all_eq_true.mp hnames x hx
  rw [hl] at this
  simpa using this
end
local macro_rules | `(tactic| walk_at "exec Assign cons ListComp") => `(tactic| (k_dflt (apply listAssignN; with_unfolding_all rfl; with_unfolding_all rfl; exact rfl; exact rfl; (intro _; exact rfl); k_whole)))
local macro_rules | `(tactic| walk_at "newFunctionEnv") => `(tactic| (k_dflt (first | (apply compEnvG; k_extra "pi") | (apply compEnvU; k_extra "pi")); k_extra "zc"))
local macro_rules | `(tactic| walk_at "CompU") => `(tactic| (k_dflt (apply compU_end; k_extra "FN"; (first | k_extra "q" | exact KtsTurn.refl); k_whole); intros; (try dsimp only)))
local macro_rules | `(tactic| walk_at "UsePost") => `(tactic| (k_dflt (apply usePost_end; k_extra "FN"; k_extra "q"; k_all; k_whole); intros; (try dsimp only)))
/-- what a turn of a comprehension owes: x is the value -/
noncomputable def TurnEnd (C acc I : Addr) (ys : List Value) (k : Nat) (it : Obj) (base : Led) (gn : Array GenState) (os : OsState) (P : List Value → Led → Heap → Prop) (x : Value) (s : Shared) : Prop :=
  ∃ m' nw' gr', (s.gens = gn ∧ s.os = os) ∧ Fr gr' C s.heap m' ∧ News gr' C s.heap ((acc, listOf ys.toArray k) :: (I, it) :: (nw' ++ base)) ∧ (∀ p ∈ nw', p.1 ≠ acc ∧ p.1 ≠ I) ∧ P (ys ++ [x]) nw' gr'
section
variable {prog : Program} {w : World} {A : Around} {R : Result → Shared → Prop} {C I l : Addr} {acc : Addr} {base : Led} {target iter elt : PySem.Expr} {scope : Scope} {pos : Pos} {env : Env} {gn : Array GenState} {os : OsState}

/-- a comprehension over a list, turn by turn: i values done, ys the values, nw what they made, gr the ground -/
theorem compListG {vs : Array Value} {n : Nat} (P : Nat → List Value → Led → Heap → Prop) (hh : A.handled = none) (hg : ∀ (i : Nat) (v : Value), vs.toList[i]? = some v → GoOk target v) (hsz : vs.size ≤ 1000)
    (step : ∀ (i : Nat) (v : Value) ys nw gr s m d sl k (E' : Value → Shared → Prop), vs.toList[i]? = some v → P i ys nw gr → ys.length = i → (∀ p ∈ nw, p.1 ≠ acc ∧ p.1 ≠ I) → (s.gens = gn ∧ s.os = os) → Fr gr C s.heap m → News gr C s.heap ((acc, listOf ys.toArray k) :: (I, iterG l (i + 1) d sl) :: (nw ++ base)) →
      wpAny (model prog w) A (assign target env v) (fun _ s₂ => wpAny (model prog w) A (eval elt env) (fun x s₄ => TurnEnd C acc I ys k (iterG l (i + 1) d sl) base gn os (P (i + 1)) x s₄) E' s₂) E' s)
    (hl : (l, listOf vs n) ∈ base) (hb : ∀ p ∈ base, p.1 ≠ acc ∧ p.1 ≠ I) (hai : acc ≠ I)
    (hend : ∀ ys nw gr s m k, P vs.size ys nw gr → ys.length = vs.size → (s.gens = gn ∧ s.os = os) → Fr gr C s.heap m → News gr C s.heap ((acc, listOf ys.toArray k) :: (nw ++ base)) → R (.ok .next) s) :
    ∀ (j i : Nat) (ys : List Value) (nw : Led) (gr : Heap) (s : Shared) (m : Str → Option Value) (d : Option Addr) (sl : Array (Option Value)) (k : Nat), i + j = vs.size → P i ys nw gr → ys.length = i → (s.gens = gn ∧ s.os = os) → Fr gr C s.heap m → News gr C s.heap ((acc, listOf ys.toArray k) :: (I, iterG l i d sl) :: (nw ++ base)) → (∀ p ∈ nw, p.1 ≠ acc ∧ p.1 ≠ I) →
      codeAny (model prog w) A (.compLoop (.ListComp elt [⟨target, iter, [], 0⟩] scope pos) 0 (.ref I) (.ref acc) env) R s
  | 0, i, ys, nw, gr, s, m, d, sl, k, hi, hP, hy, gs, F, N, hn => by
    have hi' : i = vs.size := by omega
    subst hi'
    refine comp_endN (its := vs) F N (.tail _ (.tail _ (List.mem_append_right _ hl))) (.tail _ (.head _)) (by simp) hh (.tail hai (.head fun p hp => ?_)) fun h' F' N' => hend ys nw gr _ _ _ hP hy gs F' N'
    rcases List.mem_append.mp hp with hp | hp
    · exact (hn p hp).2
    · exact (hb p hp).2
  | j + 1, i, ys, nw, gr, s, m, d, sl, k, hi, hP, hy, gs, F, N, hn => by
    have hlt : i < vs.toList.length := by simp; omega
    have off : ∀ p ∈ nw ++ base, p.1 ≠ acc ∧ p.1 ≠ I := fun p hp => (List.mem_append.mp hp).elim (hn p) (hb p)
    refine comp_turnN (its := vs) (v := vs.toList[i]) F N (.tail _ (.tail _ (List.mem_append_right _ hl))) (by rw [List.getElem?_eq_getElem hlt]) (.tail hai (.head fun p hp => (off p hp).2)) (hg i _ (List.getElem?_eq_getElem hlt)) fun h' d' sl' F' N' => ?_
    refine wpAny_mono (step i _ ys nw gr _ m d' sl' k _ (List.getElem?_eq_getElem hlt) hP hy hn gs F' N') (fun _ s₂ h₂ => wpAny_mono h₂ (fun x s₄ h₄ => ?_) fun _ _ e => e) fun _ _ e => e
    obtain ⟨m', nw', gr', gs4, F4, N4, o4, hP4⟩ := h₄
    refine append_K F4 N4 (.head fun p hp => ?_) (fun h5 F5 N5 => ?_) (by rw [sizeLine_eq]; simp; omega)
    · rcases List.mem_cons.mp hp with rfl | hp
      · exact Ne.symm hai
      · exact ((List.mem_append.mp hp).elim (o4 p) (hb p)).1
    · rw [pushList] at N5
      exact compListG P hh hg hsz step hl hb hai hend j (i + 1) _ nw' gr' _ m' d' sl' _ (by omega) hP4 (by simp [hy]) gs4 F5 N5 o4
/-- the same over a range -/
theorem compRangeG {y : Str} {py : Pos} {n : Nat} (P : Nat → List Value → Led → Heap → Prop) (hh : A.handled = none) (hsz : n ≤ 1000)
    (step : ∀ (i : Nat) (t : Tok) ys nw gr s m k (E' : Value → Shared → Prop), i < n → P i ys nw gr → ys.length = i → (∀ p ∈ nw, p.1 ≠ acc ∧ p.1 ≠ I) → (s.gens = gn ∧ s.os = os) → Fr gr C s.heap m → News gr C s.heap ((acc, listOf ys.toArray k) :: (I, rangeG (i + 1 : Nat) (n - (i + 1 : Nat))) :: (nw ++ base)) →
      wpAny (model prog w) A (assign (.Name y py) env (.int i t)) (fun _ s₂ => wpAny (model prog w) A (eval elt env) (fun x s₄ => TurnEnd C acc I ys k (rangeG (i + 1 : Nat) (n - (i + 1 : Nat))) base gn os (P (i + 1)) x s₄) E' s₂) E' s)
    (hb : ∀ p ∈ base, p.1 ≠ acc ∧ p.1 ≠ I) (hai : acc ≠ I)
    (hend : ∀ ys nw gr s m k, P n ys nw gr → ys.length = n → (s.gens = gn ∧ s.os = os) → Fr gr C s.heap m → News gr C s.heap ((acc, listOf ys.toArray k) :: (nw ++ base)) → R (.ok .next) s) :
    ∀ (j i : Nat) (ys : List Value) (nw : Led) (gr : Heap) (s : Shared) (m : Str → Option Value) (k : Nat), i + j = n → P i ys nw gr → ys.length = i → (s.gens = gn ∧ s.os = os) → Fr gr C s.heap m → News gr C s.heap ((acc, listOf ys.toArray k) :: (I, rangeG (i : Nat) (n - (i : Nat))) :: (nw ++ base)) → (∀ p ∈ nw, p.1 ≠ acc ∧ p.1 ≠ I) →
      codeAny (model prog w) A (.compLoop (.ListComp elt [⟨.Name y py, iter, [], 0⟩] scope pos) 0 (.ref I) (.ref acc) env) R s
  | 0, i, ys, nw, gr, s, m, k, hi, hP, hy, gs, F, N, hn => by
    have hi' : i = n := by omega
    subst hi'
    refine comp_endR F N (.tail _ (.head _)) (by omega) hh (.tail hai (.head fun p hp => ?_)) fun h' F' N' => hend ys nw gr _ _ _ hP hy gs F' N'
    rcases List.mem_append.mp hp with hp | hp
    · exact (hn p hp).2
    · exact (hb p hp).2
  | j + 1, i, ys, nw, gr, s, m, k, hi, hP, hy, gs, F, N, hn => by
    have off : ∀ p ∈ nw ++ base, p.1 ≠ acc ∧ p.1 ≠ I := fun p hp => (List.mem_append.mp hp).elim (hn p) (hb p)
    refine comp_turnR F N (.tail hai (.head fun p hp => (off p hp).2)) (by omega) fun h' F' N' => ?_
    rw [show ((i : Nat) : Int) + 1 = ((i + 1 : Nat) : Int) from rfl, show (n : Int) - (i : Nat) - 1 = (n : Int) - (i + 1 : Nat) from by omega] at N'
    refine wpAny_mono (step i _ ys nw gr _ m k _ (by omega) hP hy hn gs F' N') (fun _ s₂ h₂ => wpAny_mono h₂ (fun x s₄ h₄ => ?_) fun _ _ e => e) fun _ _ e => e
    obtain ⟨m', nw', gr', gs4, F4, N4, o4, hP4⟩ := h₄
    refine append_K F4 N4 (.head fun p hp => ?_) (fun h5 F5 N5 => ?_) (by rw [sizeLine_eq]; simp; omega)
    · rcases List.mem_cons.mp hp with rfl | hp
      · exact Ne.symm hai
      · exact ((List.mem_append.mp hp).elim (o4 p) (hb p)).1
    · rw [pushList] at N5
      exact compRangeG P hh hsz step hb hai hend j (i + 1) _ nw' gr' _ m' _ (by omega) hP4 (by simp [hy]) gs4 F5 N5 o4
end
theorem newsTurn {h₀ h : Heap} {L : Addr} {a b c : Addr × Obj} {tl : Led} (N : News h₀ L h (c :: a :: b :: tl)) : News h₀ L h (a :: b :: (c :: tl)) := fun p hp => N p (by
  rcases List.mem_cons.mp hp with rfl | hp
  · exact .tail _ (.head _)
  rcases List.mem_cons.mp hp with rfl | hp
  · exact .tail _ (.tail _ (.head _))
  rcases List.mem_cons.mp hp with rfl | hp
  · exact .head _
  · exact .tail _ (.tail _ (.tail _ hp)))
theorem pairsAt {Γ : Cst} {kl : Led} {q : Six Addr} (h : PairT kl q ⟨(nm 0 (Γ.ff 0), replyS Γ.mark (Γ.pf 0)), (nm 1 (Γ.ff 1), replyS Γ.mark (Γ.pf 1)), (nm 2 (Γ.ff 2), replyS Γ.mark (Γ.pf 2)), (nm 3 (Γ.ff 3), replyS Γ.mark (Γ.pf 3)), (nm 4 (Γ.ff 4), replyS Γ.mark (Γ.pf 4)), (nm 5 (Γ.ff 5), replyS Γ.mark (Γ.pf 5))⟩) :
    ∀ k : Nat, k < 6 → ∃ a z t u, (refs q).toList[k]? = some (.ref a) ∧ (a, tupOf [.str z t, .str (replyS Γ.mark (Γ.pf k)) u]) ∈ kl := six_at (P := fun k => ∃ a z t u, (refs q).toList[k]? = some (.ref a) ∧ (a, tupOf [.str z t, .str (replyS Γ.mark (Γ.pf k)) u]) ∈ kl) (h.a.elim fun _ h => h.elim fun _ m => ⟨_, _, _, _, rfl, m⟩) (h.b.elim fun _ h => h.elim fun _ m => ⟨_, _, _, _, rfl, m⟩) (h.c.elim fun _ h => h.elim fun _ m => ⟨_, _, _, _, rfl, m⟩) (h.d.elim fun _ h => h.elim fun _ m => ⟨_, _, _, _, rfl, m⟩) (h.e.elim fun _ h => h.elim fun _ m => ⟨_, _, _, _, rfl, m⟩) (h.f.elim fun _ h => h.elim fun _ m => ⟨_, _, _, _, rfl, m⟩)
theorem itemQ {prog : Program} {w : World} {A : Around} {E : Value → Shared → Prop} {s : Shared} {h₀ : Heap} {L : Addr} {news kl : Led} {value slice : PySem.Expr} {l : Addr} {Γ : Cst} {q : Six Addr} {n0 : Nat} {k : Int} {u : Tok} {Q : Value → Shared → Prop} (N : News h₀ L s.heap news) (hm : (l, listOf (refs q) n0) ∈ news)
    (pa : ∀ k : Nat, k < 6 → ∃ a z t u, (refs q).toList[k]? = some (.ref a) ∧ (a, tupOf [.str z t, .str (replyS Γ.mark (Γ.pf k)) u]) ∈ kl) (h0 : 0 ≤ k) (h1 : k < 6)
    (h : ∀ a z t u, (a, tupOf [.str z t, .str (replyS Γ.mark (Γ.pf k.toNat)) u]) ∈ kl → Q (.ref a) s)
    (hs : subscripted slice false (.ref l) (.int k u) = operate [.ref l, .int k u] (getItem (.ref l) (.int k u)) := by with_unfolding_all rfl) :
    wpAny (model prog w) A (subscriptTail value slice (.ref l) (.int k u)) Q E s := by
  obtain ⟨a, z, t, v, hx, ha⟩ := pa k.toNat (by omega)
  have hl := News.isList N hm
  exact tail_any hl.typeIs slot_list_getitem.lookup (wpAny_getItem_list hl h0 (by omega) (x := .ref a) (by simpa using hx) (h a z t v ha)) hs
local macro_rules | `(tactic| walk_at "subscriptTail") => `(tactic| (with_reducible refine subN ?_; k_dflt (refine' itemQ ?N ?m ?p ?_ ?_ ?_ (by with_unfolding_all rfl); (case p => k_extra "q"); (case N => k_asm); (case m => k_mem); k_extra "om"; k_extra "om"); intros))
theorem Paired.snoc {kl : Led} {a : Addr} {x : Str × Str} {t u : Tok} (h : (a, tupOf [.str x.1 t, .str x.2 u]) ∈ kl) : ∀ {as : List Addr} {xs : List (Str × Str)}, Paired kl as xs → Paired kl (as ++ [a]) (xs ++ [x])
  | [], [], _ => ⟨⟨t, u, h⟩, trivial⟩
  | _ :: _, _ :: _, ⟨y, r⟩ => ⟨y, r.snoc h⟩
theorem rowAt {kl : Led} {r : Six Addr} {x : Six Ent} (h : RowT kl r x) {i : Nat} {v : Value} (hv : (refs r).toList[i]? = some v) : ∃ a t u e, v = .ref a ∧ (a, tupOf [.int (Prod.fst e) t, .int (Prod.snd e) u]) ∈ kl ∧ x.list[i]? = some e ∧ e ∈ x.list := by
  have hi : i < 6 := (List.getElem?_eq_some_iff.mp hv).1
  exact six_at (P := fun i => ∀ v, (refs r).toList[i]? = some v → ∃ a t u e, v = .ref a ∧ (a, tupOf [.int (Prod.fst e) t, .int (Prod.snd e) u]) ∈ kl ∧ x.list[i]? = some e ∧ e ∈ x.list)
    (fun _ hv => h.a.elim fun _ h => h.elim fun _ m => ⟨_, _, _, _, (Option.some.inj hv).symm, m, rfl, .head _⟩)
    (fun _ hv => h.b.elim fun _ h => h.elim fun _ m => ⟨_, _, _, _, (Option.some.inj hv).symm, m, rfl, .tail _ (.head _)⟩)
    (fun _ hv => h.c.elim fun _ h => h.elim fun _ m => ⟨_, _, _, _, (Option.some.inj hv).symm, m, rfl, .tail _ (.tail _ (.head _))⟩)
    (fun _ hv => h.d.elim fun _ h => h.elim fun _ m => ⟨_, _, _, _, (Option.some.inj hv).symm, m, rfl, .tail _ (.tail _ (.tail _ (.head _)))⟩)
    (fun _ hv => h.e.elim fun _ h => h.elim fun _ m => ⟨_, _, _, _, (Option.some.inj hv).symm, m, rfl, .tail _ (.tail _ (.tail _ (.tail _ (.head _))))⟩)
    (fun _ hv => h.f.elim fun _ h => h.elim fun _ m => ⟨_, _, _, _, (Option.some.inj hv).symm, m, rfl, .tail _ (.tail _ (.tail _ (.tail _ (.tail _ (.head _)))))⟩) i hi v hv
theorem Paired.six {kl : Led} : ∀ {as : List Addr} {x : Six (Str × Str)}, Paired kl as x.list → ∃ r : Six Addr, as = r.list ∧ PairT kl r x
  | [_, _, _, _, _, _], _, ⟨h0, h1, h2, h3, h4, h5, _⟩ => ⟨⟨_, _, _, _, _, _⟩, rfl, h0, h1, h2, h3, h4, h5⟩
  | [], _, h => h.elim
  | [_], _, h => h.2.elim
  | [_, _], _, h => h.2.2.elim
  | [_, _, _], _, h => h.2.2.2.elim
  | [_, _, _, _], _, h => h.2.2.2.2.elim
  | [_, _, _, _, _], _, h => h.2.2.2.2.2.elim
  | _ :: _ :: _ :: _ :: _ :: _ :: _ :: _, _, h => h.2.2.2.2.2.2.elim
noncomputable def DueP (Γ : Cst) (told : Six Ent) (gr₀ : Heap) : Nat → List Value → Led → Heap → Prop := fun i ys nw gr => gr = gr₀ ∧ ∃ as : List Addr, ys = as.map .ref ∧ Paired nw as ((xOf Γ told).list.take i) ∧ (∀ p ∈ nw, ∃ vs, p.2 = tupOf vs) ∧ ∀ p ∈ nw, Ap Γ.lg p.1
theorem dueS {w : World} {g : Heap} {L : Addr} {Γ : Cst} {row told : Six Ent} {cuts : Int} {cnt : Nat} {its : Led} {s : Shared} {m : Str → Option Value} {lk : Addr} {x : Six (Str × Str)} {mean : ExcName → Option Value} {mg mb : Str → Option Value} {rest : List Stmt} {Q : Flow → Shared → Prop} {E : Value → Shared → Prop}
    (X : (hd.heap_1 w.params).In g) (T : Top View Loose mean mg mb g) (ro : RowOk told) (ex : x = xOf Γ told) (S : LawSt w g L Γ row told cuts cnt (some ⟨lk, x, none, none⟩) its s m)
    (h : ∀ s' m' ld, LawSt w g L Γ row told cuts cnt (some ⟨lk, x, some ld, none⟩) its s' m' → wpAny (lawM w) (lawA w.params L) (execs rest (lawEnv w.params L)) Q E s') :
    wpAny (lawM w) (lawA w.params L) (execs (stmtAt w.params 17 :: rest) (lawEnv w.params L)) Q E s := by
  obtain ⟨kl, n, ng, gv, cs, lr, F, N, off, K, hgv, M, R, fx, lc, kdh, io, gs⟩ := S.ex
  clear S
  obtain ⟨e1, e2, e3, e4, ⟨tc, e5⟩, ⟨tt, e6⟩, ⟨tf, e7⟩, ⟨to, e8⟩⟩ := lc
  have R0 := R
  obtain ⟨r, nr, mr, hr⟩ := R
  obtain ⟨oq, moq, doq⟩ := fx.cpairs
  obtain ⟨q, nq, mq, hq⟩ := fx.pairs
  have pa := pairsAt hq
  obtain ⟨tl, htl⟩ : ∃ tl, tl = deckC w.params Γ.D Γ.dd Γ.Lh Γ.tk n cs.list ++ (its ++ kl) := ⟨_, rfl⟩
  rw [← htl] at N off
  have B : Below (Lv 301 []) g [] g := ⟨rfl, fun _ _ e => e, trivial⟩
  have hsc : lawScope w.params = ⟨_, _, _, _, _⟩ := rfl
  show wpAny _ _ (execs (Stmt.Assign _ _ _ :: _) _) _ _ _
  dsimp only [lawEnv, lawA, lawM]
  rw [hsc]
  clear hsc
  iterate 6 (first | walk1 | (dsimp only; walk1) | (k_unfold; (try dsimp only)))
  rename_i I h1 _ ltI acc h2 F2 N2 _ _ ltA gr C h3 tk3 F3 N3 st3 B3 X3 T3 _ _ _ ltC
  k_extra "my facts"
  have offA : OffD acc tl := OffD.ofLt (by assumption)
  have offI : OffD I tl := OffD.ofLt (by assumption)
  have apI : Ap Γ.lg I := Ap.of (by k_ne)
  have apA : Ap Γ.lg acc := Ap.of (by k_ne)
  have apAI : @Ne Nat acc I := by k_ne
  have apC : @LT.lt Nat _ Γ.lg C := by omega
  refine compListG (base := (Γ.lg, listOf gv ng) :: tl) (vs := refs r) (n := nr) (DueP Γ told gr) rfl (fun i v hv => ?yhg) (show 6 ≤ 1000 by decide) ?ystep ?yhl ?yhb ?yhai ?yhend 6 0 [] [] gr _ _ none #[] 0 rfl ⟨rfl, [], rfl, trivial, (fun _ h => nomatch h), fun _ h => nomatch h⟩ rfl gs F3 N3 (fun _ h => nomatch h)
  case yhg => obtain ⟨a, t, u, e, rfl, -⟩ := rowAt hr hv; exact goTuple
  case yhl => exact .tail _ (memI htl mr)
  case yhb => exact List.forall_mem_cons.mpr ⟨⟨apA, apI⟩, fun p hp => ⟨(offA p hp).ne', (offI p hp).ne'⟩⟩
  case yhai => exact apAI
  case ystep =>
    clear N2 N3 F2 F3 h
    intro i v ys nw gr' s m' d sl k E' hv hP hy hn gs1 F N
    obtain ⟨a, t, u, e, rfl, ha, he, hm⟩ := rowAt hr hv
    obtain ⟨rfl, as, rfl, hpd, htu, hlg⟩ := hP
    obtain ⟨o1, o2, o3⟩ := ro.1 e hm
    have o4 : 0 ≤ e.2 ∧ e.2 ≤ 1 := by omega
    clear o3
    obtain ⟨tl2, e2⟩ : ∃ tl2, tl2 = nw ++ (Γ.lg, listOf gv ng) :: tl := ⟨_, rfl⟩
    have mono : ∀ p ∈ kl, p ∈ tl2 := fun p hp => by rw [e2]; exact List.mem_append_right _ (.tail _ (memI htl hp))
    have ha := mono _ ha
    have moq := mono _ moq
    have mq := mono _ mq
    have pa : ∀ k : Nat, k < 6 → ∃ a z t u, (refs q).toList[k]? = some (.ref a) ∧ (a, tupOf [.str z t, .str (replyS Γ.mark (Γ.pf k)) u]) ∈ tl2 := fun k hk => let ⟨a, z, t, u, h1, h2⟩ := pa k hk; ⟨a, z, t, u, h1, mono _ h2⟩
    rw [← e2] at N
    (try dsimp only)
    k_steps
    all_goals (try dsimp only)
    all_goals (try k_data)
    k_extra "my facts"
    rename_i D9 h9 F9 N9 _ _ lt9
    rw [e2] at N9 lt9
    have off9 := OffD.ofLt lt9
    refine ⟨_, (D9, _) :: nw, _, gs1, F9, newsTurn N9, List.forall_mem_cons.mpr ⟨⟨Ne.symm (Nat.ne_of_lt (by assumption)), Ne.symm (Nat.ne_of_lt (by assumption))⟩, hn⟩, rfl, as ++ [D9], by simp, ?_, List.forall_mem_cons.mpr ⟨⟨_, rfl⟩, htu⟩, List.forall_mem_cons.mpr ⟨(off9 _ (List.mem_append_right _ (.head _))).symm, hlg⟩⟩
    have hx : (xOf Γ told).list[i]? = some (pairOf Γ e) := by
      show (told.list.map (pairOf Γ))[i]? = _
      rw [List.getElem?_map, he]; rfl
    rw [List.take_add_one, hx]
    show Paired _ _ (_ ++ [pairOf Γ e])
    exact Paired.snoc (x := pairOf Γ e) (.head _) (hpd.mono fun _ hp => .tail _ hp)
  case yhend =>
    clear N2 N3 F2 F3
    intro ys nw gr' s m' k hP hy gs1 F N
    obtain ⟨rfl, as, rfl, hpd, htu, hlg⟩ := hP
    obtain ⟨rr, rfl, hpt⟩ := Paired.six hpd
    obtain ⟨tl2, e2⟩ : ∃ tl2, tl2 = nw ++ (Γ.lg, listOf gv ng) :: tl := ⟨_, rfl⟩
    rw [← e2] at N
    have offC : OffD C tl2 := fun q hq => Ne.symm (N _ (.tail _ hq)).2.1
    (try dsimp only)
    k_steps
    all_goals (try dsimp only)
    all_goals (try k_data)
    rename_i h9 F9 N9
    rw [e2] at N9
    have N9 : News g L h9 ((acc, listOf (refs rr) k) :: (nw ++ (Γ.lg, listOf gv ng) :: tl)) := N9
    refine' h _ _ acc (LawSt.make2 (nw := (acc, listOf (refs rr) k) :: nw) htl K off hgv M fx io gs1 F9 ?ylc N9 ?yha ?yhn ?yhb ?yho ?yhk ?yR ?ykd)
    case ylc => k_extra "my locs"
    case yha => exact .tail _ (List.mem_append_right _ (.head _))
    case yhn => exact List.forall_mem_cons.mpr ⟨.head _, fun p hp => .tail _ (List.mem_append_left _ hp)⟩
    case yhb => exact fun p hp => .tail _ (List.mem_append_right _ (.tail _ hp))
    case yho => exact List.forall_mem_cons.mpr ⟨apA, hlg⟩
    case yhk => exact List.forall_mem_cons.mpr ⟨.inr offA, fun p hp => .inl (htu p hp)⟩
    case yR => exact R0.mono fun p hp => List.mem_append_right _ hp
    case ykd =>
      have kd' : KdI m kl ⟨lk, x, none, none⟩ := kdh
      refine ⟨?_, kd'.items.mono fun p hp => List.mem_append_right _ hp, fun l e => ?_, fun _ _ _ e => nomatch e⟩
      · have := kd'.kept
        k_extra "my look"
      · cases e
        refine ⟨by k_extra "my look", ?_⟩
        rw [ex]
        exact ⟨rr, k, List.mem_append_left _ (.head _), hpt.mono fun p hp => List.mem_append_left _ (.tail _ hp)⟩
noncomputable def pairD (x : Str × Str) : PyData := .tuple [.str x.1, .str x.2]
noncomputable def pairsD (x : Six (Str × Str)) : PyData := .list [pairD x.a, pairD x.b, pairD x.c, pairD x.d, pairD x.e, pairD x.f]
noncomputable def XOk (x : Six (Str × Str)) : Prop := SeqAt.shaped (pairsD x) = true
theorem okN_all : ∀ k : Nat, k < 6 → ∀ f : Nat, f < 2 → PyData.strOk (nm k f) = true := by decide +kernel
theorem ok_nm {k f : Int} (h0 : 0 ≤ k) (h6 : k < 6) (hf : f = 0 ∨ f = 1) : PyData.strOk (nm k f) = true := by
  obtain ⟨n, hn, rfl⟩ := nat_of (k := 6) h0 h6
  obtain ⟨b, hb, rfl⟩ := bit_of hf
  exact okN_all n hn b hb
theorem okR_all : ∀ n : Nat, n < 6 → ∀ x ∈ marksL, PyData.strOk (replyS x n) = true := by decide +kernel
theorem ok_reply {x : Str} {p : Int} (h : MarkOk x) (h0 : 0 ≤ p) (h5 : p ≤ 5) : PyData.strOk (replyS x p) = true := by
  obtain ⟨n, hn, rfl⟩ := nat_of (k := 6) h0 (Int.lt_of_le_of_lt h5 (by decide))
  exact okR_all n hn x (inMarks h)
theorem xOf_ok {Γ : Cst} {x : Six Ent} (ok : CstOk Γ) (ro : RowOk x) : XOk (xOf Γ x) := by
  have h := ro.1
  simp only [Six.list, List.forall_mem_cons, List.not_mem_nil, false_implies, implies_true, and_true] at h
  have q : ∀ e : Ent, EntOk e → PyData.strOk (pairOf Γ e).1 = true ∧ PyData.strOk (pairOf Γ e).2 = true := fun e he => by
    have hp := ok.pf e.1.toNat (by have := he.1; have := he.2.1; omega)
    exact ⟨ok_nm he.1 he.2.1 he.2.2, ok_reply ok.mark hp.1 hp.2⟩
  obtain ⟨a, b, c, d, e, f⟩ := h
  simp [XOk, xOf, pairsD, pairD, SeqAt.shaped, PyData.canLay0, PyData.canLayAll0, PyData.depth, PyData.depthAll, q _ a, q _ b, q _ c, q _ d, q _ e, q _ f]
theorem pairD_reads {h₀ h : Heap} {L a : Addr} {news : Led} {x : Str × Str} (N : News h₀ L h news) (p : ∃ t u, (a, tupOf [.str x.1 t, .str x.2 u]) ∈ news) : Reads h (.ref a) (pairD x) [] := by
  obtain ⟨t, u, m⟩ := p
  exact reads_tuple_at (N.get m) rfl rfl (readsAll_cons_val (.str _ _) (readsAll_cons_val (.str _ _) .nil))
theorem pairsD_reads {h₀ h : Heap} {L l : Addr} {news : Led} {x : Six (Str × Str)} (N : News h₀ L h news) (p : PairsIs news l x) : ∃ as, Reads h (.ref l) (pairsD x) as := by
  obtain ⟨r, n, m, ⟨a, b, c, d, e, f⟩⟩ := p
  exact ⟨_, reads_list_at (N.get m) rfl rfl (readsAll_cons_val (pairD_reads N a) (readsAll_cons_val (pairD_reads N b) (readsAll_cons_val (pairD_reads N c) (readsAll_cons_val (pairD_reads N d) (readsAll_cons_val (pairD_reads N e) (readsAll_cons_val (pairD_reads N f) .nil))))))⟩
theorem nePairs {prog : Program} {w : World} {A : Around} {E : Value → Shared → Prop} {s : Shared} {h₀ : Heap} {L a b : Addr} {news : Led} {x : Six (Str × Str)} {Q : Value → Shared → Prop} (N : News h₀ L s.heap news) (hx : XOk x) (pa : PairsIs news a x) (pb : PairsIs news b x) (hu : A.units + 64 < cLine) (h : Q (.bool false) s) : wpAny (model prog w) A (compareOp .NotEq (.ref a) (.ref b)) Q E s := by
  obtain ⟨as, ra⟩ := pairsD_reads N pa
  obtain ⟨bs, rb⟩ := pairsD_reads N pb
  refine ne_dataH ra rb hx hx hu ?_
  have e : PyData.eqv (pairsD x) (pairsD x) = true := by simp [pairsD, pairD, PyData.eqv, PyData.eqvAll]
  rw [e]; exact h
local macro_rules | `(tactic| walk_at "compareOp NotEq ref ref") => `(tactic| (k_dflt (apply nePairs; k_asm; (case pa => k_extra "q"); k_extra "q"; k_extra "q"; k_extra "b")))
theorem keptDue {w : World} {g : Heap} {L : Addr} {Γ : Cst} {row told : Six Ent} {cuts : Int} {cnt : Nat} {its : Led} {s : Shared} {m : Str → Option Value} {lk ld : Addr} {x : Six (Str × Str)} {mean : ExcName → Option Value} {mg mb : Str → Option Value} {rest : List Stmt} {Q : Flow → Shared → Prop} {E : Value → Shared → Prop}
    (X : (hd.heap_1 w.params).In g) (T : Top View Loose mean mg mb g) (hx : XOk x) (S : LawSt w g L Γ row told cuts cnt (some ⟨lk, x, some ld, none⟩) its s m)
    (h : ∀ s', LawSt w g L Γ row told cuts cnt (some ⟨lk, x, some ld, none⟩) its s' m → wpAny (lawM w) (lawA w.params L) (execs rest (lawEnv w.params L)) Q E s') :
    wpAny (lawM w) (lawA w.params L) (execs (stmtAt w.params 18 :: rest) (lawEnv w.params L)) Q E s := by
  obtain ⟨kl, n, ng, gv, cs, lr, F, N, off, K, hgv, M, R, fx, lc, kdh, io, gs⟩ := S.ex
  clear S
  have kd' : KdI m kl ⟨lk, x, some ld, none⟩ := kdh
  have v1 : m (Str.ofString "kept") = some (.ref lk) := kd'.kept
  have v2 : m (Str.ofString "due") = some (.ref ld) := (kd'.due ld rfl).1
  obtain ⟨e1, e2, e3, e4, ⟨tc, e5⟩, ⟨tt, e6⟩, ⟨tf, e7⟩, ⟨to, e8⟩⟩ := lc
  obtain ⟨tl, htl⟩ : ∃ tl, tl = deckC w.params Γ.D Γ.dd Γ.Lh Γ.tk n cs.list ++ (its ++ kl) := ⟨_, rfl⟩
  rw [← htl] at N off
  have mo : ∀ p ∈ kl, p ∈ (Γ.lg, listOf gv ng) :: tl := fun p hp => .tail _ (memI htl hp)
  have p1 : PairsIs ((Γ.lg, listOf gv ng) :: tl) lk x := kd'.items.mono mo
  have p2 : PairsIs ((Γ.lg, listOf gv ng) :: tl) ld x := (kd'.due ld rfl).2.mono mo
  have B : Below (Lv 301 []) g [] g := ⟨rfl, fun _ _ e => e, trivial⟩
  have hsc : lawScope w.params = ⟨_, _, _, _, _⟩ := rfl
  show wpAny _ _ (execs (Stmt.If _ _ _ _ :: _) _) _ _ _
  dsimp only [lawEnv, lawA, lawM]
  rw [hsc]
  clear hsc
  k_steps
  all_goals (try dsimp only)
  (refine' h _ ?yst; (case yst => k_extra "my state0"))
theorem itemR {prog : Program} {w : World} {A : Around} {E : Value → Shared → Prop} {s : Shared} {h₀ : Heap} {L : Addr} {news kl : Led} {value slice : PySem.Expr} {l : Addr} {r : Six Addr} {x : Six Ent} {n0 : Nat} {k : Int} {u : Tok} {Q : Value → Shared → Prop} (N : News h₀ L s.heap news) (hm : (l, listOf (refs r) n0) ∈ news)
    (hr : RowT kl r x) (h0 : 0 ≤ k) (h1 : k < 6) {e : Ent} (he : x.list[k.toNat]? = some e)
    (h : ∀ a t u, (a, tupOf [.int e.1 t, .int e.2 u]) ∈ kl → Q (.ref a) s)
    (hs : subscripted slice false (.ref l) (.int k u) = operate [.ref l, .int k u] (getItem (.ref l) (.int k u)) := by with_unfolding_all rfl) :
    wpAny (model prog w) A (subscriptTail value slice (.ref l) (.int k u)) Q E s := by
  have hlt : k.toNat < (refs r).toList.length := show k.toNat < 6 by omega
  obtain ⟨a, t, v, e', hv, ha, he', -⟩ := rowAt hr (List.getElem?_eq_getElem hlt)
  rw [he] at he'
  obtain rfl := Option.some.inj he'
  have hl := News.isList N hm
  refine tail_any hl.typeIs slot_list_getitem.lookup (wpAny_getItem_list hl h0 (by omega) (x := .ref a) ?_ (h a t v ha)) hs
  rw [← Array.getElem?_toList, List.getElem?_eq_getElem hlt, hv]
theorem truthyZ {prog : Program} {w : World} {A : Around} {E : Value → Shared → Prop} {s : Shared} {a : Int} {t : Tok} {Q : Bool → Shared → Prop} (e : a = 0) (h : Q false s) : wpAny (model prog w) A (truthy (.int a t)) Q E s := PyProof.Rows.truthy_int (by subst e; exact h)
theorem truthyN {prog : Program} {w : World} {A : Around} {E : Value → Shared → Prop} {s : Shared} {a : Int} {t : Tok} {Q : Bool → Shared → Prop} (e : a ≠ 0) (h : Q true s) : wpAny (model prog w) A (truthy (.int a t)) Q E s := PyProof.Rows.truthy_int (by rw [show (a != 0) = true from by simpa using e]; exact h)
theorem bit01 {f : Int} (h : f = 0 ∨ f = 1) : 0 ≤ f ∧ f ≤ 1 := by rcases h with rfl | rfl <;> decide
theorem fdiv_half {x : Int} (h0 : 0 ≤ x) (h : x ≤ 12) : 0 ≤ x.fdiv 2 ∧ x.fdiv 2 ≤ 6 := by
  rw [Int.fdiv_eq_ediv_of_nonneg _ (by decide)]; omega
theorem nameR_even {m : Int} (h0 : 0 ≤ m) (h : m ≤ 12) (e : m % 2 = 0) : (nameR m != Txt.mul (Str.ofString "\"") (m.fdiv 2) ++ Str.ofString "Z ") = false := by
  rw [Int.fdiv_eq_ediv_of_nonneg m (by decide)]
  unfold nameR
  rw [if_pos e]
  simp
theorem nameR_odd {m : Int} (h0 : 0 ≤ m) (h : m ≤ 12) (e : ¬ m % 2 = 0) : (nameR m != Txt.mul (Str.ofString "\"") (m.fdiv 2) ++ Str.ofString "") = false := by
  rw [Int.fdiv_eq_ediv_of_nonneg m (by decide)]
  unfold nameR
  rw [if_neg e]
  simp
local macro_rules | `(tactic| walk_at "truthy int") => `(tactic| with_reducible (first | refine truthyZ ‹_› ?_ | refine truthyN ‹_› ?_))
noncomputable def chkS (P : Params) (i : Nat) : Stmt := (bodyOf (stmtAt P 19)).getD i default
section
local macro_rules | `(tactic| walk_at "subscriptTail") => `(tactic| (with_reducible refine subN ?_; k_dflt (refine' itemR ?N ?m ?r ?_ ?_ ?e ?_ (by with_unfolding_all rfl); (case r => k_extra "q"); (case N => k_asm); (case m => k_mem); k_extra "om"; k_extra "om"; (case e => k_extra "q")); intros))
theorem chkTurn {w : World} {g : Heap} {L : Addr} {Γ : Cst} {row told : Six Ent} {cuts i : Int} {it : Tok} {cnt : Nat} {kd : Option Kd} {its : Led} {s : Shared} {m : Str → Option Value} {e : Ent} {mean : ExcName → Option Value} {mg mb : Str → Option Value} {rest : List Stmt} {Q : Flow → Shared → Prop} {E : Value → Shared → Prop}
    (X : (hd.heap_1 w.params).In g) (T : Top View Loose mean mg mb g) (ok : CstOk Γ) (i0 : 0 ≤ i) (i6 : i < 6) (he : told.list[i.toNat]? = some e) (oe : EntOk e) (par : (i + e.1 + e.2 + Γ.ff e.1.toNat) % 2 = cuts % 2) (S : LawSt w g L Γ row told cuts cnt kd its s m) (hpl : m (Str.ofString "place") = some (.int i it))
    (h : ∀ s' m', LawSt w g L Γ row told cuts cnt kd its s' m' → wpAny (lawM w) (lawA w.params L) (execs rest (lawEnv w.params L)) Q E s') :
    wpAny (lawM w) (lawA w.params L) (execs (chkS w.params 0 :: chkS w.params 1 :: chkS w.params 2 :: rest) (lawEnv w.params L)) Q E s := by
  obtain ⟨kl, n, ng, gv, cs, lr, F, N, off, K, hgv, M, R, fx, lc, kdh, io, gs⟩ := S.ex
  clear S
  obtain ⟨e1, e2, e3, e4, ⟨tc, e5⟩, ⟨tt, e6⟩, ⟨tf, e7⟩, ⟨to, e8⟩⟩ := lc
  have R0 := R
  obtain ⟨r, nr, mr, hr⟩ := R
  obtain ⟨of_, mof, dof⟩ := fx.cfaces
  obtain ⟨vf, kf, mvf, hvf⟩ := fx.faces
  obtain ⟨k0, k6, f01⟩ := oe
  have f4 := bit01 f01
  have ff := ok.ff e.1.toNat ((Int.toNat_lt k0).mpr k6)
  have ff4 := bit01 ff
  have m0 := Int.add_nonneg (Int.add_nonneg (Int.add_nonneg i0 k0) f4.1) ff4.1
  have m12 : i + e.1 + e.2 + Γ.ff e.1.toNat ≤ 12 := Int.add_le_add (Int.add_le_add (Int.add_le_add (Int.le_of_lt_add_one (show i < 5 + 1 from i6)) (Int.le_of_lt_add_one (show e.1 < 5 + 1 from k6))) f4.2) ff4.2
  clear f01 ff
  have nk : NameOk (nameX (i + e.1 + e.2 + Γ.ff e.1.toNat) Γ.tail) (nameR (i + e.1 + e.2 + Γ.ff e.1.toNat)) := name_ok m0 m12 ok.tail
  unfold nameX at nk
  have tlen : Γ.tail.length ≤ 10 := by rcases ok.tail with h | h | h <;> rw [h] <;> decide
  obtain ⟨tl, htl⟩ : ∃ tl, tl = deckC w.params Γ.D Γ.dd Γ.Lh Γ.tk n cs.list ++ (its ++ kl) := ⟨_, rfl⟩
  rw [← htl] at N off
  have B : Below (Lv 301 []) g [] g := ⟨rfl, fun _ _ e => e, trivial⟩
  have hsc : lawScope w.params = ⟨_, _, _, _, _⟩ := rfl
  show wpAny _ _ (execs (Stmt.Assign _ _ _ :: Stmt.Assign _ _ _ :: Stmt.If _ _ _ _ :: _) _) _ _ _
  dsimp only [lawEnv, lawA, lawM]
  rw [hsc]
  clear hsc
  have fd : 0 ≤ (i + e.1 + e.2 + Γ.ff e.1.toNat).fdiv 2 ∧ (i + e.1 + e.2 + Γ.ff e.1.toNat).fdiv 2 ≤ 6 := fdiv_half m0 m12
  have fm := Int.fmod_eq_emod_of_nonneg cuts (show (0 : Int) ≤ 2 by decide)
  rcases Decidable.em ((i + e.1 + e.2 + Γ.ff e.1.toNat) % 2 = 0) with hev | hev
  · have hz : cuts.fmod 2 = 0 := fm.trans (par.symm.trans hev)
    have hq := nameR_even m0 m12 hev
    clear fm par hev
    k_steps
    all_goals (try dsimp only)
    (refine' h _ _ ?yst; (case yst => k_extra "my state0"))
  · have hz : cuts.fmod 2 ≠ 0 := fun q => hev (par.trans (fm.symm.trans q))
    have hq := nameR_odd m0 m12 hev
    clear fm par hev
    k_steps
    all_goals (try dsimp only)
    (refine' h _ _ ?yst; (case yst => k_extra "my state0"))
end
theorem chkLoop {w : World} {g : Heap} {L : Addr} {Γ : Cst} {row told : Six Ent} {cuts : Int} {cnt : Nat} {kd : Option Kd} {its : Led} {mean : ExcName → Option Value} {mg mb : Str → Option Value} {R : Result → Shared → Prop} {I : Addr} {py : Pos}
    (X : (hd.heap_1 w.params).In g) (T : Top View Loose mean mg mb g) (ok : CstOk Γ) (ro : RowOk told) (pr : Par Γ told cuts)
    (hend : ∀ s' m', LawSt w g L Γ row told cuts cnt kd its s' m' → R (.ok .next) s') :
    ∀ (k i : Nat) (s : Shared) (m : Str → Option Value), i + k = 6 → LawSt w g L Γ row told cuts cnt kd ((I, rangeG (i : Nat) (6 - (i : Nat))) :: its) s m →
      codeAny (lawM w) (lawA w.params L) (.forLoop (.Name (Str.ofString "place") py) (.ref I) [chkS w.params 0, chkS w.params 1, chkS w.params 2] [] (lawEnv w.params L)) R s
  | 0, i, s, m, hi, S => law_endR S (by omega) fun s' S' => hend s' m S'
  | k + 1, i, s, m, hi, S => by
    have y1 : lawNames.contains (Str.ofString "place") = false := by decide
    have y2 : (lawScope w.params).kind = .function := rfl
    have y3 : (lawEnv w.params L).kindOf (Str.ofString "place") = some .local := rfl
    have lt : (0 : Int) < 6 - (i : Nat) := by omega
    with_reducible refine law_turnR S lt y1 y2 y3 ?_
    intro s1 t1 S1
    have hlt : i < told.list.length := show i < 6 by omega
    have i0 : (0 : Int) ≤ (i : Nat) := by omega
    have i6 : ((i : Nat) : Int) < 6 := by omega
    have he : told.list[((i : Nat) : Int).toNat]? = some told.list[i] := by rw [Int.toNat_natCast, List.getElem?_eq_getElem hlt]
    have oe : EntOk told.list[i] := ro.1 _ (List.getElem_mem hlt)
    have par : (((i : Nat) : Int) + told.list[i].1 + told.list[i].2 + Γ.ff told.list[i].1.toNat) % 2 = cuts % 2 := by
      obtain ⟨p0, p1, p2, p3, p4, p5⟩ := pr
      clear S S1 hend he oe y3 y2
      have hi := (by decide : ∀ n, n < 6 → n = 0 ∨ n = 1 ∨ n = 2 ∨ n = 3 ∨ n = 4 ∨ n = 5) i hlt
      rcases hi with rfl | rfl | rfl | rfl | rfl | rfl
      · show ((0 : Int) + told.a.1 + told.a.2 + Γ.ff told.a.1.toNat) % 2 = _
        rw [Int.zero_add]; exact p0
      · exact p1
      · exact p2
      · exact p3
      · exact p4
      · exact p5
    with_reducible refine chkTurn X T ok i0 i6 he oe par S1 (if_pos rfl) ?_
    intro s2 m2 S2
    rw [show ((i : Nat) : Int) + 1 = ((i + 1 : Nat) : Int) from rfl, show (6 : Int) - (i : Nat) - 1 = 6 - ((i + 1 : Nat) : Int) from by omega] at S2
    exact wpAny_execs_nil (chkLoop X T ok ro pr hend k (i + 1) s2 m2 (by omega) S2)
theorem chkStmt {w : World} {g : Heap} {L : Addr} {Γ : Cst} {row told : Six Ent} {cuts : Int} {cnt : Nat} {kd : Option Kd} {its : Led} {s : Shared} {m : Str → Option Value} {mean : ExcName → Option Value} {mg mb : Str → Option Value} {rest : List Stmt} {Q : Flow → Shared → Prop} {E : Value → Shared → Prop}
    (X : (hd.heap_1 w.params).In g) (T : Top View Loose mean mg mb g) (ok : CstOk Γ) (ro : RowOk told) (pr : Par Γ told cuts) (S : LawSt w g L Γ row told cuts cnt kd its s m)
    (h : ∀ s' m', LawSt w g L Γ row told cuts cnt kd its s' m' → wpAny (lawM w) (lawA w.params L) (execs rest (lawEnv w.params L)) Q E s') :
    wpAny (lawM w) (lawA w.params L) (execs (stmtAt w.params 19 :: rest) (lawEnv w.params L)) Q E s := by
  obtain ⟨big, F, N, hin, k1, k2⟩ := S.all
  have B : Below (Lv 301 []) g [] g := ⟨rfl, fun _ _ e => e, trivial⟩
  have hsc : lawScope w.params = ⟨_, _, _, _, _⟩ := rfl
  show wpAny _ _ (execs (Stmt.For _ _ _ _ _ :: _) _) _ _ _
  dsimp only [lawEnv, lawA, lawM]
  rw [hsc]
  clear hsc
  iterate 10 (first | walk1 | (dsimp only; walk1) | (k_unfold; (try dsimp only)))
  rename_i I h9 F9 N9 lt9
  have S' := fun tk => k2 ⟨h9, s.gens, s.drawn, tk, s.os⟩ m I _ ⟨rfl, rfl⟩ Same.refl F9 N9 lt9 fun vs => objNe (by rfl)
  show codeAny _ (lawA w.params L) (.forLoop (.Name (Str.ofString "place") _) (.ref I) [chkS w.params 0, chkS w.params 1, chkS w.params 2] [] (lawEnv w.params L)) _ _
  with_reducible refine chkLoop X T ok ro pr ?_ 6 0 _ m rfl (S' _)
  intro s2 m2 S2
  exact h s2 m2 S2
theorem figStmt {w : World} {g : Heap} {L : Addr} {Γ : Cst} {row : Six Ent} {l : Addr} {fv : List Value} {n : Nat} {s : Shared} {m : Str → Option Value} {mean : ExcName → Option Value} {mg mb : Str → Option Value} {rest : List Stmt} {Q : Flow → Shared → Prop} {E : Value → Shared → Prop}
    (X : (hd.heap_1 w.params).In g) (T : Top View Loose mean mg mb g) (ok : CstOk Γ) (fo : FigOk fv) (ro : RowOk row) (pr : Par Γ row 0) (S : LawSt w g L Γ row row 0 0 none [(l, listOf fv.toArray n)] s m) (hm : m (Str.ofString "figures") = some (.ref l))
    (h : ∀ s' m' row' cuts' (cnt' : Nat), RowOk row' → Par Γ row' cuts' → (cnt' : Int) + cuts' = 16 → 0 ≤ cuts' → cuts' ≤ 8 → LawSt w g L Γ row' row' cuts' cnt' none [(l, listOf fv.toArray n)] s' m' → wpAny (lawM w) (lawA w.params L) (execs rest (lawEnv w.params L)) Q E s') :
    wpAny (lawM w) (lawA w.params L) (execs (stmtAt w.params 15 :: rest) (lawEnv w.params L)) Q E s := by
  obtain ⟨big, F, N, hin, k1, k2⟩ := S.all
  have hl : (l, listOf fv.toArray n) ∈ big := hin _ (.head _)
  have B : Below (Lv 301 []) g [] g := ⟨rfl, fun _ _ e => e, trivial⟩
  have hsc : lawScope w.params = ⟨_, _, _, _, _⟩ := rfl
  show wpAny _ _ (execs (Stmt.For _ _ _ _ _ :: _) _) _ _ _
  dsimp only [lawEnv, lawA, lawM]
  rw [hsc]
  clear hsc
  iterate 4 (first | walk1 | (dsimp only; walk1) | (k_unfold; (try dsimp only)))
  rename_i I h9 F9 N9 lt9
  have lt9 : ∀ p ∈ big, p.1 < I := lt9
  have S' := fun tk => k2 ⟨h9, s.gens, s.drawn, tk, s.os⟩ m I _ ⟨rfl, rfl⟩ Same.refl F9 N9 lt9 fun vs => objNe (by rfl)
  show codeAny _ (lawA w.params L) (.forLoop (.Name (Str.ofString "figure") _) (.ref I) [figS w.params 0, figS w.params 1, figS w.params 2] [] (lawEnv w.params L)) _ _
  have c9 : (0 : Int) ≤ ((0 : Nat) : Int) := by omega
  with_reducible refine figLoop X T ok fo ?_ 8 0 row 0 0 none #[] _ m rfl ro pr rfl (Int.le_refl 0) c9 (S' _)
  intro s2 m2 row2 cuts2 cnt2 r2 p2 c2 c0 c8 S2
  exact h s2 m2 row2 cuts2 cnt2 r2 p2 c2 c0 c8 S2
local macro_rules | `(tactic| walk_at "call ref") => `(tactic| (with_reducible refine callN 289 ?_; k_dflt apply read_use; k_dflt (k_extra "my use"; k_extra "q"); intro h' tk' r' t' c' F' N' nd; (try simp only [List.forall_mem_cons, List.not_mem_nil, false_implies, implies_true, and_true, true_and] at nd); k_extra "my parts"; k_extra "s"))
noncomputable def srtS (P : Params) (i : Nat) : Stmt := (bodyOf (stmtAt P 20)).getD i default
noncomputable def prS (P : Params) (i : Nat) : Stmt := (bodyOf (srtS P 1)).getD i default
theorem pairRead {w : World} {g : Heap} {L : Addr} {Γ : Cst} {row told : Six Ent} {cuts : Int} {cnt : Nat} {kd : Option Kd} {its : Led} {s : Shared} {m : Str → Option Value} {mean : ExcName → Option Value} {mg mb : Str → Option Value} {rest : List Stmt} {Q : Flow → Shared → Prop} {E : Value → Shared → Prop}
    (X : (hd.heap_1 w.params).In g) (T : Top View Loose mean mg mb g) (ok : CstOk Γ) (ro : RowOk row) (S : LawSt w g L Γ row told cuts cnt kd its s m)
    (h : ∀ s' m' t u, m' (Str.ofString "turn") = m (Str.ofString "turn") → m' (Str.ofString "one") = some (.int (Γ.pf row.a.1.toNat) t) → m' (Str.ofString "two") = some (.int (Γ.pf row.b.1.toNat) u) → LawSt w g L Γ row told cuts cnt kd its s' m' → wpAny (lawM w) (lawA w.params L) (execs rest (lawEnv w.params L)) Q E s') :
    wpAny (lawM w) (lawA w.params L) (execs (prS w.params 0 :: rest) (lawEnv w.params L)) Q E s := by
  obtain ⟨kl, n, ng, gv, cs, lr, F, N, off, K, hgv, M, R, fx, lc, kdh, io, gs⟩ := S.ex
  clear S
  obtain ⟨e1, e2, e3, e4, ⟨tc, e5⟩, ⟨tt, e6⟩, ⟨tf, e7⟩, ⟨to, e8⟩⟩ := lc
  obtain ⟨tl, htl⟩ : ∃ tl, tl = deckC w.params Γ.D Γ.dd Γ.Lh Γ.tk n cs.list ++ (its ++ kl) := ⟨_, rfl⟩
  rw [← htl] at N off
  have B : Below (Lv 301 []) g [] g := ⟨rfl, fun _ _ e => e, trivial⟩
  have ga : GoodR cs.a.v (Γ.pf row.a.1.toNat) := M.a.good ok (ro.1 _ (.head _))
  have gb : GoodR cs.b.v (Γ.pf row.b.1.toNat) := M.b.good ok (ro.1 _ (.tail _ (.head _)))
  have hsc : lawScope w.params = ⟨_, _, _, _, _⟩ := rfl
  show wpAny _ _ (execs (Stmt.Assign _ _ _ :: _) _) _ _ _
  dsimp only [lawEnv, lawA, lawM]
  rw [hsc]
  clear hsc
  k_steps
  all_goals (try dsimp only)
  all_goals (try k_data)
  (refine' h _ _ _ _ ?ytu ?ya ?yb ?yst; (case yst => k_extra "my state0"); (case ya => k_extra "my look"); (case yb => k_extra "my look"); (case ytu => k_extra "my look"))
theorem gtTurn {w : World} {g : Heap} {L : Addr} {Γ : Cst} {row told : Six Ent} {cuts : Int} {cnt : Nat} {kd : Option Kd} {its : Led} {s : Shared} {m : Str → Option Value} {mean : ExcName → Option Value} {mg mb : Str → Option Value} {rest : List Stmt} {Q : Flow → Shared → Prop} {E : Value → Shared → Prop}
    (X : (hd.heap_1 w.params).In g) (T : Top View Loose mean mg mb g) (ok : CstOk Γ) (ro : RowOk row) (S : LawSt w g L Γ row told cuts cnt kd its s m) {a b : Int} {t u : Tok} (v1 : m (Str.ofString "one") = some (.int a t)) (v2 : m (Str.ofString "two") = some (.int b u)) (hab : b < a) (hc : cnt ≤ 90)
    (h : ∀ s', LawSt w g L Γ (turnR row) told cuts (cnt + 2) kd its s' m → wpAny (lawM w) (lawA w.params L) (execs rest (lawEnv w.params L)) Q E s') :
    wpAny (lawM w) (lawA w.params L) (execs (prS w.params 1 :: rest) (lawEnv w.params L)) Q E s := by
  obtain ⟨kl, n, ng, gv, cs, lr, F, N, off, K, hgv, M, R, fx, lc, kdh, io, gs⟩ := S.ex
  clear S
  obtain ⟨e1, e2, e3, e4, ⟨tc, e5⟩, ⟨tt, e6⟩, ⟨tf, e7⟩, ⟨to, e8⟩⟩ := lc
  obtain ⟨tl, htl⟩ : ∃ tl, tl = deckC w.params Γ.D Γ.dd Γ.Lh Γ.tk n cs.list ++ (its ++ kl) := ⟨_, rfl⟩
  rw [← htl] at N off
  have B : Below (Lv 301 []) g [] g := ⟨rfl, fun _ _ e => e, trivial⟩
  obtain ⟨hf, ha⟩ := M.fits ok ro
  have hsz : gv.size ≤ 100 := by rw [hgv, Array.size_replicate]; omega
  have hq : decide (b < a) = true := decide_eq_true hab
  have hsc : lawScope w.params = ⟨_, _, _, _, _⟩ := rfl
  show wpAny _ _ (execs (Stmt.If _ _ _ _ :: _) _) _ _ _
  dsimp only [lawEnv, lawA, lawM]
  rw [hsc]
  clear hsc
  k_steps
  all_goals (try dsimp only)
  all_goals (try k_data)
  (refine' h _ ?yst; (case yst => k_extra "my state0"))
theorem cutOdd0 {w : World} {g : Heap} {L : Addr} {Γ : Cst} {row told : Six Ent} {cuts : Int} {cnt : Nat} {kd : Option Kd} {its : Led} {s : Shared} {m : Str → Option Value} {mean : ExcName → Option Value} {mg mb : Str → Option Value} {rest : List Stmt} {Q : Flow → Shared → Prop} {E : Value → Shared → Prop}
    (X : (hd.heap_1 w.params).In g) (T : Top View Loose mean mg mb g) (ok : CstOk Γ) (ro : RowOk row) (S : LawSt w g L Γ row told cuts cnt kd its s m) {z : Int} {t : Tok} (v1 : m (Str.ofString "turn") = some (.int z t)) (hz : z.fmod 2 ≠ 0) (hc : cnt ≤ 90)
    (h : ∀ s', LawSt w g L Γ (cutR row) told cuts (cnt + 1) kd its s' m → wpAny (lawM w) (lawA w.params L) (execs rest (lawEnv w.params L)) Q E s') :
    wpAny (lawM w) (lawA w.params L) (execs (srtS w.params 0 :: rest) (lawEnv w.params L)) Q E s := by
  obtain ⟨kl, n, ng, gv, cs, lr, F, N, off, K, hgv, M, R, fx, lc, kdh, io, gs⟩ := S.ex
  clear S
  obtain ⟨e1, e2, e3, e4, ⟨tc, e5⟩, ⟨tt, e6⟩, ⟨tf, e7⟩, ⟨to, e8⟩⟩ := lc
  obtain ⟨tl, htl⟩ : ∃ tl, tl = deckC w.params Γ.D Γ.dd Γ.Lh Γ.tk n cs.list ++ (its ++ kl) := ⟨_, rfl⟩
  rw [← htl] at N off
  have B : Below (Lv 301 []) g [] g := ⟨rfl, fun _ _ e => e, trivial⟩
  obtain ⟨hf, ha⟩ := M.fits ok ro
  have hsz : gv.size ≤ 100 := by rw [hgv, Array.size_replicate]; omega
  have hsc : lawScope w.params = ⟨_, _, _, _, _⟩ := rfl
  show wpAny _ _ (execs (Stmt.If _ _ _ _ :: _) _) _ _ _
  dsimp only [lawEnv, lawA, lawM]
  rw [hsc]
  clear hsc
  k_steps
  all_goals (try dsimp only)
  all_goals (try k_data)
  (refine' h _ ?yst; (case yst => k_extra "my state0"))
theorem cutEven0 {w : World} {g : Heap} {L : Addr} {Γ : Cst} {row told : Six Ent} {cuts : Int} {cnt : Nat} {kd : Option Kd} {its : Led} {s : Shared} {m : Str → Option Value} {mean : ExcName → Option Value} {mg mb : Str → Option Value} {rest : List Stmt} {Q : Flow → Shared → Prop} {E : Value → Shared → Prop}
    (X : (hd.heap_1 w.params).In g) (T : Top View Loose mean mg mb g) (ok : CstOk Γ) (ro : RowOk row) (S : LawSt w g L Γ row told cuts cnt kd its s m) {z : Int} {t : Tok} (v1 : m (Str.ofString "turn") = some (.int z t)) (hz : z.fmod 2 = 0) (hc : cnt ≤ 90)
    (h : ∀ s', LawSt w g L Γ row told cuts cnt kd its s' m → wpAny (lawM w) (lawA w.params L) (execs rest (lawEnv w.params L)) Q E s') :
    wpAny (lawM w) (lawA w.params L) (execs (srtS w.params 0 :: rest) (lawEnv w.params L)) Q E s := by
  obtain ⟨kl, n, ng, gv, cs, lr, F, N, off, K, hgv, M, R, fx, lc, kdh, io, gs⟩ := S.ex
  clear S
  obtain ⟨e1, e2, e3, e4, ⟨tc, e5⟩, ⟨tt, e6⟩, ⟨tf, e7⟩, ⟨to, e8⟩⟩ := lc
  obtain ⟨tl, htl⟩ : ∃ tl, tl = deckC w.params Γ.D Γ.dd Γ.Lh Γ.tk n cs.list ++ (its ++ kl) := ⟨_, rfl⟩
  rw [← htl] at N off
  have B : Below (Lv 301 []) g [] g := ⟨rfl, fun _ _ e => e, trivial⟩
  have hsc : lawScope w.params = ⟨_, _, _, _, _⟩ := rfl
  show wpAny _ _ (execs (Stmt.If _ _ _ _ :: _) _) _ _ _
  dsimp only [lawEnv, lawA, lawM]
  rw [hsc]
  clear hsc
  k_steps
  all_goals (try dsimp only)
  all_goals (try k_data)
  (refine' h _ ?yst; (case yst => k_extra "my state0"))
theorem cutOdd2 {w : World} {g : Heap} {L : Addr} {Γ : Cst} {row told : Six Ent} {cuts : Int} {cnt : Nat} {kd : Option Kd} {its : Led} {s : Shared} {m : Str → Option Value} {mean : ExcName → Option Value} {mg mb : Str → Option Value} {rest : List Stmt} {Q : Flow → Shared → Prop} {E : Value → Shared → Prop}
    (X : (hd.heap_1 w.params).In g) (T : Top View Loose mean mg mb g) (ok : CstOk Γ) (ro : RowOk row) (S : LawSt w g L Γ row told cuts cnt kd its s m) {z : Int} {t : Tok} (v1 : m (Str.ofString "turn") = some (.int z t)) (hz : z.fmod 2 ≠ 0) (hc : cnt ≤ 90)
    (h : ∀ s', LawSt w g L Γ (cutR row) told cuts (cnt + 1) kd its s' m → wpAny (lawM w) (lawA w.params L) (execs rest (lawEnv w.params L)) Q E s') :
    wpAny (lawM w) (lawA w.params L) (execs (srtS w.params 2 :: rest) (lawEnv w.params L)) Q E s := by
  obtain ⟨kl, n, ng, gv, cs, lr, F, N, off, K, hgv, M, R, fx, lc, kdh, io, gs⟩ := S.ex
  clear S
  obtain ⟨e1, e2, e3, e4, ⟨tc, e5⟩, ⟨tt, e6⟩, ⟨tf, e7⟩, ⟨to, e8⟩⟩ := lc
  obtain ⟨tl, htl⟩ : ∃ tl, tl = deckC w.params Γ.D Γ.dd Γ.Lh Γ.tk n cs.list ++ (its ++ kl) := ⟨_, rfl⟩
  rw [← htl] at N off
  have B : Below (Lv 301 []) g [] g := ⟨rfl, fun _ _ e => e, trivial⟩
  obtain ⟨hf, ha⟩ := M.fits ok ro
  have hsz : gv.size ≤ 100 := by rw [hgv, Array.size_replicate]; omega
  have hsc : lawScope w.params = ⟨_, _, _, _, _⟩ := rfl
  show wpAny _ _ (execs (Stmt.If _ _ _ _ :: _) _) _ _ _
  dsimp only [lawEnv, lawA, lawM]
  rw [hsc]
  clear hsc
  k_steps
  all_goals (try dsimp only)
  all_goals (try k_data)
  (refine' h _ ?yst; (case yst => k_extra "my state0"))
theorem cutEven2 {w : World} {g : Heap} {L : Addr} {Γ : Cst} {row told : Six Ent} {cuts : Int} {cnt : Nat} {kd : Option Kd} {its : Led} {s : Shared} {m : Str → Option Value} {mean : ExcName → Option Value} {mg mb : Str → Option Value} {rest : List Stmt} {Q : Flow → Shared → Prop} {E : Value → Shared → Prop}
    (X : (hd.heap_1 w.params).In g) (T : Top View Loose mean mg mb g) (ok : CstOk Γ) (ro : RowOk row) (S : LawSt w g L Γ row told cuts cnt kd its s m) {z : Int} {t : Tok} (v1 : m (Str.ofString "turn") = some (.int z t)) (hz : z.fmod 2 = 0) (hc : cnt ≤ 90)
    (h : ∀ s', LawSt w g L Γ row told cuts cnt kd its s' m → wpAny (lawM w) (lawA w.params L) (execs rest (lawEnv w.params L)) Q E s') :
    wpAny (lawM w) (lawA w.params L) (execs (srtS w.params 2 :: rest) (lawEnv w.params L)) Q E s := by
  obtain ⟨kl, n, ng, gv, cs, lr, F, N, off, K, hgv, M, R, fx, lc, kdh, io, gs⟩ := S.ex
  clear S
  obtain ⟨e1, e2, e3, e4, ⟨tc, e5⟩, ⟨tt, e6⟩, ⟨tf, e7⟩, ⟨to, e8⟩⟩ := lc
  obtain ⟨tl, htl⟩ : ∃ tl, tl = deckC w.params Γ.D Γ.dd Γ.Lh Γ.tk n cs.list ++ (its ++ kl) := ⟨_, rfl⟩
  rw [← htl] at N off
  have B : Below (Lv 301 []) g [] g := ⟨rfl, fun _ _ e => e, trivial⟩
  have hsc : lawScope w.params = ⟨_, _, _, _, _⟩ := rfl
  show wpAny _ _ (execs (Stmt.If _ _ _ _ :: _) _) _ _ _
  dsimp only [lawEnv, lawA, lawM]
  rw [hsc]
  clear hsc
  k_steps
  all_goals (try dsimp only)
  all_goals (try k_data)
  (refine' h _ ?yst; (case yst => k_extra "my state0"))
/-- the deck behind a cut, whatever the new tuple's address -/
noncomputable def FitsT (cs : Six Card) : Prop := ∀ tn : Addr, ∀ c ∈ [cs.b, cs.c, cs.d, cs.e, cs.f, ⟨tn, cs.a.k, cs.a.v, cs.a.a, cs.a.b⟩], Fit c.k ∧ cleanV c.v
theorem FitsT.at {cs : Six Card} {tn : Addr} (h : FitsT cs) : ∀ c ∈ [cs.b, cs.c, cs.d, cs.e, cs.f, ⟨tn, cs.a.k, cs.a.v, cs.a.a, cs.a.b⟩], Fit c.k ∧ cleanV c.v := h tn
theorem match_cut2 {Γ : Cst} {cs : Six Card} {row : Six Ent} {t u : Addr} (M : Matches Γ cs row) : Matches Γ ⟨cs.c, cs.d, cs.e, cs.f, ⟨t, cs.a.k, cs.a.v, cs.a.a, cs.a.b⟩, ⟨u, cs.b.k, cs.b.v, cs.b.a, cs.b.b⟩⟩ (cutR (cutR row)) := ⟨M.c, M.d, M.e, M.f, M.a, M.b⟩
section
local macro_rules | `(tactic| k_extra "my match") => `(tactic| exact match_cut2 (by k_extra "q"))
local macro_rules | `(tactic| walk_at "call ref") => `(tactic| (with_reducible refine callN 310 ?_; k_dflt apply cut_law; k_dflt (k_extra "my deck"; (first | k_extra "q" | exact FitsT.at (by k_extra "q")); k_extra "q"); intros; k_extra "my decked"))
theorem gtCut {w : World} {g : Heap} {L : Addr} {Γ : Cst} {row told : Six Ent} {cuts : Int} {cnt : Nat} {kd : Option Kd} {its : Led} {s : Shared} {m : Str → Option Value} {mean : ExcName → Option Value} {mg mb : Str → Option Value} {rest : List Stmt} {Q : Flow → Shared → Prop} {E : Value → Shared → Prop}
    (X : (hd.heap_1 w.params).In g) (T : Top View Loose mean mg mb g) (ok : CstOk Γ) (ro : RowOk row) (S : LawSt w g L Γ row told cuts cnt kd its s m) {a b : Int} {t u : Tok} (v1 : m (Str.ofString "one") = some (.int a t)) (v2 : m (Str.ofString "two") = some (.int b u)) (hab : ¬ b < a) (hc : cnt ≤ 90)
    (h : ∀ s', LawSt w g L Γ (cutR (cutR row)) told cuts (cnt + 2) kd its s' m → wpAny (lawM w) (lawA w.params L) (execs rest (lawEnv w.params L)) Q E s') :
    wpAny (lawM w) (lawA w.params L) (execs (prS w.params 1 :: rest) (lawEnv w.params L)) Q E s := by
  obtain ⟨kl, n, ng, gv, cs, lr, F, N, off, K, hgv, M, R, fx, lc, kdh, io, gs⟩ := S.ex
  clear S
  obtain ⟨e1, e2, e3, e4, ⟨tc, e5⟩, ⟨tt, e6⟩, ⟨tf, e7⟩, ⟨to, e8⟩⟩ := lc
  obtain ⟨tl, htl⟩ : ∃ tl, tl = deckC w.params Γ.D Γ.dd Γ.Lh Γ.tk n cs.list ++ (its ++ kl) := ⟨_, rfl⟩
  rw [← htl] at N off
  have B : Below (Lv 301 []) g [] g := ⟨rfl, fun _ _ e => e, trivial⟩
  obtain ⟨hf, ha⟩ := M.fits ok ro
  have hsz : gv.size ≤ 100 := by rw [hgv, Array.size_replicate]; omega
  have hq : decide (b < a) = false := decide_eq_false hab
  have hf2 : FitsT cs := fun tn => ((match_cut (t := tn) M).fits ok ro.cut).1
  have ha2 : Apart [cs.b.k, cs.c.k, cs.d.k, cs.e.k, cs.f.k, cs.a.k] := ((match_cut (t := 0) M).fits ok ro.cut).2
  have hgv2 := gave_one hgv
  have hsz2 : (gv ++ #[Value.none]).size ≤ 100 := by rw [hgv2, Array.size_replicate]; omega
  have hsc : lawScope w.params = ⟨_, _, _, _, _⟩ := rfl
  show wpAny _ _ (execs (Stmt.If _ _ _ _ :: _) _) _ _ _
  dsimp only [lawEnv, lawA, lawM]
  rw [hsc]
  clear hsc
  k_steps
  all_goals (try dsimp only)
  all_goals (try k_data)
  (refine' h _ ?yst; (case yst => k_extra "my state0"))
end
noncomputable def pairF (pf : Nat → Int) (x : Six Ent) : Six Ent := if pf x.b.1.toNat < pf x.a.1.toNat then turnR x else cutR (cutR x)
noncomputable def pairN (pf : Nat → Int) : Nat → Six Ent → Six Ent
  | 0, x => x
  | k + 1, x => pairN pf k (pairF pf x)
theorem RowOk.pair {pf : Nat → Int} {x : Six Ent} (h : RowOk x) : RowOk (pairF pf x) := by
  unfold pairF
  split
  · exact h.turn
  · exact h.cut.cut
theorem pairLoop {w : World} {g : Heap} {L : Addr} {Γ : Cst} {told : Six Ent} {cuts : Int} {kd : Option Kd} {its : Led} {mean : ExcName → Option Value} {mg mb : Str → Option Value} {R : Result → Shared → Prop} {I : Addr} {py : Pos} {v : Value} {N : Nat}
    (X : (hd.heap_1 w.params).In g) (T : Top View Loose mean mg mb g) (ok : CstOk Γ) :
    ∀ (k i : Nat) (row : Six Ent) (cnt : Nat) (s : Shared) (m : Str → Option Value), i + k = N → RowOk row → cnt + 2 * k ≤ 90 → m (Str.ofString "turn") = some v → LawSt w g L Γ row told cuts cnt kd ((I, rangeG (i : Nat) (N - (i : Nat))) :: its) s m →
      (∀ s' m', m' (Str.ofString "turn") = some v → LawSt w g L Γ (pairN Γ.pf k row) told cuts (cnt + 2 * k) kd its s' m' → R (.ok .next) s') →
      codeAny (lawM w) (lawA w.params L) (.forLoop (.Name (Str.ofString "pair") py) (.ref I) [prS w.params 0, prS w.params 1] [] (lawEnv w.params L)) R s
  | 0, i, row, cnt, s, m, hi, ro, hc, hv, S, hend => law_endR S (by omega) fun s' S' => hend s' m hv S'
  | k + 1, i, row, cnt, s, m, hi, ro, hc, hv, S, hend => by
    have y1 : lawNames.contains (Str.ofString "pair") = false := by decide
    have y2 : (lawScope w.params).kind = .function := rfl
    have y3 : (lawEnv w.params L).kindOf (Str.ofString "pair") = some .local := rfl
    have lt : (0 : Int) < (N : Int) - (i : Nat) := by omega
    have hc2 : cnt ≤ 90 := by omega
    with_reducible refine law_turnR S lt y1 y2 y3 ?_
    intro s1 t1 S1
    with_reducible refine pairRead X T ok ro S1 ?_
    intro s2 m2 t2 u2 tu a2 b2 S2
    have tu2 : m2 (Str.ofString "turn") = some v := tu.trans hv
    rw [show ((i : Nat) : Int) + 1 = ((i + 1 : Nat) : Int) from rfl, show (N : Int) - (i : Nat) - 1 = (N : Int) - ((i + 1 : Nat) : Int) from by omega] at S2
    rcases Decidable.em (Γ.pf row.b.1.toNat < Γ.pf row.a.1.toNat) with hlt | hlt
    · with_reducible refine gtTurn X T ok ro S2 a2 b2 hlt hc2 ?_
      intro s3 S3
      have e : pairF Γ.pf row = turnR row := if_pos hlt
      refine wpAny_execs_nil (pairLoop X T ok k (i + 1) (turnR row) (cnt + 2) s3 m2 (by omega) ro.turn (by omega) tu2 S3 fun s' m' h1 h2 => hend s' m' h1 ?_)
      show LawSt w g L Γ (pairN Γ.pf k (pairF Γ.pf row)) told cuts (cnt + 2 * (k + 1)) kd its s' m'
      rw [e, show cnt + 2 * (k + 1) = cnt + 2 + 2 * k from by omega]
      exact h2
    · with_reducible refine gtCut X T ok ro S2 a2 b2 hlt hc2 ?_
      intro s3 S3
      have e : pairF Γ.pf row = cutR (cutR row) := if_neg hlt
      refine wpAny_execs_nil (pairLoop X T ok k (i + 1) (cutR (cutR row)) (cnt + 2) s3 m2 (by omega) ro.cut.cut (by omega) tu2 S3 fun s' m' h1 h2 => hend s' m' h1 ?_)
      show LawSt w g L Γ (pairN Γ.pf k (pairF Γ.pf row)) told cuts (cnt + 2 * (k + 1)) kd its s' m'
      rw [e, show cnt + 2 * (k + 1) = cnt + 2 + 2 * k from by omega]
      exact h2
theorem pyIterRZ {prog : Program} {w : World} {A : Around} {E : Value → Shared → Prop} {s : Shared} {h₀ : Heap} {L : Addr} {m : Str → Option Value} {news : Led} {l : Addr} {b : Int} {n : Nat} {t u v : Tok} {Q : Value → Shared → Prop} (F : Fr h₀ L s.heap m) (N : News h₀ L s.heap news) (hr : IsRange s.heap l 0 b 1 t u v) (e : b = (n : Nat)) (hn : n ≤ 100)
    (h : ∀ I h', Fr h₀ L h' m → News h₀ L h' ((I, rangeG 0 n) :: news) → (∀ p ∈ news, p.1 < I) → Q (.ref I) { s with heap := h' }) : wpAny (model prog w) A (pyIter (.ref l)) Q E s := by
  subst e
  exact pyIterR F N hr hn h
theorem pairStmt {w : World} {g : Heap} {L : Addr} {Γ : Cst} {row told : Six Ent} {cuts z : Int} {zt : Tok} {cnt n : Nat} {kd : Option Kd} {its : Led} {s : Shared} {m : Str → Option Value} {mean : ExcName → Option Value} {mg mb : Str → Option Value} {rest : List Stmt} {Q : Flow → Shared → Prop} {E : Value → Shared → Prop}
    (X : (hd.heap_1 w.params).In g) (T : Top View Loose mean mg mb g) (ok : CstOk Γ) (ro : RowOk row) (hc : cnt + 2 * n ≤ 90) (hv : m (Str.ofString "turn") = some (.int z zt)) (hz : 3 - z.fmod 2 = (n : Nat)) (hn : n ≤ 3) (S : LawSt w g L Γ row told cuts cnt kd its s m)
    (h : ∀ s' m', m' (Str.ofString "turn") = some (.int z zt) → LawSt w g L Γ (pairN Γ.pf n row) told cuts (cnt + 2 * n) kd its s' m' → wpAny (lawM w) (lawA w.params L) (execs rest (lawEnv w.params L)) Q E s') :
    wpAny (lawM w) (lawA w.params L) (execs (srtS w.params 1 :: rest) (lawEnv w.params L)) Q E s := by
  obtain ⟨big, F, N, hin, k1, k2⟩ := S.all
  have B : Below (Lv 301 []) g [] g := ⟨rfl, fun _ _ e => e, trivial⟩
  have hb : 0 ≤ z.fmod 2 ∧ z.fmod 2 ≤ 3 := by omega
  have hsc : lawScope w.params = ⟨_, _, _, _, _⟩ := rfl
  show wpAny _ _ (execs (Stmt.For _ _ _ _ _ :: _) _) _ _ _
  dsimp only [lawEnv, lawA, lawM]
  rw [hsc]
  clear hsc
  iterate 15 (first | walk1 | (dsimp only; walk1) | (k_unfold; (try dsimp only)))
  refine' pyIterRZ ?yF ?yN ?yhr hz ?yhn ?_
  case yF => assumption
  case yN => assumption
  case yhr => assumption
  case yhn => omega
  intro I h9 F9 N9 lt9
  have S' := fun tk => k2 ⟨h9, s.gens, s.drawn, tk, s.os⟩ m I _ ⟨rfl, rfl⟩ Same.refl F9 N9 lt9 fun vs => objNe (by rfl)
  show codeAny _ (lawA w.params L) (.forLoop (.Name (Str.ofString "pair") _) (.ref I) [prS w.params 0, prS w.params 1] [] (lawEnv w.params L)) _ _
  have i0 : 0 + n = n := by omega
  have S2 := fun tk => (show LawSt w g L Γ row told cuts cnt kd ((I, rangeG ((0 : Nat) : Int) ((n : Nat) - ((0 : Nat) : Int))) :: its) ⟨h9, s.gens, s.drawn, tk, s.os⟩ m from by
    rw [show ((n : Nat) : Int) - ((0 : Nat) : Int) = (n : Nat) from by omega]
    exact S' tk)
  with_reducible refine pairLoop X T ok n 0 row cnt _ m i0 ro hc hv (S2 _) ?_
  intro s2 m2 h2 S3
  exact h s2 m2 h2 S3
/-- one round of the sort -/
noncomputable def roundF (pf : Nat → Int) (i : Nat) (x : Six Ent) : Six Ent := if i % 2 = 0 then pairN pf 3 x else cutR (pairN pf 2 (cutR x))
noncomputable def roundN (pf : Nat → Int) : Nat → Nat → Six Ent → Six Ent
  | 0, _, x => x
  | k + 1, i, x => roundN pf k (i + 1) (roundF pf i x)
theorem RowOk.pairs {pf : Nat → Int} : ∀ {k : Nat} {x : Six Ent}, RowOk x → RowOk (pairN pf k x)
  | 0, _, h => h
  | _ + 1, _, h => h.pair.pairs
theorem sortLoop {w : World} {g : Heap} {L : Addr} {Γ : Cst} {told : Six Ent} {cuts : Int} {kd : Option Kd} {its : Led} {mean : ExcName → Option Value} {mg mb : Str → Option Value} {R : Result → Shared → Prop} {I : Addr} {py : Pos}
    (X : (hd.heap_1 w.params).In g) (T : Top View Loose mean mg mb g) (ok : CstOk Γ) :
    ∀ (k i : Nat) (row : Six Ent) (cnt : Nat) (s : Shared) (m : Str → Option Value), i + k = 6 → RowOk row → cnt + 6 * k ≤ 80 → LawSt w g L Γ row told cuts cnt kd ((I, rangeG (i : Nat) (6 - (i : Nat))) :: its) s m →
      (∀ s' m', RowOk (roundN Γ.pf k i row) → LawSt w g L Γ (roundN Γ.pf k i row) told cuts (cnt + 6 * k) kd its s' m' → R (.ok .next) s') →
      codeAny (lawM w) (lawA w.params L) (.forLoop (.Name (Str.ofString "turn") py) (.ref I) [srtS w.params 0, srtS w.params 1, srtS w.params 2] [] (lawEnv w.params L)) R s
  | 0, i, row, cnt, s, m, hi, ro, hc, S, hend => law_endR S (by omega) fun s' S' => hend s' m ro S'
  | k + 1, i, row, cnt, s, m, hi, ro, hc, S, hend => by
    have y1 : lawNames.contains (Str.ofString "turn") = false := by decide
    have y2 : (lawScope w.params).kind = .function := rfl
    have y3 : (lawEnv w.params L).kindOf (Str.ofString "turn") = some .local := rfl
    have lt : (0 : Int) < 6 - (i : Nat) := by omega
    with_reducible refine law_turnR S lt y1 y2 y3 ?_
    intro s1 t1 S1
    have v1 : (fun z => if z = Str.ofString "turn" then some (Value.int (i : Nat) t1) else m z) (Str.ofString "turn") = some (.int (i : Nat) t1) := if_pos rfl
    rw [show ((i : Nat) : Int) + 1 = ((i + 1 : Nat) : Int) from rfl, show (6 : Int) - (i : Nat) - 1 = 6 - ((i + 1 : Nat) : Int) from by omega] at S1
    have fm := Int.fmod_eq_emod_of_nonneg ((i : Nat) : Int) (show (0 : Int) ≤ 2 by decide)
    have c1 : cnt ≤ 90 := by omega
    have n3 : (3 : Nat) ≤ 3 := by decide
    have n2 : (2 : Nat) ≤ 3 := by decide
    rcases Decidable.em (i % 2 = 0) with hev | hev
    · have hz : ((i : Nat) : Int).fmod 2 = 0 := by omega
      have hn : 3 - ((i : Nat) : Int).fmod 2 = ((3 : Nat) : Int) := by omega
      have c2 : cnt + 2 * 3 ≤ 90 := by omega
      have c3 : cnt + 2 * 3 ≤ 90 := by omega
      with_reducible refine cutEven0 X T ok ro S1 v1 hz c1 ?_
      intro s2 S2
      with_reducible refine pairStmt X T ok ro c2 v1 hn n3 S2 ?_
      intro s3 m3 v3 S3
      with_reducible refine cutEven2 X T ok ro.pairs S3 v3 hz c3 ?_
      intro s4 S4
      have e : roundF Γ.pf i row = pairN Γ.pf 3 row := if_pos hev
      have ro4 : RowOk (pairN Γ.pf 3 row) := ro.pairs
      refine wpAny_execs_nil (sortLoop X T ok k (i + 1) _ (cnt + 6) s4 m3 (by omega) ro4 (by omega) S4 fun s' m' h1 h2 => hend s' m' ?_ ?_)
      · show RowOk (roundN Γ.pf k (i + 1) (roundF Γ.pf i row)); rw [e]; exact h1
      · show LawSt w g L Γ (roundN Γ.pf k (i + 1) (roundF Γ.pf i row)) told cuts (cnt + 6 * (k + 1)) kd its s' m'
        rw [e, show cnt + 6 * (k + 1) = cnt + 6 + 6 * k from by omega]; exact h2
    · have hz : ((i : Nat) : Int).fmod 2 ≠ 0 := by omega
      have hn : 3 - ((i : Nat) : Int).fmod 2 = ((2 : Nat) : Int) := by omega
      have c2 : cnt + 1 + 2 * 2 ≤ 90 := by omega
      have c3 : cnt + 1 + 2 * 2 ≤ 90 := by omega
      with_reducible refine cutOdd0 X T ok ro S1 v1 hz c1 ?_
      intro s2 S2
      with_reducible refine pairStmt X T ok ro.cut c2 v1 hn n2 S2 ?_
      intro s3 m3 v3 S3
      with_reducible refine cutOdd2 X T ok ro.cut.pairs S3 v3 hz c3 ?_
      intro s4 S4
      have e : roundF Γ.pf i row = cutR (pairN Γ.pf 2 (cutR row)) := if_neg hev
      have ro4 : RowOk (cutR (pairN Γ.pf 2 (cutR row))) := ro.cut.pairs.cut
      refine wpAny_execs_nil (sortLoop X T ok k (i + 1) _ (cnt + 6) s4 m3 (by omega) ro4 (by omega) S4 fun s' m' h1 h2 => hend s' m' ?_ ?_)
      · show RowOk (roundN Γ.pf k (i + 1) (roundF Γ.pf i row)); rw [e]; exact h1
      · show LawSt w g L Γ (roundN Γ.pf k (i + 1) (roundF Γ.pf i row)) told cuts (cnt + 6 * (k + 1)) kd its s' m'
        rw [e, show cnt + 6 * (k + 1) = cnt + 6 + 6 * k from by omega]; exact h2
theorem sortStmt {w : World} {g : Heap} {L : Addr} {Γ : Cst} {row told : Six Ent} {cuts : Int} {cnt : Nat} {kd : Option Kd} {its : Led} {s : Shared} {m : Str → Option Value} {mean : ExcName → Option Value} {mg mb : Str → Option Value} {rest : List Stmt} {Q : Flow → Shared → Prop} {E : Value → Shared → Prop}
    (X : (hd.heap_1 w.params).In g) (T : Top View Loose mean mg mb g) (ok : CstOk Γ) (ro : RowOk row) (hc : cnt + 6 * 6 ≤ 80) (S : LawSt w g L Γ row told cuts cnt kd its s m)
    (h : ∀ s' m', RowOk (roundN Γ.pf 6 0 row) → LawSt w g L Γ (roundN Γ.pf 6 0 row) told cuts (cnt + 36) kd its s' m' → wpAny (lawM w) (lawA w.params L) (execs rest (lawEnv w.params L)) Q E s') :
    wpAny (lawM w) (lawA w.params L) (execs (stmtAt w.params 20 :: rest) (lawEnv w.params L)) Q E s := by
  obtain ⟨big, F, N, hin, k1, k2⟩ := S.all
  have B : Below (Lv 301 []) g [] g := ⟨rfl, fun _ _ e => e, trivial⟩
  have hsc : lawScope w.params = ⟨_, _, _, _, _⟩ := rfl
  show wpAny _ _ (execs (Stmt.For _ _ _ _ _ :: _) _) _ _ _
  dsimp only [lawEnv, lawA, lawM]
  rw [hsc]
  clear hsc
  iterate 10 (first | walk1 | (dsimp only; walk1) | (k_unfold; (try dsimp only)))
  rename_i I h9 F9 N9 lt9
  have S' := fun tk => k2 ⟨h9, s.gens, s.drawn, tk, s.os⟩ m I _ ⟨rfl, rfl⟩ Same.refl F9 N9 lt9 fun vs => objNe (by rfl)
  show codeAny _ (lawA w.params L) (.forLoop (.Name (Str.ofString "turn") _) (.ref I) [srtS w.params 0, srtS w.params 1, srtS w.params 2] [] (lawEnv w.params L)) _ _
  with_reducible refine sortLoop X T ok 6 0 row cnt _ m rfl ro hc (S' _) ?_
  intro s2 m2 r2 S2
  exact h s2 m2 r2 S2
theorem homeS {w : World} {g : Heap} {L : Addr} {Γ : Cst} {row told : Six Ent} {cuts : Int} {cnt : Nat} {its : Led} {s : Shared} {m : Str → Option Value} {lk : Addr} {x : Six (Str × Str)} {ld : Option Addr} {mean : ExcName → Option Value} {mg mb : Str → Option Value} {rest : List Stmt} {Q : Flow → Shared → Prop} {E : Value → Shared → Prop}
    (X : (hd.heap_1 w.params).In g) (T : Top View Loose mean mg mb g) (S : LawSt w g L Γ row told cuts cnt (some ⟨lk, x, ld, none⟩) its s m)
    (h : ∀ s' m' lh n, LawSt w g L Γ row told cuts cnt (some ⟨lk, x, ld, some (lh, [], [])⟩) ((lh, listOf #[] n) :: its) s' m' → wpAny (lawM w) (lawA w.params L) (execs rest (lawEnv w.params L)) Q E s') :
    wpAny (lawM w) (lawA w.params L) (execs (stmtAt w.params 21 :: rest) (lawEnv w.params L)) Q E s := by
  obtain ⟨big, F, N, hin, k1, k2⟩ := S.all
  have B : Below (Lv 301 []) g [] g := ⟨rfl, fun _ _ e => e, trivial⟩
  have hsc : lawScope w.params = ⟨_, _, _, _, _⟩ := rfl
  show wpAny _ _ (execs (Stmt.Assign _ _ _ :: _) _) _ _ _
  dsimp only [lawEnv, lawA, lawM]
  rw [hsc]
  clear hsc
  iterate 5 (first | walk1 | (dsimp only; walk1) | (k_unfold; (try dsimp only)))
  rename_i lh h9 F9 N9 lt9
  obtain ⟨kl, n, ng, gv, cs, lr, F1, N1, off, K, hgv, M, R, fx, lc, kdh, io, gs⟩ := (k2 ⟨h9, s.gens, s.drawn, s.toks, s.os⟩ m lh _ ⟨rfl, rfl⟩ Same.refl F9 N9 (by assumption) fun vs => objNe (by rfl)).ex
  dsimp only at F1 N1
  clear N9 F9
  obtain ⟨e1, e2, e3, e4, ⟨tc, e5⟩, ⟨tt, e6⟩, ⟨tf, e7⟩, ⟨to, e8⟩⟩ := lc
  k_steps
  all_goals (try dsimp only)
  rename_i h2 F2 N2
  (refine' h _ _ lh 0 ⟨kl, n, ng, gv, cs, lr, F2, N2, off, K, hgv, M, R, fx, ?ylc, ?ykd, io, gs⟩; (case ylc => k_extra "my locs"))
  case ykd =>
    have kd' : KdI m kl ⟨lk, x, ld, none⟩ := kdh
    refine ⟨?_, kd'.items, fun l e => ⟨?_, (kd'.due l e).2⟩, fun lh' as xs e => ?_⟩
    · have := kd'.kept
      k_extra "my look"
    · have := (kd'.due l e).1
      k_extra "my look"
    · obtain ⟨rfl, rfl, rfl⟩ : lh = lh' ∧ [] = as ∧ [] = xs := by simpa using e
      exact ⟨by k_extra "my look", trivial⟩
theorem lenL {prog : Program} {w : World} {A : Around} {E : Value → Shared → Prop} {s : Shared} {h₀ : Heap} {L : Addr} {news : Led} {l : Addr} {items : Array Value} {n k : Nat} {Q : Value → Shared → Prop} (N : News h₀ L s.heap news) (hm : (l, listOf items n) ∈ news) (e : items.size = k) (hk : k ≤ 1000)
    (h : ∀ t z, Q (.int (k : Nat) t) { s with toks := z }) : wpAny (model prog w) A (call (.builtin "len") [.ref l]) Q E s := by
  subst e
  exact len_list (News.isList N hm) (by omega) (h _ _)
theorem homeMake {w : World} {g : Heap} {L : Addr} {Γ : Cst} {row told : Six Ent} {cuts : Int} {cnt : Nat} {its : Led} {s : Shared} {m : Str → Option Value} {lk lh I J lr : Addr} {oI oI' o1 oh oh' : Obj} {x : Six (Str × Str)} {ld : Option Addr} {as : List Addr} {xs : List (Str × Str)} {dn ng : Nat} {gv : Array Value} {cs : Six Card} {kl tl nw : Led}
    (htl : tl = deckC w.params Γ.D Γ.dd Γ.Lh Γ.tk dn cs.list ++ (((J, o1) :: its) ++ kl)) (K : Keep (deckC w.params Γ.D Γ.dd Γ.Lh Γ.tk dn cs.list) ((I, oI) :: (lh, oh) :: (J, o1) :: its ++ kl)) (off : OffD Γ.lg (deckC w.params Γ.D Γ.dd Γ.Lh Γ.tk dn cs.list ++ ((I, oI) :: (lh, oh) :: (J, o1) :: its ++ kl)))
    (hgv : gv = Array.replicate cnt .none) (M : Matches Γ cs row) (fx : Fix L kl Γ) (io : ItsOk ((I, oI) :: (lh, oh) :: (J, o1) :: its) kl) (gs : s.gens = Γ.gens ∧ s.os = Γ.os) (nt1 : ∀ vs, oI' ≠ tupOf vs) (nt2 : ∀ vs, oh' ≠ tupOf vs) (F : Fr g L s.heap m) (lc : Locs m Γ lr cuts)
    (N : News g L s.heap ((I, oI') :: (lh, oh') :: (Γ.lg, listOf gv ng) :: (nw ++ tl))) (hn : ∀ p ∈ nw, (∃ vs, p.2 = tupOf vs) ∧ Ap p.1 I ∧ Ap p.1 lh ∧ Ap p.1 Γ.lg ∧ OffD p.1 tl) (R : RowIs kl lr told) (kd : KdI m (nw ++ kl) ⟨lk, x, ld, some (lh, as, xs)⟩) :
    LawSt w g L Γ row told cuts cnt (some ⟨lk, x, ld, some (lh, as, xs)⟩) ((I, oI') :: (lh, oh') :: (J, o1) :: its) s m := by
  subst htl
  have tI : ∀ _ : Obj, OffD I (deckC w.params Γ.D Γ.dd Γ.Lh Γ.tk dn cs.list) ∧ OffD lh (deckC w.params Γ.D Γ.dd Γ.Lh Γ.tk dn cs.list) := fun _ => by
    constructor
    · rcases K (I, oI) (List.mem_append_left _ (.head _)) with ⟨vs, hv⟩ | h
      · exact absurd hv (io.nt _ (.head _) vs)
      · exact h
    · rcases K (lh, oh) (List.mem_append_left _ (.tail _ (.head _))) with ⟨vs, hv⟩ | h
      · exact absurd hv (io.nt _ (.tail _ (.head _)) vs)
      · exact h
  have pw := io.pw
  simp only [List.pairwise_cons, List.forall_mem_cons] at pw
  have inOld : ∀ p ∈ its ++ kl, p ∈ (I, oI) :: (lh, oh) :: (J, o1) :: its ++ kl := fun p hp => .tail _ (.tail _ (.tail _ hp))
  refine ⟨nw ++ kl, dn, ng, gv, cs, lr, F, fun p hp => ?_, fun q hq => ?_, fun p hp => ?_, hgv, M, R.mono fun p hp => List.mem_append_right _ hp, fx.mono fun p hp => List.mem_append_right _ hp, lc, kd, ⟨?_, ?_, ?_⟩, gs⟩
  · rcases List.mem_cons.mp hp with rfl | hp
    · exact N _ (.tail _ (.tail _ (.head _)))
    rcases List.mem_append.mp hp with hp | hp
    · exact N p (.tail _ (.tail _ (.tail _ (List.mem_append_right _ (List.mem_append_left _ hp)))))
    rcases List.mem_cons.mp hp with rfl | hp
    · exact N _ (.head _)
    rcases List.mem_cons.mp hp with rfl | hp
    · exact N _ (.tail _ (.head _))
    rcases List.mem_append.mp hp with hp | hp
    · exact N p (.tail _ (.tail _ (.tail _ (List.mem_append_right _ (List.mem_append_right _ (List.mem_append_left _ hp))))))
    rcases List.mem_append.mp hp with hp | hp
    · exact N p (.tail _ (.tail _ (.tail _ (List.mem_append_left _ hp))))
    · exact N p (.tail _ (.tail _ (.tail _ (List.mem_append_right _ (List.mem_append_right _ (List.mem_append_right _ hp))))))
  · rcases List.mem_append.mp hq with hq | hq
    · exact off q (List.mem_append_left _ hq)
    rcases List.mem_cons.mp hq with rfl | hq
    · exact (off (I, oI) (List.mem_append_right _ (.head _)) : Ap Γ.lg I)
    rcases List.mem_cons.mp hq with rfl | hq
    · exact (off (lh, oh) (List.mem_append_right _ (.tail _ (.head _))) : Ap Γ.lg lh)
    rcases List.mem_append.mp hq with hq | hq
    · exact off q (List.mem_append_right _ (.tail _ (.tail _ (List.mem_append_left _ hq))))
    rcases List.mem_append.mp hq with hq | hq
    · exact (hn q hq).2.2.2.1.symm
    · exact off q (List.mem_append_right _ (.tail _ (.tail _ (List.mem_append_right _ hq))))
  · rcases List.mem_cons.mp hp with rfl | hp
    · exact .inr (tI oI).1
    rcases List.mem_cons.mp hp with rfl | hp
    · exact .inr (tI oI).2
    rcases List.mem_append.mp hp with hp | hp
    · exact K p (.tail _ (.tail _ (List.mem_append_left _ hp)))
    rcases List.mem_append.mp hp with hp | hp
    · exact .inl (hn p hp).1
    · exact K p (.tail _ (.tail _ (List.mem_append_right _ hp)))
  · intro p hp
    rcases List.mem_cons.mp hp with rfl | hp
    · exact nt1
    rcases List.mem_cons.mp hp with rfl | hp
    · exact nt2
    · exact io.nt p (.tail _ (.tail _ hp))
  · intro p hp q hq
    rcases List.mem_append.mp hq with hq | hq
    · rcases List.mem_cons.mp hp with rfl | hp
      · exact (hn q hq).2.1.symm
      rcases List.mem_cons.mp hp with rfl | hp
      · exact (hn q hq).2.2.1.symm
      · exact ((hn q hq).2.2.2.2 p (List.mem_append_right _ (List.mem_append_left _ hp))).symm
    · rcases List.mem_cons.mp hp with rfl | hp
      · exact io.off (I, oI) (.head _) q hq
      rcases List.mem_cons.mp hp with rfl | hp
      · exact io.off (lh, oh) (.tail _ (.head _)) q hq
      · exact io.off p (.tail _ (.tail _ hp)) q hq
  · simp only [List.pairwise_cons, List.forall_mem_cons]
    exact pw
/-- one card put home -/
noncomputable def homeF (Γ : Cst) (cuts p : Int) (xs : List (Str × Str)) (e : Ent) : List (Str × Str) := if Γ.pf e.1.toNat = p then xs ++ [(nm e.1 ((Γ.ff e.1.toNat + cuts + xs.length + e.1).fmod 2), replyS Γ.mark (Γ.pf e.1.toNat))] else xs
noncomputable def homS (P : Params) : Stmt := (bodyOf (stmtAt P 22)).getD 0 default
noncomputable def hmS (P : Params) : Stmt := (bodyOf (homS P)).getD 0 default
theorem Paired.len {kl : Led} : ∀ {as : List Addr} {xs : List (Str × Str)}, Paired kl as xs → as.length = xs.length
  | [], [], _ => rfl
  | _ :: _, _ :: _, ⟨_, r⟩ => congrArg (· + 1) r.len
noncomputable abbrev homeO (as : List Addr) (n : Nat) : Obj := listOf (as.map Value.ref).toArray n
section
local macro_rules | `(tactic| walk_at "call builtin:len") => `(tactic| (k_dflt (refine' lenL ?N ?m ?e ?_ ?_; (case N => k_asm); (case m => k_mem); (case e => k_extra "q"); omega); intros))
theorem homeTurn {w : World} {g : Heap} {L : Addr} {Γ : Cst} {row told : Six Ent} {cuts p : Int} {pt : Tok} {cnt : Nat} {its : Led} {s : Shared} {m : Str → Option Value} {lk lh I J lr : Addr} {o1 : Obj} {x : Six (Str × Str)} {ld : Option Addr} {as : List Addr} {xs : List (Str × Str)} {n i : Nat} {d : Option Addr} {sl : Array (Option Value)} {e : Ent} {mean : ExcName → Option Value} {mg mb : Str → Option Value} {R : Result → Shared → Prop} {kp fp tp : Pos}
    (X : (hd.heap_1 w.params).In g) (T : Top View Loose mean mg mb g) (ok : CstOk Γ) (ro : RowOk told) (he : told.list[i]? = some e) (hx : xs.length ≤ 100) (hp : m (Str.ofString "port") = some (.int p pt)) (hrow : m (Str.ofString "row") = some (.ref lr))
    (S : LawSt w g L Γ row told cuts cnt (some ⟨lk, x, ld, some (lh, as, xs)⟩) ((I, iterG lr i d sl) :: (lh, homeO as n) :: (J, o1) :: its) s m)
    (h : ∀ s' m' as' n' d' sl', m' (Str.ofString "port") = some (.int p pt) → m' (Str.ofString "row") = some (.ref lr) → LawSt w g L Γ row told cuts cnt (some ⟨lk, x, ld, some (lh, as', homeF Γ cuts p xs e)⟩) ((I, iterG lr (i + 1) d' sl') :: (lh, homeO as' n') :: (J, o1) :: its) s' m' → codeAny (lawM w) (lawA w.params L) (.forLoop (.Tuple [.Name (Str.ofString "k") kp, .Name (Str.ofString "face") fp] 0 tp) (.ref I) [hmS w.params] [] (lawEnv w.params L)) R s') :
    codeAny (lawM w) (lawA w.params L) (.forLoop (.Tuple [.Name (Str.ofString "k") kp, .Name (Str.ofString "face") fp] 0 tp) (.ref I) [hmS w.params] [] (lawEnv w.params L)) R s := by
  obtain ⟨kl, dn, ng, gv, cs, lr', F, N, off, K, hgv, M, RR, fx, lc, kdh, io, gs⟩ := S.ex
  clear S
  have kd' : KdI m kl ⟨lk, x, ld, some (lh, as, xs)⟩ := kdh
  have hhome := (kd'.home lh as xs rfl).1
  have hpaired := (kd'.home lh as xs rfl).2
  obtain ⟨e1, e2, e3, e4, ⟨tc, e5⟩, ⟨tt, e6⟩, ⟨tf, e7⟩, ⟨to, e8⟩⟩ := lc
  obtain rfl : lr' = lr := by
    rw [e1] at hrow; exact Value.ref.inj (Option.some.inj hrow)
  have R0 := RR
  obtain ⟨r, nr, mr, hr⟩ := RR
  obtain ⟨oq, moq, doq⟩ := fx.cpairs
  obtain ⟨q, nq, mq, hq⟩ := fx.pairs
  have pa := pairsAt hq
  obtain ⟨op, mop, dop⟩ := fx.cports
  obtain ⟨vp, kpp, mvp, hvp⟩ := fx.ports
  obtain ⟨of_, mof, dof⟩ := fx.cfaces
  obtain ⟨vf, kf, mvf, hvf⟩ := fx.faces
  have hlt : i < (refs r).toList.length := by
    have := (List.getElem?_eq_some_iff.mp he).1
    exact this
  obtain ⟨ra, rt, ru, e', hv, ha, he', hm⟩ := rowAt hr (List.getElem?_eq_getElem hlt)
  obtain rfl : e = e' := by rw [he] at he'; exact Option.some.inj he'
  obtain ⟨k0, k6, f01⟩ := ro.1 e hm
  obtain ⟨tl, htl⟩ : ∃ tl, tl = deckC w.params Γ.D Γ.dd Γ.Lh Γ.tk dn cs.list ++ (((J, o1) :: its) ++ kl) := ⟨_, rfl⟩
  have N1 : News g L s.heap ((I, iterG lr' i d sl) :: (lh, homeO as n) :: (Γ.lg, listOf gv ng) :: tl) := fun p hp => N p (by
    rw [htl] at hp
    rcases List.mem_cons.mp hp with rfl | hp
    · exact .tail _ (List.mem_append_right _ (.head _))
    rcases List.mem_cons.mp hp with rfl | hp
    · exact .tail _ (List.mem_append_right _ (.tail _ (.head _)))
    rcases List.mem_cons.mp hp with rfl | hp
    · exact .head _
    rcases List.mem_append.mp hp with hp | hp
    · exact .tail _ (List.mem_append_left _ hp)
    · exact .tail _ (List.mem_append_right _ (.tail _ (.tail _ hp))))
  have kI : ∀ y : Addr × Obj, y ∈ (I, iterG lr' i d sl) :: (lh, homeO as n) :: (J, o1) :: its → OffD y.1 (deckC w.params Γ.D Γ.dd Γ.Lh Γ.tk dn cs.list) := fun y hy => by
    rcases K y (List.mem_append_left _ hy) with ⟨vs, hv⟩ | h
    · exact absurd hv (io.nt _ hy vs)
    · exact h
  have pw := io.pw
  simp only [List.pairwise_cons, List.forall_mem_cons] at pw
  obtain ⟨⟨aIh, aIJ, aIi⟩, ⟨ahJ, ahi⟩, -⟩ := pw
  have offI : OffD I tl := fun q hq => by
    rw [htl] at hq
    rcases List.mem_append.mp hq with hq | hq
    · exact kI _ (.head _) q hq
    rcases List.mem_append.mp hq with hq | hq
    · rcases List.mem_cons.mp hq with rfl | hq
      · exact aIJ
      · exact aIi q hq
    · exact io.off _ (.head _) q hq
  have offh : OffD lh tl := fun q hq => by
    rw [htl] at hq
    rcases List.mem_append.mp hq with hq | hq
    · exact kI _ (.tail _ (.head _)) q hq
    rcases List.mem_append.mp hq with hq | hq
    · rcases List.mem_cons.mp hq with rfl | hq
      · exact ahJ
      · exact ahi q hq
    · exact io.off _ (.tail _ (.head _)) q hq
  have aI : Ap Γ.lg I := off (I, _) (List.mem_append_right _ (.head _))
  have ah : Ap Γ.lg lh := off (lh, _) (List.mem_append_right _ (.tail _ (.head _)))
  clear N
  have B : Below (Lv 301 []) g [] g := ⟨rfl, fun _ _ e => e, trivial⟩
  refine for_turnN F N1 (.tail _ (.tail _ (.tail _ (by rw [htl]; exact List.mem_append_right _ (List.mem_append_right _ mr))))) (List.getElem?_eq_getElem hlt) (.head ?yhne) (by rw [hv]; exact goTuple) fun h1 d1 sl1 F1 N1' => ?_
  case yhne => exact List.forall_mem_cons.mpr ⟨aIh.ne', List.forall_mem_cons.mpr ⟨aI.ne, fun q hq => (offI q hq).ne'⟩⟩
  rw [hv]
  clear N1 F hv
  have hln : (as.map Value.ref).toArray.size = xs.length := by simp [hpaired.len]
  have fm : 0 ≤ (Γ.ff e.1.toNat + cuts + (xs.length : Nat) + e.1).fmod 2 ∧ (Γ.ff e.1.toNat + cuts + (xs.length : Nat) + e.1).fmod 2 ≤ 1 := by
    rw [Int.fmod_eq_emod_of_nonneg _ (by decide)]; omega
  have hsc : lawScope w.params = ⟨_, _, _, _, _⟩ := rfl
  show wpAny _ _ _ (fun _ s₂ => wpAny _ _ (execs [Stmt.If _ _ _ _] _) _ _ s₂) _ _
  dsimp only [lawEnv, lawA, lawM]
  rw [hsc]
  clear hsc
  k_steps
  all_goals (try dsimp only)
  all_goals (try k_data)
  · have hpe : Γ.pf e.1.toNat = p := by assumption
    rename_i D9 h8 l1 l2 l3 l4 h9 F9 N9
    have off9 := OffD.ofLt l4
    have eh : homeF Γ cuts p xs e = xs ++ [(nm e.1 ((Γ.ff e.1.toNat + cuts + xs.length + e.1).fmod 2), replyS Γ.mark (Γ.pf e.1.toNat))] := if_pos hpe
    have eo : listOf ((as.map Value.ref).toArray.push (.ref D9)) (n + 1) = homeO (as ++ [D9]) (n + 1) := by simp [homeO]
    rw [eo] at N9
    have N10 : ∃ t u, News g L h9 ((D9, tupOf [.str (nm e.1 ((Γ.ff e.1.toNat + cuts + xs.length + e.1).fmod 2)) t, .str (replyS Γ.mark (Γ.pf e.1.toNat)) u]) :: (I, iterG lr' (i + 1) d1 sl1) :: (lh, homeO (as ++ [D9]) (n + 1)) :: (Γ.lg, listOf gv ng) :: tl) := ⟨_, _, N9⟩
    clear N9
    obtain ⟨t9, u9, N9⟩ := N10
    (refine' h _ _ (as ++ [D9]) (n + 1) d1 sl1 ?ypp ?yrr (homeMake (nw := [(D9, tupOf [.str (nm e.1 ((Γ.ff e.1.toNat + cuts + xs.length + e.1).fmod 2)) t9, .str (replyS Γ.mark (Γ.pf e.1.toNat)) u9])]) htl K off hgv M fx io gs (fun vs => objNe (by rfl)) (fun vs => objNe (by rfl)) F9 ?ylc ?yNN ?yhn R0 ?ykd))
    case yNN =>
      intro q hq
      rcases List.mem_cons.mp hq with rfl | hq
      · exact N9 _ (.tail _ (.head _))
      rcases List.mem_cons.mp hq with rfl | hq
      · exact N9 _ (.tail _ (.tail _ (.head _)))
      rcases List.mem_cons.mp hq with rfl | hq
      · exact N9 _ (.tail _ (.tail _ (.tail _ (.head _))))
      rcases List.mem_cons.mp hq with rfl | hq
      · exact N9 _ (.head _)
      · exact N9 _ (.tail _ (.tail _ (.tail _ (.tail _ hq))))
    case ypp => k_extra "my look"
    case yrr => k_extra "my look"
    case ylc => k_extra "my locs"
    case yhn => exact List.forall_mem_cons.mpr ⟨⟨⟨_, rfl⟩, Ne.symm (Nat.ne_of_lt l1), Ne.symm (Nat.ne_of_lt l2), Ne.symm (Nat.ne_of_lt l3), off9⟩, fun _ h => nomatch h⟩
    case ykd =>
      refine ⟨?_, kd'.items.mono fun q hq => List.mem_append_right _ hq, fun l el => ⟨?_, (kd'.due l el).2.mono fun q hq => List.mem_append_right _ hq⟩, fun lh' as' xs' ee => ?_⟩
      · have := kd'.kept
        k_extra "my look"
      · have := (kd'.due l el).1
        k_extra "my look"
      · obtain ⟨rfl, rfl, rfl⟩ : lh = lh' ∧ as ++ [D9] = as' ∧ homeF Γ cuts p xs e = xs' := by simpa using ee
        refine ⟨by k_extra "my look", ?_⟩
        rw [eh]
        exact Paired.snoc (x := (nm e.1 ((Γ.ff e.1.toNat + cuts + xs.length + e.1).fmod 2), replyS Γ.mark (Γ.pf e.1.toNat))) (t := t9) (u := u9) (.head _) (hpaired.mono fun q hq => .tail _ hq)
  · have hpe : Γ.pf e.1.toNat ≠ p := by assumption
    rename_i h9 F9 N9 _ _
    have eh : homeF Γ cuts p xs e = xs := if_neg hpe
    (refine' h _ _ as n d1 sl1 ?ypp ?yrr (homeMake (nw := []) htl K off hgv M fx io gs (fun vs => objNe (by rfl)) (fun vs => objNe (by rfl)) F9 ?ylc N9 (fun _ h => nomatch h) R0 ?ykd))
    case ypp => k_extra "my look"
    case yrr => k_extra "my look"
    case ylc => k_extra "my locs"
    case ykd =>
      refine ⟨?_, kd'.items, fun l el => ⟨?_, (kd'.due l el).2⟩, fun lh' as' xs' ee => ?_⟩
      · have := kd'.kept
        k_extra "my look"
      · have := (kd'.due l el).1
        k_extra "my look"
      · obtain ⟨rfl, rfl, rfl⟩ : lh = lh' ∧ as = as' ∧ homeF Γ cuts p xs e = xs' := by simpa using ee
        exact ⟨by k_extra "my look", by rw [eh]; exact hpaired⟩
end
theorem LawSt.perm {w : World} {g : Heap} {L : Addr} {Γ : Cst} {row told : Six Ent} {cuts : Int} {cnt : Nat} {kd : Option Kd} {its its' : Led} {s : Shared} {m : Str → Option Value} (hp : its.Perm its') (S : LawSt w g L Γ row told cuts cnt kd its s m) : LawSt w g L Γ row told cuts cnt kd its' s m := by
  obtain ⟨kl, n, ng, gv, cs, lr, F, N, off, K, hgv, M, R, fx, lc, kdh, io, gs⟩ := S.ex
  have q : ∀ p, p ∈ its' ++ kl → p ∈ its ++ kl := fun p h => (List.mem_append.mp h).elim (fun h => List.mem_append_left _ (hp.mem_iff.mpr h)) (fun h => List.mem_append_right _ h)
  have q2 : ∀ {dk : Led} p, p ∈ dk ++ (its' ++ kl) → p ∈ dk ++ (its ++ kl) := fun p h => (List.mem_append.mp h).elim (fun h => List.mem_append_left _ h) (fun h => List.mem_append_right _ (q p h))
  refine ⟨kl, n, ng, gv, cs, lr, F, fun p h => ?_, fun p h => off p (q2 p h), fun p h => K p (q p h), hgv, M, R, fx, lc, kdh, ⟨fun p h => io.nt p (hp.mem_iff.mpr h), fun p h => io.off p (hp.mem_iff.mpr h), ?_⟩, gs⟩
  · rcases List.mem_cons.mp h with rfl | h
    · exact N _ (.head _)
    · exact N p (.tail _ (q2 p h))
  · exact (hp.pairwise_iff (fun h => Ap.symm h)).mp io.pw
theorem law_endRow {w : World} {g : Heap} {L : Addr} {Γ : Cst} {row told : Six Ent} {cuts : Int} {cnt : Nat} {kd : Option Kd} {its : Led} {s : Shared} {m : Str → Option Value} {R : Result → Shared → Prop} {body : List Stmt} {I lr : Addr} {d : Option Addr} {sl : Array (Option Value)} {t : PySem.Expr}
    (S : LawSt w g L Γ row told cuts cnt kd ((I, iterG lr 6 d sl) :: its) s m) (hrow : m (Str.ofString "row") = some (.ref lr))
    (h : ∀ s', LawSt w g L Γ row told cuts cnt kd its s' m → R (.ok .next) s') : codeAny (lawM w) (lawA w.params L) (.forLoop t (.ref I) body [] (lawEnv w.params L)) R s := by
  obtain ⟨rest, F, N, hne, hs, -, k⟩ := S.head
  obtain ⟨kl, n, ng, gv, cs, lr', F1, N1, off, K, hgv, M, RR, fx, lc, kdh, io, gs⟩ := S.ex
  obtain rfl : lr' = lr := by
    have := lc.row
    rw [this] at hrow; exact Value.ref.inj (Option.some.inj hrow)
  obtain ⟨r, nr, mr, hr⟩ := RR
  have ne : lr' ≠ I := (io.off (I, _) (.head _) _ mr).ne'
  have N2 : News g L s.heap ((lr', listOf (refs r) nr) :: (I, iterG lr' 6 d sl) :: rest) := fun p hp => by
    rcases List.mem_cons.mp hp with rfl | hp
    · exact N1 _ (.tail _ (List.mem_append_right _ (List.mem_append_right _ mr)))
    · exact N p hp
  exact for_endN F N2 (.head _) (.tail _ (.head _)) rfl rfl (.tail ne (.head hne)) fun h' F' N' => h _ (k _ ⟨rfl, rfl⟩ F' fun p hp => N' p (.tail _ hp))
noncomputable def homeI (Γ : Cst) (cuts : Int) (l : List Ent) (xs : List (Str × Str)) (p : Int) : List (Str × Str) := l.foldl (homeF Γ cuts p) xs
theorem homeF_len {Γ : Cst} {cuts p : Int} {xs : List (Str × Str)} {e : Ent} : (homeF Γ cuts p xs e).length ≤ xs.length + 1 := by
  unfold homeF
  split
  · simp
  · omega
theorem homeInner {w : World} {g : Heap} {L : Addr} {Γ : Cst} {row told : Six Ent} {cuts p : Int} {pt : Tok} {cnt : Nat} {its : Led} {lk lh I J lr : Addr} {o1 : Obj} {x : Six (Str × Str)} {ld : Option Addr} {mean : ExcName → Option Value} {mg mb : Str → Option Value} {R : Result → Shared → Prop} {kp fp tp : Pos}
    (X : (hd.heap_1 w.params).In g) (T : Top View Loose mean mg mb g) (ok : CstOk Γ) (ro : RowOk told) :
    ∀ (k i : Nat) (as : List Addr) (xs : List (Str × Str)) (n : Nat) (d : Option Addr) (sl : Array (Option Value)) (s : Shared) (m : Str → Option Value), i + k = 6 → xs.length + k ≤ 90 → m (Str.ofString "port") = some (.int p pt) → m (Str.ofString "row") = some (.ref lr) →
      LawSt w g L Γ row told cuts cnt (some ⟨lk, x, ld, some (lh, as, xs)⟩) ((I, iterG lr i d sl) :: (lh, homeO as n) :: (J, o1) :: its) s m →
      (∀ s' m' as' n', (homeI Γ cuts (told.list.drop i) xs p).length ≤ xs.length + k → LawSt w g L Γ row told cuts cnt (some ⟨lk, x, ld, some (lh, as', homeI Γ cuts (told.list.drop i) xs p)⟩) ((lh, homeO as' n') :: (J, o1) :: its) s' m' → R (.ok .next) s') →
      codeAny (lawM w) (lawA w.params L) (.forLoop (.Tuple [.Name (Str.ofString "k") kp, .Name (Str.ofString "face") fp] 0 tp) (.ref I) [hmS w.params] [] (lawEnv w.params L)) R s
  | 0, i, as, xs, n, d, sl, s, m, hi, hl, hp, hr, S, hend => by
    obtain rfl : i = 6 := by omega
    with_reducible refine law_endRow S hr ?_
    intro s' S'
    have e : told.list.drop 6 = [] := rfl
    rw [e] at hend
    exact hend s' m as n (Nat.le_refl _) S'
  | k + 1, i, as, xs, n, d, sl, s, m, hi, hl, hp, hr, S, hend => by
    have hlt : i < told.list.length := show i < 6 by omega
    have he := List.getElem?_eq_getElem hlt
    have hl2 : xs.length ≤ 100 := by omega
    with_reducible refine homeTurn X T ok ro he hl2 hp hr S ?_
    intro s2 m2 as2 n2 d2 sl2 hp2 hr2 S2
    have hF := @homeF_len Γ cuts p xs told.list[i]
    have ed : told.list.drop i = told.list[i] :: told.list.drop (i + 1) := List.drop_eq_getElem_cons hlt
    have ei : homeI Γ cuts (told.list.drop i) xs p = homeI Γ cuts (told.list.drop (i + 1)) (homeF Γ cuts p xs told.list[i]) p := by
      unfold homeI
      rw [ed, List.foldl_cons]
    rw [ei] at hend
    exact homeInner X T ok ro k (i + 1) as2 _ n2 d2 sl2 s2 m2 (by omega) (by omega) hp2 hr2 S2 fun s' m' as' n' h1 h2 => hend s' m' as' n' (by omega) h2
theorem homeIn {w : World} {g : Heap} {L : Addr} {Γ : Cst} {row told : Six Ent} {cuts p : Int} {pt : Tok} {cnt : Nat} {its : Led} {s : Shared} {m : Str → Option Value} {lk lh J : Addr} {o1 : Obj} {x : Six (Str × Str)} {ld : Option Addr} {as : List Addr} {xs : List (Str × Str)} {n : Nat} {mean : ExcName → Option Value} {mg mb : Str → Option Value} {rest : List Stmt} {Q : Flow → Shared → Prop} {E : Value → Shared → Prop}
    (X : (hd.heap_1 w.params).In g) (T : Top View Loose mean mg mb g) (ok : CstOk Γ) (ro : RowOk told) (hl : xs.length + 6 ≤ 90) (hp : m (Str.ofString "port") = some (.int p pt))
    (S : LawSt w g L Γ row told cuts cnt (some ⟨lk, x, ld, some (lh, as, xs)⟩) ((J, o1) :: (lh, homeO as n) :: its) s m)
    (h : ∀ s' m' as' n', (homeI Γ cuts told.list xs p).length ≤ xs.length + 6 → LawSt w g L Γ row told cuts cnt (some ⟨lk, x, ld, some (lh, as', homeI Γ cuts told.list xs p)⟩) ((J, o1) :: (lh, homeO as' n') :: its) s' m' → wpAny (lawM w) (lawA w.params L) (execs rest (lawEnv w.params L)) Q E s') :
    wpAny (lawM w) (lawA w.params L) (execs (homS w.params :: rest) (lawEnv w.params L)) Q E s := by
  obtain ⟨kl, dn, ng, gv, cs, lr, F1, N1, off, K, hgv, M, RR, fx, lc, kdh, io, gs⟩ := S.ex
  have hrow := lc.row
  obtain ⟨r, nr, mr, hr⟩ := RR
  obtain ⟨big, F, N, hin, k1, k2⟩ := S.all
  have N2 : News g L s.heap ((lr, listOf (refs r) nr) :: big) := fun q hq => by
    rcases List.mem_cons.mp hq with rfl | hq
    · exact N1 _ (.tail _ (List.mem_append_right _ (List.mem_append_right _ mr)))
    · exact N q hq
  clear N1 F1
  have B : Below (Lv 301 []) g [] g := ⟨rfl, fun _ _ e => e, trivial⟩
  have hsc : lawScope w.params = ⟨_, _, _, _, _⟩ := rfl
  show wpAny _ _ (execs (Stmt.For _ _ _ _ _ :: _) _) _ _ _
  dsimp only [lawEnv, lawA, lawM]
  rw [hsc]
  clear hsc
  iterate 3 (first | walk1 | (dsimp only; walk1) | (k_unfold; (try dsimp only)))
  refine' pyIterN ?yF ?yN ?yhm ?_
  case yF => exact F
  case yN => exact N2
  case yhm => exact .head _
  intro I h9 F9 N9 lt9
  have S' := fun tk => LawSt.perm (its' := (I, iterG lr 0 none #[]) :: (lh, homeO as n) :: (J, o1) :: its) (.cons _ (.swap _ _ _)) (k2 ⟨h9, s.gens, s.drawn, tk, s.os⟩ m I _ ⟨rfl, rfl⟩ Same.refl F9 (fun q hq => N9 q (by
    rcases List.mem_cons.mp hq with rfl | hq
    · exact .head _
    · exact .tail _ (.tail _ hq))) (fun q hq => lt9 q (.tail _ hq)) fun vs => objNe (by rfl))
  show codeAny _ (lawA w.params L) (.forLoop (.Tuple [.Name (Str.ofString "k") _, .Name (Str.ofString "face") _] 0 _) (.ref I) [hmS w.params] [] (lawEnv w.params L)) _ _
  with_reducible refine homeInner X T ok ro 6 0 as xs n none #[] _ m rfl hl hp hrow (S' _) ?_
  intro s2 m2 as2 n2 hl2 S2
  exact h s2 m2 as2 n2 hl2 (S2.perm (.swap _ _ _))
noncomputable def homeN (Γ : Cst) (cuts : Int) (l : List Ent) : Nat → Nat → List (Str × Str) → List (Str × Str)
  | 0, _, xs => xs
  | k + 1, i, xs => homeN Γ cuts l k (i + 1) (homeI Γ cuts l xs (i : Nat))
theorem homeLoop {w : World} {g : Heap} {L : Addr} {Γ : Cst} {row told : Six Ent} {cuts : Int} {cnt : Nat} {its : Led} {lk lh J : Addr} {x : Six (Str × Str)} {ld : Option Addr} {mean : ExcName → Option Value} {mg mb : Str → Option Value} {R : Result → Shared → Prop} {py : Pos}
    (X : (hd.heap_1 w.params).In g) (T : Top View Loose mean mg mb g) (ok : CstOk Γ) (ro : RowOk told) :
    ∀ (k i : Nat) (as : List Addr) (xs : List (Str × Str)) (n : Nat) (s : Shared) (m : Str → Option Value), i + k = 6 → xs.length + 6 * k ≤ 80 → LawSt w g L Γ row told cuts cnt (some ⟨lk, x, ld, some (lh, as, xs)⟩) ((J, rangeG (i : Nat) (6 - (i : Nat))) :: (lh, homeO as n) :: its) s m →
      (∀ s' m' as' n', LawSt w g L Γ row told cuts cnt (some ⟨lk, x, ld, some (lh, as', homeN Γ cuts told.list k i xs)⟩) ((lh, homeO as' n') :: its) s' m' → R (.ok .next) s') →
      codeAny (lawM w) (lawA w.params L) (.forLoop (.Name (Str.ofString "port") py) (.ref J) [homS w.params] [] (lawEnv w.params L)) R s
  | 0, i, as, xs, n, s, m, hi, hl, S, hend => law_endR S (by omega) fun s' S' => hend s' m as n S'
  | k + 1, i, as, xs, n, s, m, hi, hl, S, hend => by
    have y1 : lawNames.contains (Str.ofString "port") = false := by decide
    have y2 : (lawScope w.params).kind = .function := rfl
    have y3 : (lawEnv w.params L).kindOf (Str.ofString "port") = some .local := rfl
    have lt : (0 : Int) < 6 - (i : Nat) := by omega
    with_reducible refine law_turnR S lt y1 y2 y3 ?_
    intro s1 t1 S1
    have v1 : (fun z => if z = Str.ofString "port" then some (Value.int (i : Nat) t1) else m z) (Str.ofString "port") = some (.int (i : Nat) t1) := if_pos rfl
    rw [show ((i : Nat) : Int) + 1 = ((i + 1 : Nat) : Int) from rfl, show (6 : Int) - (i : Nat) - 1 = 6 - ((i + 1 : Nat) : Int) from by omega] at S1
    have hl1 : xs.length + 6 ≤ 90 := by omega
    with_reducible refine homeIn X T ok ro hl1 v1 S1 ?_
    intro s2 m2 as2 n2 hl2 S2
    exact wpAny_execs_nil (homeLoop X T ok ro k (i + 1) as2 _ n2 s2 m2 (by omega) (by omega) S2 hend)
theorem homeStmt {w : World} {g : Heap} {L : Addr} {Γ : Cst} {row told : Six Ent} {cuts : Int} {cnt : Nat} {its : Led} {s : Shared} {m : Str → Option Value} {lk lh : Addr} {x : Six (Str × Str)} {ld : Option Addr} {n : Nat} {mean : ExcName → Option Value} {mg mb : Str → Option Value} {rest : List Stmt} {Q : Flow → Shared → Prop} {E : Value → Shared → Prop}
    (X : (hd.heap_1 w.params).In g) (T : Top View Loose mean mg mb g) (ok : CstOk Γ) (ro : RowOk told)
    (S : LawSt w g L Γ row told cuts cnt (some ⟨lk, x, ld, some (lh, [], [])⟩) ((lh, homeO [] n) :: its) s m)
    (h : ∀ s' m' as' n', LawSt w g L Γ row told cuts cnt (some ⟨lk, x, ld, some (lh, as', homeN Γ cuts told.list 6 0 [])⟩) ((lh, homeO as' n') :: its) s' m' → wpAny (lawM w) (lawA w.params L) (execs rest (lawEnv w.params L)) Q E s') :
    wpAny (lawM w) (lawA w.params L) (execs (stmtAt w.params 22 :: rest) (lawEnv w.params L)) Q E s := by
  obtain ⟨big, F, N, hin, k1, k2⟩ := S.all
  have B : Below (Lv 301 []) g [] g := ⟨rfl, fun _ _ e => e, trivial⟩
  have hsc : lawScope w.params = ⟨_, _, _, _, _⟩ := rfl
  show wpAny _ _ (execs (Stmt.For _ _ _ _ _ :: _) _) _ _ _
  dsimp only [lawEnv, lawA, lawM]
  rw [hsc]
  clear hsc
  iterate 10 (first | walk1 | (dsimp only; walk1) | (k_unfold; (try dsimp only)))
  rename_i I h9 F9 N9 lt9
  have S' := fun tk => k2 ⟨h9, s.gens, s.drawn, tk, s.os⟩ m I _ ⟨rfl, rfl⟩ Same.refl F9 N9 lt9 fun vs => objNe (by rfl)
  show codeAny _ (lawA w.params L) (.forLoop (.Name (Str.ofString "port") _) (.ref I) [homS w.params] [] (lawEnv w.params L)) _ _
  have l0 : ([] : List (Str × Str)).length + 6 * 6 ≤ 80 := by decide
  with_reducible refine homeLoop X T ok ro 6 0 [] [] n _ m rfl l0 (S' _) ?_
  intro s2 m2 as2 n2 S2
  exact h s2 m2 as2 n2 S2
/-- the keys of a row -/
noncomputable abbrev ksOf (x : Six Ent) : List Int := x.list.map (·.1)
noncomputable abbrev onP (Γ : Cst) (p : Int) (l : List Int) : List Int := l.filter fun k => Γ.pf k.toNat == p
/-- cards put down from place n on -/
noncomputable def placed (Γ : Cst) (cuts : Int) : Nat → List Int → List (Str × Str)
  | _, [] => []
  | n, k :: ks => (nm k ((Γ.ff k.toNat + cuts + n + k).fmod 2), replyS Γ.mark (Γ.pf k.toNat)) :: placed Γ cuts (n + 1) ks
theorem placed_append {Γ : Cst} {cuts : Int} : ∀ {a b : List Int} {n : Nat}, placed Γ cuts n (a ++ b) = placed Γ cuts n a ++ placed Γ cuts (n + a.length) b
  | [], _, _ => rfl
  | k :: ks, b, n => by
    show _ :: placed Γ cuts (n + 1) (ks ++ b) = _ :: (placed Γ cuts (n + 1) ks ++ _)
    rw [placed_append, List.length_cons, show n + 1 + ks.length = n + (ks.length + 1) from by omega]
theorem placed_len {Γ : Cst} {cuts : Int} : ∀ {a : List Int} {n : Nat}, (placed Γ cuts n a).length = a.length
  | [], _ => rfl
  | _ :: _, _ => congrArg (· + 1) placed_len
theorem homeI_eq {Γ : Cst} {cuts p : Int} : ∀ {l : List Ent} {xs : List (Str × Str)}, homeI Γ cuts l xs p = xs ++ placed Γ cuts xs.length (onP Γ p (l.map (·.1)))
  | [], xs => by show xs = xs ++ []; rw [List.append_nil]
  | e :: l, xs => by
    show homeI Γ cuts l (homeF Γ cuts p xs e) p = _
    rw [homeI_eq]
    unfold homeF onP
    rw [List.map_cons, List.filter_cons]
    rcases Decidable.em (Γ.pf e.1.toNat = p) with h | h
    · rw [if_pos h, if_pos (by simpa using h)]
      rw [List.append_assoc, List.length_append]
      rfl
    · rw [if_neg h, if_neg (by simpa using h)]
noncomputable def runs (Γ : Cst) (l : List Int) : Nat → Nat → List Int
  | 0, _ => []
  | k + 1, i => onP Γ (i : Nat) l ++ runs Γ l k (i + 1)
theorem homeN_eq {Γ : Cst} {cuts : Int} {l : List Ent} : ∀ {k i : Nat} {xs : List (Str × Str)}, homeN Γ cuts l k i xs = xs ++ placed Γ cuts xs.length (runs Γ (l.map (·.1)) k i)
  | 0, _, xs => by show xs = xs ++ []; rw [List.append_nil]
  | k + 1, i, xs => by
    show homeN Γ cuts l k (i + 1) (homeI Γ cuts l xs (i : Nat)) = _
    rw [homeN_eq, homeI_eq]
    show _ = xs ++ placed Γ cuts xs.length (onP Γ (i : Nat) (l.map (·.1)) ++ runs Γ (l.map (·.1)) k (i + 1))
    rw [placed_append, List.length_append, placed_len, List.append_assoc]
/-- a sorted list is its runs -/
theorem runs_sorted {Γ : Cst} : ∀ {k i : Nat} {l : List Int}, (∀ a ∈ l, (i : Int) ≤ Γ.pf a.toNat ∧ Γ.pf a.toNat < (i : Int) + k) → l.Pairwise (fun a b => Γ.pf a.toNat ≤ Γ.pf b.toNat) → runs Γ l k i = l
  | 0, i, [], _, _ => rfl
  | 0, i, a :: l, h, _ => absurd (h a (.head _)) (by omega)
  | k + 1, i, l, h, hp => by
    show onP Γ (i : Nat) l ++ runs Γ l k (i + 1) = l
    obtain ⟨a, b, rfl, ha, hb⟩ : ∃ a b, l = a ++ b ∧ (∀ x ∈ a, Γ.pf x.toNat = (i : Nat)) ∧ ∀ x ∈ b, (i : Int) < Γ.pf x.toNat := by
      revert h hp
      induction l with
      | nil => exact fun _ _ => ⟨[], [], rfl, (fun _ h => nomatch h), fun _ h => nomatch h⟩
      | cons x l ih =>
        intro h hp
        rw [List.pairwise_cons] at hp
        rcases Decidable.em (Γ.pf x.toNat = (i : Nat)) with e | e
        · obtain ⟨a, b, rfl, ha, hb⟩ := ih (fun y hy => h y (.tail _ hy)) hp.2
          exact ⟨x :: a, b, rfl, List.forall_mem_cons.mpr ⟨e, ha⟩, hb⟩
        · have hx := h x (.head _)
          exact ⟨[], x :: l, rfl, (fun _ h => nomatch h), List.forall_mem_cons.mpr ⟨by omega, fun y hy => by have := hp.1 y hy; omega⟩⟩
    have e1 : onP Γ (i : Nat) (a ++ b) = a := by
      unfold onP
      rw [List.filter_append, List.filter_eq_self.mpr (fun x hx => by simpa using ha x hx), List.filter_eq_nil_iff.mpr (fun x hx => by have := hb x hx; simp; omega), List.append_nil]
    have e2 : ∀ (k j : Nat), i < j → runs Γ (a ++ b) k j = runs Γ b k j := fun k => by
      induction k with
      | zero => exact fun _ _ => rfl
      | succ k ih =>
        intro j hj
        show onP Γ (j : Nat) (a ++ b) ++ runs Γ (a ++ b) k (j + 1) = onP Γ (j : Nat) b ++ runs Γ b k (j + 1)
        rw [ih (j + 1) (by omega)]
        congr 1
        unfold onP
        rw [List.filter_append, List.filter_eq_nil_iff.mpr (fun x hx => by have := ha x hx; simp; omega), List.nil_append]
    rw [e1, e2 k (i + 1) (by omega)]
    congr 1
    refine runs_sorted (fun x hx => ?_) ((List.pairwise_append.mp hp).2.1)
    have h1 := hb x hx
    have h2 := h x (List.mem_append_right _ hx)
    omega
theorem runs_congr {Γ : Cst} {l l' : List Int} (h : ∀ p, onP Γ p l = onP Γ p l') : ∀ {k i : Nat}, runs Γ l k i = runs Γ l' k i
  | 0, _ => rfl
  | k + 1, i => by show onP Γ (i : Nat) l ++ runs Γ l k (i + 1) = onP Γ (i : Nat) l' ++ runs Γ l' k (i + 1); rw [h, runs_congr h]
/-- the sort upon six keys -/
noncomputable abbrev K6 := Six Int
noncomputable def cswap (pf : Nat → Int) (a b : Int) : Int × Int := if pf b.toNat < pf a.toNat then (b, a) else (a, b)
noncomputable def oddR (pf : Nat → Int) (x : K6) : K6 := let (b, c) := cswap pf x.b x.c; let (d, e) := cswap pf x.d x.e; ⟨x.a, b, c, d, e, x.f⟩
noncomputable def evenR (pf : Nat → Int) (x : K6) : K6 := let (a, b) := cswap pf x.a x.b; let (c, d) := cswap pf x.c x.d; let (e, f) := cswap pf x.e x.f; ⟨a, b, c, d, e, f⟩
noncomputable def keyS (x : Six Ent) : K6 := ⟨x.a.1, x.b.1, x.c.1, x.d.1, x.e.1, x.f.1⟩
theorem keyS_pair {pf : Nat → Int} {x : Six Ent} : keyS (pairF pf x) = ⟨x.c.1, x.d.1, x.e.1, x.f.1, (cswap pf x.a.1 x.b.1).1, (cswap pf x.a.1 x.b.1).2⟩ := by
  unfold pairF cswap
  split <;> rfl
theorem keyS_round {pf : Nat → Int} {i : Nat} {x : Six Ent} : keyS (roundF pf i x) = if i % 2 = 0 then evenR pf (keyS x) else oddR pf (keyS x) := by
  unfold roundF
  have pr : ∀ x : Six Ent, (pairF pf x).a.1 = x.c.1 ∧ (pairF pf x).b.1 = x.d.1 ∧ (pairF pf x).c.1 = x.e.1 ∧ (pairF pf x).d.1 = x.f.1 ∧ (pairF pf x).e.1 = (cswap pf x.a.1 x.b.1).1 ∧ (pairF pf x).f.1 = (cswap pf x.a.1 x.b.1).2 := fun x => by
    have := @keyS_pair pf x
    simp only [keyS, Six.mk.injEq] at this
    exact this
  split
  · show keyS (pairF pf (pairF pf (pairF pf x))) = _
    simp only [keyS, pr, evenR]
  · show keyS (cutR (pairF pf (pairF pf (cutR x)))) = _
    simp only [keyS, cutR, pr, oddR]
noncomputable def sort6 (pf : Nat → Int) (x : K6) : K6 := oddR pf (evenR pf (oddR pf (evenR pf (oddR pf (evenR pf x)))))
theorem keyS_sort {pf : Nat → Int} {x : Six Ent} : keyS (roundN pf 6 0 x) = sort6 pf (keyS x) := by
  show keyS (roundF pf 5 (roundF pf 4 (roundF pf 3 (roundF pf 2 (roundF pf 1 (roundF pf 0 x)))))) = _
  rw [keyS_round, keyS_round, keyS_round, keyS_round, keyS_round, keyS_round]
  rfl
/-- like ones stay in their order -/
theorem cswap_on {Γ : Cst} {p : Int} {a b : Int} {l : List Int} : onP Γ p ((cswap Γ.pf a b).1 :: (cswap Γ.pf a b).2 :: l) = onP Γ p (a :: b :: l) := by
  unfold cswap
  split
  · rename_i h
    unfold onP
    simp only [List.filter_cons]
    by_cases h1 : Γ.pf a.toNat = p <;> by_cases h2 : Γ.pf b.toNat = p <;> simp [h1, h2] <;> omega
  · rfl
theorem on_cons {Γ : Cst} {p a : Int} {l l' : List Int} (h : onP Γ p l = onP Γ p l') : onP Γ p (a :: l) = onP Γ p (a :: l') := by
  unfold onP at *
  rw [List.filter_cons, List.filter_cons, h]
theorem on_even {Γ : Cst} {p : Int} {x : K6} : onP Γ p (evenR Γ.pf x).list = onP Γ p x.list := by
  show onP Γ p ((cswap Γ.pf x.a x.b).1 :: (cswap Γ.pf x.a x.b).2 :: (cswap Γ.pf x.c x.d).1 :: (cswap Γ.pf x.c x.d).2 :: (cswap Γ.pf x.e x.f).1 :: (cswap Γ.pf x.e x.f).2 :: []) = _
  rw [cswap_on]
  exact on_cons (on_cons (cswap_on.trans (on_cons (on_cons cswap_on))))
theorem on_odd {Γ : Cst} {p : Int} {x : K6} : onP Γ p (oddR Γ.pf x).list = onP Γ p x.list := by
  show onP Γ p (x.a :: (cswap Γ.pf x.b x.c).1 :: (cswap Γ.pf x.b x.c).2 :: (cswap Γ.pf x.d x.e).1 :: (cswap Γ.pf x.d x.e).2 :: [x.f]) = _
  exact on_cons (cswap_on.trans (on_cons (on_cons cswap_on)))
theorem on_sort {Γ : Cst} {p : Int} {x : K6} : onP Γ p (sort6 Γ.pf x).list = onP Γ p x.list := by
  unfold sort6
  rw [on_odd, on_even, on_odd, on_even, on_odd, on_even]
/-- the sort seen through a threshold -/
structure B6 where
  a : Bool
  b : Bool
  c : Bool
  d : Bool
  e : Bool
  f : Bool
noncomputable def seen (pf : Nat → Int) (t : Int) (x : K6) : B6 := ⟨decide (t < pf x.a.toNat), decide (t < pf x.b.toNat), decide (t < pf x.c.toNat), decide (t < pf x.d.toNat), decide (t < pf x.e.toNat), decide (t < pf x.f.toNat)⟩
noncomputable def evenB (x : B6) : B6 := ⟨x.a && x.b, x.a || x.b, x.c && x.d, x.c || x.d, x.e && x.f, x.e || x.f⟩
noncomputable def oddB (x : B6) : B6 := ⟨x.a, x.b && x.c, x.b || x.c, x.d && x.e, x.d || x.e, x.f⟩
theorem cswap_seen {pf : Nat → Int} {t a b : Int} : decide (t < pf (cswap pf a b).1.toNat) = (decide (t < pf a.toNat) && decide (t < pf b.toNat)) ∧ decide (t < pf (cswap pf a b).2.toNat) = (decide (t < pf a.toNat) || decide (t < pf b.toNat)) := by
  unfold cswap
  split
  · by_cases h1 : t < pf a.toNat <;> by_cases h2 : t < pf b.toNat <;> simp [h1, h2] <;> omega
  · by_cases h1 : t < pf a.toNat <;> by_cases h2 : t < pf b.toNat <;> simp [h1, h2] <;> omega
theorem seen_even {pf : Nat → Int} {t : Int} {x : K6} : seen pf t (evenR pf x) = evenB (seen pf t x) := by
  have q := fun a b => @cswap_seen pf t a b
  show B6.mk _ _ _ _ _ _ = B6.mk _ _ _ _ _ _
  rw [B6.mk.injEq]
  exact ⟨(q _ _).1, (q _ _).2, (q _ _).1, (q _ _).2, (q _ _).1, (q _ _).2⟩
theorem seen_odd {pf : Nat → Int} {t : Int} {x : K6} : seen pf t (oddR pf x) = oddB (seen pf t x) := by
  have q := fun a b => @cswap_seen pf t a b
  show B6.mk _ _ _ _ _ _ = B6.mk _ _ _ _ _ _
  rw [B6.mk.injEq]
  exact ⟨rfl, (q _ _).1, (q _ _).2, (q _ _).1, (q _ _).2, rfl⟩
noncomputable def upB (x : B6) : Bool := (!x.a || x.b) && (!x.b || x.c) && (!x.c || x.d) && (!x.d || x.e) && (!x.e || x.f)
theorem sort_up : ∀ a b c d e f : Bool, upB (oddB (evenB (oddB (evenB (oddB (evenB ⟨a, b, c, d, e, f⟩)))))) = true := by decide
theorem seen_sort {pf : Nat → Int} {t : Int} {x : K6} : upB (seen pf t (sort6 pf x)) = true := by
  unfold sort6
  rw [seen_odd, seen_even, seen_odd, seen_even, seen_odd, seen_even]
  exact sort_up _ _ _ _ _ _
theorem sorted6 {pf : Nat → Int} {x : K6} : (sort6 pf x).list.Pairwise (fun a b => pf a.toNat ≤ pf b.toNat) := by
  have h : ∀ t, upB (seen pf t (sort6 pf x)) = true := fun t => seen_sort
  generalize sort6 pf x = y at h
  have g : ∀ t, (t < pf y.a.toNat → t < pf y.b.toNat) ∧ (t < pf y.b.toNat → t < pf y.c.toNat) ∧ (t < pf y.c.toNat → t < pf y.d.toNat) ∧ (t < pf y.d.toNat → t < pf y.e.toNat) ∧ (t < pf y.e.toNat → t < pf y.f.toNat) := fun t => by
    have := h t
    simp only [upB, seen, Bool.and_eq_true, Bool.or_eq_true, Bool.not_eq_true', decide_eq_true_eq, decide_eq_false_iff_not] at this
    obtain ⟨⟨⟨⟨h1, h2⟩, h3⟩, h4⟩, h5⟩ := this
    exact ⟨fun q => h1.resolve_left fun n => n q, fun q => h2.resolve_left fun n => n q, fun q => h3.resolve_left fun n => n q, fun q => h4.resolve_left fun n => n q, fun q => h5.resolve_left fun n => n q⟩
  have l1 : pf y.a.toNat ≤ pf y.b.toNat := Int.not_lt.mp fun q => Int.lt_irrefl _ ((g _).1 q)
  have l2 : pf y.b.toNat ≤ pf y.c.toNat := Int.not_lt.mp fun q => Int.lt_irrefl _ ((g _).2.1 q)
  have l3 : pf y.c.toNat ≤ pf y.d.toNat := Int.not_lt.mp fun q => Int.lt_irrefl _ ((g _).2.2.1 q)
  have l4 : pf y.d.toNat ≤ pf y.e.toNat := Int.not_lt.mp fun q => Int.lt_irrefl _ ((g _).2.2.2.1 q)
  have l5 : pf y.e.toNat ≤ pf y.f.toNat := Int.not_lt.mp fun q => Int.lt_irrefl _ ((g _).2.2.2.2 q)
  clear g h
  simp only [Six.list, List.pairwise_cons, List.forall_mem_cons, List.not_mem_nil, false_implies, implies_true, and_true, List.Pairwise.nil]
  have m2 := Int.le_trans l1 l2
  have m3 := Int.le_trans l2 l3
  have m4 := Int.le_trans l3 l4
  have m5 := Int.le_trans l4 l5
  have n3 := Int.le_trans l1 m3
  have n4 := Int.le_trans l2 m4
  have n5 := Int.le_trans l3 m5
  have o4 := Int.le_trans l1 n4
  have o5 := Int.le_trans l2 n5
  exact ⟨⟨l1, m2, n3, o4, Int.le_trans l1 o5⟩, ⟨l2, m3, n4, o5⟩, ⟨l3, m4, n5⟩, ⟨l4, m5⟩, l5⟩
/-- behind the rounds Par still holds -/
theorem Par.same {Γ : Cst} {x : Six Ent} {c c' : Int} (h : Par Γ x c) (e : c % 2 = c' % 2) : Par Γ x c' :=
  ⟨h.1.trans e, h.2.1.trans e, h.2.2.1.trans e, h.2.2.2.1.trans e, h.2.2.2.2.1.trans e, h.2.2.2.2.2.trans e⟩
theorem two_more {c : Int} : (c + 1 + 1) % 2 = c % 2 := by rw [Int.add_assoc]; exact Int.add_emod_right c 2
theorem Par.pair {Γ : Cst} {x : Six Ent} {c : Int} {pf : Nat → Int} (h : Par Γ x c) : Par Γ (pairF pf x) c := by
  unfold pairF
  split
  · exact h.turn
  · exact h.cut.cut.same two_more
theorem Par.pairs {Γ : Cst} {pf : Nat → Int} {c : Int} : ∀ {k : Nat} {x : Six Ent}, Par Γ x c → Par Γ (pairN pf k x) c
  | 0, _, h => h
  | _ + 1, _, h => h.pair.pairs
theorem Par.round {Γ : Cst} {pf : Nat → Int} {c : Int} {i : Nat} {x : Six Ent} (h : Par Γ x c) : Par Γ (roundF pf i x) c := by
  unfold roundF
  split
  · exact h.pairs
  · exact h.cut.pairs.cut.same two_more
theorem Par.rounds {Γ : Cst} {pf : Nat → Int} {c : Int} : ∀ {k i : Nat} {x : Six Ent}, Par Γ x c → Par Γ (roundN pf k i x) c
  | 0, _, _, h => h
  | _ + 1, _, _, h => h.round.rounds
/-- a row whose faces are told by their places -/
theorem xOf_placed {Γ : Cst} {cuts : Int} {x : Six Ent} (ok : CstOk Γ) (ro : RowOk x) (pr : Par Γ x cuts) : (xOf Γ x).list = placed Γ cuts 0 (ksOf x) := by
  have h := ro.1
  simp only [Six.list, List.forall_mem_cons, List.not_mem_nil, false_implies, implies_true, and_true] at h
  obtain ⟨a, b, c, d, e, f⟩ := h
  have one : ∀ (y : Ent) (n : Nat), EntOk y → ((n : Int) + y.1 + y.2 + Γ.ff y.1.toNat) % 2 = cuts % 2 → pairOf Γ y = (nm y.1 ((Γ.ff y.1.toNat + cuts + n + y.1).fmod 2), replyS Γ.mark (Γ.pf y.1.toNat)) := fun y n oy hy => by
    obtain ⟨k0, k6, f01⟩ := oy
    have ff := ok.ff y.1.toNat (by omega)
    unfold pairOf
    rw [Int.fmod_eq_emod_of_nonneg _ (by decide), show (Γ.ff y.1.toNat + cuts + n + y.1) % 2 = y.2 from by omega]
  obtain ⟨p0, p1, p2, p3, p4, p5⟩ := pr
  show [pairOf Γ x.a, pairOf Γ x.b, pairOf Γ x.c, pairOf Γ x.d, pairOf Γ x.e, pairOf Γ x.f] = _
  rw [one x.a 0 a (by show ((0 : Int) + x.a.1 + x.a.2 + Γ.ff x.a.1.toNat) % 2 = _; rw [Int.zero_add]; exact p0), one x.b 1 b p1, one x.c 2 c p2, one x.d 3 d p3, one x.e 4 e p4, one x.f 5 f p5]
  rfl
theorem home_final {Γ : Cst} {cuts : Int} {row : Six Ent} (ok : CstOk Γ) (pr : Par Γ row cuts) (rf : RowOk (roundN Γ.pf 6 0 row)) : homeN Γ cuts row.list 6 0 [] = (xOf Γ (roundN Γ.pf 6 0 row)).list := by
  rw [homeN_eq, xOf_placed ok rf pr.rounds]
  show placed Γ cuts 0 (runs Γ (row.list.map (·.1)) 6 0) = _
  congr 1
  have e1 : ksOf (roundN Γ.pf 6 0 row) = (sort6 Γ.pf (keyS row)).list := by
    rw [← keyS_sort]; rfl
  have e2 : row.list.map (·.1) = (keyS row).list := rfl
  rw [e1, e2]
  have hb : ∀ a ∈ (sort6 Γ.pf (keyS row)).list, ((0 : Nat) : Int) ≤ Γ.pf a.toNat ∧ Γ.pf a.toNat < ((0 : Nat) : Int) + (6 : Nat) := fun a ha => by
    rw [← e1] at ha
    obtain ⟨y, hy, rfl⟩ := List.mem_map.mp ha
    have oy := rf.1 y hy
    have hp := ok.pf y.1.toNat (by have := oy.1; have := oy.2.1; omega)
    omega
  rw [← runs_sorted hb sorted6]
  exact runs_congr fun p => on_sort.symm
noncomputable def fnFd (P : Params) (a : Nat) : Option FuncData := match (hd.heap_1 P).lookup a with
  | some ⟨_, _, .func fd, _⟩ => some fd
  | _ => none
noncomputable def fnBody (P : Params) (a : Nat) : List Stmt := match fnFd P a with
  | some fd => fdBody fd.body
  | none => []
noncomputable def fnScope (P : Params) (a : Nat) : Scope := match fnFd P a with
  | some fd => fd.scope
  | none => default
noncomputable def cntB (P : Params) : List Stmt := bodyOf ((fnBody P 247).getD 1 default)
noncomputable abbrev cntEnv (P : Params) (L : Addr) : Env := envOf (Str.ofString "countOf") (fnScope P 247) L 247 (.ref 246)
noncomputable abbrev cntM (cv : Option Value) (n : Int) (t : Tok) (a : Addr) : Str → Option Value := fun z => if z = Str.ofString "i" then cv else if z = Str.ofString "count" then some (.int n t) else if z = Str.ofString "a" then some (.ref a) else if z = Str.ofString "b" then some .none else none
theorem count_loop {w : World} {outer : List Env} {g : Heap} {L a I : Addr} {vs : Array Value} {nn : Nat} {R : Result → Shared → Prop} {py : Pos} {mean : ExcName → Option Value} {mg mb : Str → Option Value} (s0 : Shared)
    (X : (hd.heap_1 w.params).In g) (T : Top View Loose mean mg mb g) (hv : vs.toList = List.replicate vs.size .none) (ha : Ap I a)
    (hend : ∀ h tk cv t, Fr g L h (cntM cv vs.size t a) → News g L h [(a, listOf vs nn)] → R (.ok .next) { s0 with heap := h, toks := tk }) :
    ∀ (k i : Nat) (h : Heap) (tk : Nat) (cv : Option Value) (t : Tok) (d : Option Addr) (sl : Array (Option Value)), i + k = vs.size → Fr g L h (cntM cv (i : Nat) t a) → News g L h [(I, iterG a i d sl), (a, listOf vs nn)] →
      codeAny (lawM w) ((Lv 480 outer).deeper (cntEnv w.params L)) (.forLoop (.Name (Str.ofString "i") py) (.ref I) (cntB w.params) [] (cntEnv w.params L)) R { s0 with heap := h, toks := tk }
  | 0, i, h, tk, cv, t, d, sl, hi, F, N => by
    obtain rfl : i = vs.size := by omega
    exact for_endN F N (.tail _ (.head _)) (.head _) (by simp) rfl (.head (List.forall_mem_cons.mpr ⟨ha.ne', fun _ h => nomatch h⟩)) fun h' F' N' => hend _ _ _ _ F' N'
  | k + 1, i, h, tk, cv, t, d, sl, hi, F, N => by
    have hx : vs.toList[i]? = some .none := by
      rw [hv, List.getElem?_replicate, if_pos (by omega)]
    refine for_turnN F N (.tail _ (.head _)) hx (.head (List.forall_mem_cons.mpr ⟨ha.ne', fun _ h => nomatch h⟩)) goName fun h' d' sl' F' N' => ?_
    clear N F hx
    have hi1 : i + 1 + k = vs.size := by omega
    have ih := fun h tk cv t d sl => count_loop (outer := outer) (nn := nn) (py := py) s0 X T hv ha hend k (i + 1) h tk cv t d sl hi1
    have hsc : fnScope w.params 247 = ⟨_, _, _, _, _⟩ := rfl
    show wpAny _ _ _ (fun _ s₂ => wpAny _ _ (execs [Stmt.If _ _ _ _] _) _ _ s₂) _ _
    dsimp only [cntEnv, lawM]
    rw [hsc]
    clear hsc
    k_steps
    all_goals (try dsimp only)
    rename_i h9 F9 N9
    have F10 : ∃ t, Fr g L h9 (cntM (some .none) ((i + 1 : Nat)) t a) := by
      refine' ⟨?yt1, frTo F9 fun y => ?yfr⟩
      case yfr =>
        rcases Decidable.em (y = Str.ofString "count") with rfl | q1
        · rfl
        rcases Decidable.em (y = Str.ofString "i") with rfl | q2
        · rfl
        simp only [cntM, if_neg q1, if_neg q2]
    obtain ⟨t1, F10⟩ := F10
    exact ih _ _ _ t1 _ _ F10 N9
section
local macro_rules | `(tactic| walk_at "exec For") => `(tactic| (k_dflt (refine wpAny_For ?_)))
local macro_rules | `(tactic| walk_at "exec For Name Name cons nil") => `(tactic| (k_dflt (refine wpAny_For ?_)))
theorem count_none {w : World} {outer : List Env} {g : Heap} {s : Shared} {R : Result → Shared → Prop} {a : Addr} {vs : Array Value} {nn : Nat} (W : Wd w outer g [(a, listOf vs nn)] s) (hv : vs.toList = List.replicate vs.size .none) (hsz : vs.size ≤ 200)
  (hret : ∀ h' tk' t', Wd w outer g [(a, listOf vs nn)] { s with heap := h', toks := tk' } → R (.ok (.ret (.int vs.size t'))) { s with heap := h', toks := tk' }) :
  codeAny (lawM w) (Lv 480 outer) (.call (.ref 247) ⟨[.ref a, .none], []⟩) R s := by
  have XS := W.kin.keeps W.keep
  obtain ⟨⟨A₀, base, B⟩, X, ⟨mean, mg, mb, T⟩, -, -, -⟩ := id W
  refine' enter (binds := [("a", .ref a), ("b", .none)]) W ?k6 ?k7 ?k8 ?k9 ?kB ?_ ?c5 ?c2 ?c3 ?c4
  k_extra "my enter"
  intro L' h₁ F N hlt
  (try k_lt hlt)
  (try dsimp only)
  k_steps
  all_goals (try dsimp only)
  rename_i I h9 F9 N9 lt9 _
  have ha : Ap I a := Ap.of (Ne.symm (Nat.ne_of_lt (by omega)))
  have F10 : ∃ t, Fr g L' h9 (cntM none ((0 : Nat)) t a) := by
    refine' ⟨?yt1, frTo F9 fun y => ?yfr⟩
    case yfr =>
      rcases Decidable.em (y = Str.ofString "count") with rfl | q1
      · rfl
      rcases Decidable.em (y = Str.ofString "i") with rfl | q2
      · rfl
      rcases Decidable.em (y = Str.ofString "a") with rfl | q3
      · rfl
      rcases Decidable.em (y = Str.ofString "b") with rfl | q4
      · rfl
      simp only [cntM, if_neg q1, if_neg q2, if_neg q3, if_neg q4, List.reverse_cons, List.reverse_nil, List.nil_append, List.cons_append, List.lookup, beq_false_of_ne q3, beq_false_of_ne q4]
  obtain ⟨t1, F10⟩ := F10
  clear F9
  show codeAny _ ((Lv 480 outer).deeper (cntEnv w.params L')) (.forLoop (.Name (Str.ofString "i") _) (.ref I) (cntB w.params) [] (cntEnv w.params L')) _ _
  refine count_loop s X T hv ha ?_ vs.size 0 _ _ none t1 none #[] (Nat.zero_add _) F10 N9
  intro h2 tk2 cv t F N
  (try dsimp only)
  k_steps
  all_goals (try dsimp only)
  exact hret _ _ _ (W.step (by k_asm) (by k_asm))
end
theorem Wd.turned {w : World} {A₀ : Around} {outer : List Env} {base g : Heap} {s : Shared} {L : Addr} {m : Str → Option Value} {mean : ExcName → Option Value} {mg mb : Str → Option Value} (F : Fr g L s.heap m) (B : Below A₀ base outer g) (X : (hd.heap_1 w.params).In g) (T : Top View Loose mean mg mb g) : Wd w outer g [] s :=
  ⟨⟨A₀, base, B⟩, X, ⟨mean, mg, mb, T⟩, F.keep, Nat.le_trans F.above (Nat.le_of_lt F.ns.lt), fun _ h => nomatch h⟩
theorem bad_reply {w : World} {outer : List Env} {base g : Heap} {s : Shared} {R : Result → Shared → Prop} {x  : Str} {t : Tok} {mean : ExcName → Option Value} {mg mb : Str → Option Value} (W : Wd w outer g [] s) (B : Below (Lv 480 outer) base outer g) (XB : (hd.heap_1 w.params).In base) (TB : Top View Loose mean mg mb base) (D : KtsDicts (outer.filterMap (·.frame)) g) (hl : x.length ≤ 400)
  (c1 : (Txt.slice x none (some 3) != Str.ofString "229") = true)
  (hret : ∀ h' tk' t' g', KtsTurn (outer.filterMap (·.frame)) g g' → Wd w outer g' [] { s with heap := h', toks := tk' } → R (.ok (.ret (.str (Str.ofString "error_reply") t'))) { s with heap := h', toks := tk' }) :
  codeAny (model PySem.Challenge.rw_yf0037_01.row.prog w) (Lv 480 outer) (.call (.ref 289) ⟨[.str x t], []⟩) R s := by
  have XS := W.kin.keeps W.keep
  have X : (hd.heap_1 w.params).In g := W.kin
  have T : Top View Loose mean mg mb g := TB.keeps B.stays
  refine' enter (binds := [("reply", .str x t)]) W ?k6 ?k7 ?k8 ?k9 ?kB ?_ ?c5 ?c2 ?c3 ?c4
  k_extra "my enter"
  intro L' h₁ F N hlt
  (try dsimp only)
  k_steps
  all_goals (try dsimp only)
  exact hret _ _ _ _ (by assumption) (Wd.turned (by assumption) (by assumption) (by assumption) (by assumption))
/-- a reply that parse229 refuses by error_proto -/
structure Refused (x : Str) : Prop where
  hl : x.length ≤ 400
  code : (Txt.slice x none (some 3) != Str.ofString "229") = false
  b1 : ¬ lf x < 0 → ¬ rf x < 0 → -(x.length : Int) ≤ lf x + 1
  b2 : ¬ lf x < 0 → ¬ rf x < 0 → lf x + 1 < x.length
  b3 : ¬ lf x < 0 → ¬ rf x < 0 → -(x.length : Int) ≤ rf x - 1
  b4 : ¬ lf x < 0 → ¬ rf x < 0 → rf x - 1 < x.length
  y : ¬ lf x < 0 → ¬ rf x < 0 → (Txt.item x (lf x + 1) != Txt.item x (rf x - 1)) = false → ((Txt.item x (lf x + 1)).length == 0) = false
  hs : ¬ lf x < 0 → ¬ rf x < 0 → (Txt.item x (lf x + 1) != Txt.item x (rf x - 1)) = false → (Txt.slice x (some (lf x + 1)) (some (rf x))).length ≤ 900
  len : ¬ lf x < 0 → ¬ rf x < 0 → (Txt.item x (lf x + 1) != Txt.item x (rf x - 1)) = false → (Txt.split (Txt.slice x (some (lf x + 1)) (some (rf x))) (Txt.item x (lf x + 1))).length ≤ 1000 ∧ (Txt.split (Txt.slice x (some (lf x + 1)) (some (rf x))) (Txt.item x (lf x + 1))).length ≠ 5
theorem splitB {prog : Program} {w : World} {A : Around} {E : Value → Shared → Prop} {s : Shared} {h₀ : Heap} {L : Addr} {m : Str → Option Value} {news : Led} {x : Str} {t u : Tok} {Q : Value → Shared → Prop} (F : Fr h₀ L s.heap m) (N : News h₀ L s.heap news) (H : Refused x)
    (c2 : ¬ lf x < 0) (c3 : ¬ rf x < 0) (c4 : (Txt.item x (lf x + 1) != Txt.item x (rf x - 1)) = false)
    (h : ∀ D l h' k (n : Nat), (strValues l).toArray.size = n → n ≤ 1000 → (((n : Nat) : Int) != 5) = true → Fr h₀ L h' m → News h₀ L h' ((D, listOf (strValues l).toArray 0) :: news) → (∀ p ∈ news, p.1 < D) → Q (.ref D) { s with heap := h', toks := k }) :
    wpAny (model prog w) A (call (.builtin "str.split") [.str (Txt.slice x (some (lf x + 1)) (some (rf x))) t, .str (Txt.item x (lf x + 1)) u]) Q E s := by
  refine KSpl.split1 F N (H.y c2 c3 c4) (fun D l h' k e' _ F N l1 => ?_) (Nat.le_trans (Nat.add_le_add_right (H.hs c2 c3 c4) 2) (by decide))
  obtain ⟨h1, h2⟩ := H.len c2 c3 c4
  rw [← e', List.length_map] at h1 h2
  exact h D l h' k l.length (by simp [strValues]) h1 (bne_iff_ne.mpr fun e => h2 (by omega)) F N l1
section
local macro_rules | `(tactic| walk_at "subscriptTail") => `(tactic| first | (refine KXi.item rfl (Refused.b1 ‹_› ‹_› ‹_›) (Refused.b2 ‹_› ‹_› ‹_›) (by omega) ?_; intro _) | (refine KXi.item rfl (Refused.b3 ‹_› ‹_› ‹_›) (Refused.b4 ‹_› ‹_› ‹_›) (by omega) ?_; intro _))
local macro_rules | `(tactic| walk_at "call builtin:str.split") => `(tactic| (k_dflt (refine' splitB ?F ?N ‹_› ‹_› ‹_› ‹_› ?_; k_extra "FN"; k_whole); intro _ _ _ _ _ _ _ _ _ _ l1; (try k_lt l1)))
theorem bad_proto {w : World} {outer : List Env} {base g : Heap} {s : Shared} {R : Result → Shared → Prop} {x : Str} {t : Tok} {mean : ExcName → Option Value} {mg mb : Str → Option Value} (W : Wd w outer g [] s) (B : Below (Lv 480 outer) base outer g) (XB : (hd.heap_1 w.params).In base) (TB : Top View Loose mean mg mb base) (D : KtsDicts (outer.filterMap (·.frame)) g) (H : Refused x)
  (hret : ∀ h' tk' t' g', KtsTurn (outer.filterMap (·.frame)) g g' → Wd w outer g' [] { s with heap := h', toks := tk' } → R (.ok (.ret (.str (Str.ofString "error_proto") t'))) { s with heap := h', toks := tk' }) :
  codeAny (model PySem.Challenge.rw_yf0037_01.row.prog w) (Lv 480 outer) (.call (.ref 289) ⟨[.str x t], []⟩) R s := by
  have XS := W.kin.keeps W.keep
  have X : (hd.heap_1 w.params).In g := W.kin
  have T : Top View Loose mean mg mb g := TB.keeps B.stays
  have hl := H.hl
  have c1 := H.code
  refine' enter (binds := [("reply", .str x t)]) W ?k6 ?k7 ?k8 ?k9 ?kB ?_ ?c5 ?c2 ?c3 ?c4
  k_extra "my enter"
  intro L' h₁ F N hlt
  (try dsimp only)
  k_steps
  all_goals (try dsimp only)
  all_goals exact hret _ _ _ _ (by assumption) (Wd.turned (by assumption) (by assumption) (by assumption) (by assumption))
end
theorem bad_name {w : World} {outer : List Env} {base g : Heap} {s : Shared} {R : Result → Shared → Prop} {x  : Str} {t : Tok} {mean : ExcName → Option Value} {mg mb : Str → Option Value} (W : Wd w outer g [] s) (B : Below (Lv 480 outer) base outer g) (XB : (hd.heap_1 w.params).In base) (TB : Top View Loose mean mg mb base) (D : KtsDicts (outer.filterMap (·.frame)) g) (hl : x.length ≤ 400)
  (c1 : (Txt.slice x none (some 3) != Str.ofString "257") = true)
  (hret : ∀ h' tk' t' g', KtsTurn (outer.filterMap (·.frame)) g g' → Wd w outer g' [] { s with heap := h', toks := tk' } → R (.ok (.ret (.str (Str.ofString "error_reply") t'))) { s with heap := h', toks := tk' }) :
  codeAny (model PySem.Challenge.rw_yf0037_01.row.prog w) (Lv 480 outer) (.call (.ref 296) ⟨[.str x t], []⟩) R s := by
  have XS := W.kin.keeps W.keep
  have X : (hd.heap_1 w.params).In g := W.kin
  have T : Top View Loose mean mg mb g := TB.keeps B.stays
  refine' enter (binds := [("reply", .str x t)]) W ?k6 ?k7 ?k8 ?k9 ?kB ?_ ?c5 ?c2 ?c3 ?c4
  k_extra "my enter"
  intro L' h₁ F N hlt
  (try dsimp only)
  k_steps
  all_goals (try dsimp only)
  exact hret _ _ _ _ (by assumption) (Wd.turned (by assumption) (by assumption) (by assumption) (by assumption))
/-- replies that _law_read refuses, with its word -/
inductive BadR (x : Str) : Str → Prop
  | reply : x.length ≤ 400 → (Txt.slice x none (some 3) != Str.ofString "229") = true → BadR x (Str.ofString "error_reply")
  | proto : Refused x → BadR x (Str.ofString "error_proto")
section
variable {x : Str} (hl : x.length ≤ 400) (c1 : (Txt.slice x none (some 3) != Str.ofString "229") = false)
include hl c1
theorem BadR.left (c2 : lf x < 0) : BadR x (Str.ofString "error_proto") :=
  .proto ⟨hl, c1, fun h => absurd c2 h, fun h => absurd c2 h, fun h => absurd c2 h, fun h => absurd c2 h, fun h => absurd c2 h, fun h => absurd c2 h, fun h => absurd c2 h⟩
theorem BadR.right (_ : ¬ lf x < 0) (c3 : rf x < 0) : BadR x (Str.ofString "error_proto") :=
  .proto ⟨hl, c1, fun _ h => absurd c3 h, fun _ h => absurd c3 h, fun _ h => absurd c3 h, fun _ h => absurd c3 h, fun _ h => absurd c3 h, fun _ h => absurd c3 h, fun _ h => absurd c3 h⟩
variable (_ : ¬ lf x < 0) (_ : ¬ rf x < 0) (b1 : -(x.length : Int) ≤ lf x + 1) (b2 : lf x + 1 < x.length) (b3 : -(x.length : Int) ≤ rf x - 1) (b4 : rf x - 1 < x.length)
include b1 b2 b3 b4
theorem BadR.sign (c4 : (Txt.item x (lf x + 1) != Txt.item x (rf x - 1)) = true) : BadR x (Str.ofString "error_proto") :=
  .proto ⟨hl, c1, fun _ _ => b1, fun _ _ => b2, fun _ _ => b3, fun _ _ => b4, fun _ _ h => Bool.noConfusion (c4.symm.trans h), fun _ _ h => Bool.noConfusion (c4.symm.trans h), fun _ _ h => Bool.noConfusion (c4.symm.trans h)⟩
theorem BadR.many {ps : List Str} (_ : (Txt.item x (lf x + 1) != Txt.item x (rf x - 1)) = false) (y : ((Txt.item x (lf x + 1)).length == 0) = false) (hs : (Txt.slice x (some (lf x + 1)) (some (rf x))).length ≤ 900) (e : Txt.split (Txt.slice x (some (lf x + 1)) (some (rf x))) (Txt.item x (lf x + 1)) = ps) (h1 : ps.length ≤ 1000) (h2 : ps.length ≠ 5) : BadR x (Str.ofString "error_proto") :=
  .proto ⟨hl, c1, fun _ _ => b1, fun _ _ => b2, fun _ _ => b3, fun _ _ => b4, fun _ _ _ => y, fun _ _ _ => hs, fun _ _ _ => by rw [e]; exact ⟨h1, h2⟩⟩
end
noncomputable abbrev framesOf (all : List Env) : List Addr := all.filterMap (·.frame)
/-- a contract whose ground turns, used inside a walk -/
theorem useT {w : World} {prog : Program} {A A₀ : Around} {base gr : Heap} {all : List Env} {C : Addr} {m : Str → Option Value} {s : Shared} {c : Code} {R : Result → Shared → Prop} {mean : ExcName → Option Value} {mg mb : Str → Option Value} {news : Led} {d : Nat}
    (F : Fr gr C s.heap m) (N : News gr C s.heap news) (B : Below A₀ base all gr) (X : (hd.heap_1 w.params).In gr) (T : Top View Loose mean mg mb gr) (D : KtsDicts (framesOf all) gr)
    (hf : A.frames = some all) (hh : A.handled = none) (hd : A.depth ≤ d) (hu : A.units ≤ d)
    (spec : Wd w all s.heap [] s → Below (Lv d all) base all s.heap → KtsDicts (framesOf all) s.heap → codeAny (model prog w) (Lv d all) c (fun r s' => ∃ g', KtsTurn (framesOf all) s.heap g' ∧ Wd w all g' [] s' ∧ (∀ gr', KtsTurn (framesOf all) gr gr' → Fr gr' C s'.heap m → News gr' C s'.heap news → Below A₀ base all gr' → R r s')) s) :
    codeAny (model prog w) A c R s := by
  have st : gr.StaysIn s.heap := F.keep
  have B1 : Below (Lv d all) base all s.heap := ⟨rfl, fun b o e => st b o (B.stays b o e), B.frames.of_keeps fun b o e _ => ⟨o, st b o e, rfl⟩⟩
  have D1 : KtsDicts (framesOf all) s.heap := fun b hb => by
    obtain ⟨o, es, n, ho, hd'⟩ := D b hb
    exact ⟨o, es, n, st b o ho, hd'⟩
  have W1 : Wd w all s.heap [] s := ⟨⟨_, base, B1⟩, X.keeps st, ⟨mean, mg, mb, T.keeps st⟩, fun _ _ e => e, Nat.le_refl _, fun _ h => nomatch h⟩
  refine codeAny_lv hh hf hd hu (codeAny_mono (spec W1 B1 D1) fun r s' hr => ?_)
  obtain ⟨g', T', W', k⟩ := hr
  obtain ⟨TG, SG⟩ := kts_turn_at (h := s'.heap) (fs := framesOf all) (g := gr)
    (fun b hb => by
      obtain ⟨_, o, ho, _⟩ := B.frames.mem hb
      exact ⟨o, ho⟩)
    (fun b o e nm => W'.keep b o (T'.other b o (st b o e) nm))
    (fun b o e hm => by
      obtain ⟨sl, hs⟩ := T'.up (st b o e)
      exact ⟨sl, W'.keep _ _ hs⟩)
  have nf : ∀ {b : Addr}, gr.get? b = none → b ∉ framesOf all := fun e q => by
    obtain ⟨_, o, ho, _⟩ := B.frames.mem q
    rw [e] at ho; cases ho
  obtain ⟨oC, es, ep, hC, hCd, hCk, hCf⟩ := F.ns
  have hC' := W'.keep _ _ (T'.other C oC hC (nf (kts_self F)))
  refine k _ TG ⟨⟨oC, es, ep, hC', hCd, hCk, hCf⟩, SG, by rw [TG.size]; exact F.above⟩ (fun p hp => ⟨W'.keep _ _ (T'.other _ _ (N p hp).1 (nf (N p hp).2.2)), (N p hp).2.1, TG.none_ _ (N p hp).2.2⟩) ⟨B.stack, fun b o e => TG.other b o (B.stays b o e) (fun hm => by
    rw [(B.frames.mem hm).1] at e
    cases e), B.frames.of_keeps fun b o e _ => ?_⟩
  obtain ⟨sl, hs⟩ := TG.up e
  exact ⟨_, hs, rfl⟩
section
variable {w : World} {A A₀ : Around} {base gr : Heap} {all : List Env} {C : Addr} {m : Str → Option Value} {s : Shared} {mean : ExcName → Option Value} {mg mb : Str → Option Value} {news : Led} {E : Value → Shared → Prop} {Q : Value → Shared → Prop} {x word : Str} {t : Tok}
theorem bad_use (F : Fr gr C s.heap m) (N : News gr C s.heap news) (B : Below A₀ base all gr) (XB : (hd.heap_1 w.params).In base) (TB : Top View Loose mean mg mb base) (D : KtsDicts (framesOf all) gr)
    (hf : A.frames = some all) (hh : A.handled = none) (hd : A.depth ≤ 480) (hu : A.units ≤ 480) (hb : BadR x word)
    (h : ∀ h' tk' t' gr', KtsTurn (framesOf all) gr gr' → Fr gr' C h' m → News gr' C h' news → Below A₀ base all gr' → Q (.str word t') { s with heap := h', toks := tk' }) :
    wpAny (model PySem.Challenge.rw_yf0037_01.row.prog w) A (call (.ref 289) [.str x t]) Q E s := by
  refine wpAny_call (useT (d := 480) F N B (XB.keeps B.stays) (TB.keeps B.stays) D hf hh hd hu fun W B1 D1 => ?_)
  cases hb with
  | reply hl c1 => exact bad_reply W B1 XB TB D1 hl c1 fun h' tk' t' g' T' W' => ⟨g', T', W', fun gr' TG F' N' B' => h h' tk' t' gr' TG F' N' B'⟩
  | proto H => exact bad_proto W B1 XB TB D1 H fun h' tk' t' g' T' W' => ⟨g', T', W', fun gr' TG F' N' B' => h h' tk' t' gr' TG F' N' B'⟩
theorem bad_name_use (F : Fr gr C s.heap m) (N : News gr C s.heap news) (B : Below A₀ base all gr) (XB : (hd.heap_1 w.params).In base) (TB : Top View Loose mean mg mb base) (D : KtsDicts (framesOf all) gr)
    (hf : A.frames = some all) (hh : A.handled = none) (hd : A.depth ≤ 480) (hu : A.units ≤ 480) (hl : x.length ≤ 400) (c1 : (Txt.slice x none (some 3) != Str.ofString "257") = true)
    (h : ∀ h' tk' t' gr', KtsTurn (framesOf all) gr gr' → Fr gr' C h' m → News gr' C h' news → Below A₀ base all gr' → Q (.str (Str.ofString "error_reply") t') { s with heap := h', toks := tk' }) :
    wpAny (model PySem.Challenge.rw_yf0037_01.row.prog w) A (call (.ref 296) [.str x t]) Q E s :=
  wpAny_call (useT (d := 480) F N B (XB.keeps B.stays) (TB.keeps B.stays) D hf hh hd hu fun W B1 D1 => bad_name W B1 XB TB D1 hl c1 fun h' tk' t' g' T' W' => ⟨g', T', W', fun gr' TG F' N' B' => h h' tk' t' gr' TG F' N' B'⟩)
end
open PySem.NumText in
theorem far_signs {n : Int} (h0 : 0 ≤ n) : AllDigits (Str.ofString (toString n)).cps.toList := by
  obtain ⟨k, rfl⟩ := Int.eq_ofNat_of_zero_le h0
  intro c hc
  rw [PySem.W.KIN.signs_num] at hc
  obtain ⟨ch, hch, e⟩ := List.mem_map.mp hc
  rw [← e]
  exact digit_range (Nat.isDigit_of_mem_toDigits (by decide) (by decide) hch)
/-- lists glued by one sign -/
noncomputable def joinC (c : Nat) : List (List Nat) → List Nat
  | [] => []
  | [x] => x
  | x :: y :: r => x ++ c :: joinC c (y :: r)
theorem joinC_str {c : Nat} : ∀ ps : List Str, (Str.join ⟨#[c]⟩ ps).cps.toList = joinC c (ps.map (·.cps.toList))
  | [] => rfl
  | [_] => rfl
  | x :: y :: r => by
    show ((x ++ (⟨#[c]⟩ : Str)) ++ Str.join ⟨#[c]⟩ (y :: r)).cps.toList = x.cps.toList ++ c :: joinC c ((y :: r).map (·.cps.toList))
    rw [Str.cps_append, Str.cps_append, Array.toList_append, Array.toList_append, joinC_str (y :: r), List.append_assoc]
    rfl
theorem cut_at {c : Nat} : ∀ {x y a b : List Nat}, c ∉ x → c ∉ y → x ++ c :: a = y ++ c :: b → x = y ∧ a = b
  | [], [], _, _, _, _, h => ⟨rfl, (List.cons.inj h).2⟩
  | [], z :: y, _, _, _, h2, h => absurd (List.cons.inj h).1 fun e => h2 (e ▸ .head _)
  | z :: x, [], _, _, h1, _, h => absurd (List.cons.inj h).1 fun e => h1 (e ▸ .head _)
  | z :: x, z' :: y, _, _, h1, h2, h => by
    obtain ⟨e, h⟩ := List.cons.inj h
    obtain ⟨e1, e2⟩ := cut_at (fun q => h1 (.tail _ q)) (fun q => h2 (.tail _ q)) h
    exact ⟨by rw [e, e1], e2⟩
theorem joinC_inj {c : Nat} : ∀ {xs ys : List (List Nat)}, xs ≠ [] → ys ≠ [] → (∀ x ∈ xs, c ∉ x) → (∀ y ∈ ys, c ∉ y) → joinC c xs = joinC c ys → xs = ys
  | [], _, h, _, _, _, _ => absurd rfl h
  | _, [], _, h, _, _, _ => absurd rfl h
  | [x], [y], _, _, _, _, e => congrArg (fun z => [z]) e
  | [x], y :: z :: s, _, _, h1, _, e => absurd (show c ∈ x by rw [show x = y ++ c :: joinC c (z :: s) from e]; simp) (h1 x (.head _))
  | x :: z :: r, [y], _, _, _, h2, e => absurd (show c ∈ y by rw [show y = x ++ c :: joinC c (z :: r) from e.symm]; simp) (h2 y (.head _))
  | x :: x' :: r, y :: y' :: s, _, _, h1, h2, e => by
    obtain ⟨e1, e2⟩ := cut_at (h1 x (.head _)) (h2 y (.head _)) e
    rw [e1, joinC_inj (List.cons_ne_nil _ _) (List.cons_ne_nil _ _) (fun q hq => h1 q (.tail _ hq)) (fun q hq => h2 q (.tail _ hq)) e2]
theorem split_is {c : Nat} {x : Str} {ps : List Str} (hx : x.cps.toList = joinC c (ps.map (·.cps.toList))) (hn : x.cps.toList ≠ []) (hp : ∀ p ∈ ps, c ∉ p.cps.toList) : Txt.split x ⟨#[c]⟩ = ps := by
  have j := congrArg (fun z : Str => z.cps.toList) (StrLaws.join_split x ⟨#[c]⟩)
  have fr := StrLaws.split_free x c
  generalize Txt.split x ⟨#[c]⟩ = qs at j fr
  have j : (Str.join ⟨#[c]⟩ qs).cps.toList = x.cps.toList := j
  rw [joinC_str] at j
  have e : qs.map (·.cps.toList) = ps.map (·.cps.toList) := by
    refine joinC_inj (c := c) ?_ ?_ ?_ ?_ (j.trans hx)
    · intro q
      rw [q] at j
      exact hn j.symm
    · intro q
      rw [q] at hx
      exact hn hx
    · intro y hy
      obtain ⟨p, h, rfl⟩ := List.mem_map.mp hy
      exact fr p h
    · intro y hy
      obtain ⟨p, h, rfl⟩ := List.mem_map.mp hy
      exact hp p h
  have inj : ∀ {a b : List Str}, a.map (·.cps.toList) = b.map (·.cps.toList) → a = b := by
    intro a
    induction a with
    | nil => intro b h; cases b with
      | nil => rfl
      | cons => cases h
    | cons x a ih => intro b h; cases b with
      | nil => cases h
      | cons y b =>
        obtain ⟨h1, h2⟩ := List.cons.inj h
        rw [ih h2, Str.ext' (Array.toList_inj.mp h1)]
  exact inj e
theorem find_is {c : Nat} {x : Str} {a b : List Nat} (hx : x.cps.toList = a ++ c :: b) (ha : c ∉ a) : Txt.find x ⟨#[c]⟩ = a.length := by
  have hat : x.cps.toList[a.length]? = some c := by rw [hx]; simp
  have no : ∀ k, k < a.length → x.cps.toList[k]? ≠ some c := fun k hk q => by
    rw [hx, List.getElem?_append_left hk] at q
    exact ha (List.mem_of_getElem? q)
  unfold Txt.find
  rcases StrLaws.occ_head x ⟨#[c]⟩ 1 (Nat.le_refl 1) with ⟨h0, hn⟩ | ⟨k, r, h0, hk, hn⟩
  · exact absurd ((StrLaws.subAt_one x c a.length).mpr hat) (hn a.length)
  · rw [h0]
    have hm := (StrLaws.subAt_one x c k).mp hk
    rcases Nat.lt_trichotomy k a.length with h | h | h
    · exact absurd hm (no k h)
    · rw [h]
    · exact absurd ((StrLaws.subAt_one x c a.length).mpr hat) (hn a.length h)
theorem from_nat {n i : Nat} : PySem.fromIndex n (i : Int) = i := by
  unfold PySem.fromIndex
  rw [if_neg (by omega)]
  omega
theorem find3_is {c : Nat} {x : Str} {p a b : List Nat} (hx : x.cps.toList = p ++ (a ++ c :: b)) (ha : c ∉ a) : Txt.find3 x ⟨#[c]⟩ (p.length : Nat) = ((p.length + a.length : Nat) : Int) := by
  have hl : x.length = p.length + (a.length + (b.length + 1)) := by
    have := congrArg List.length hx
    simp only [List.length_append, List.length_cons, Array.length_toList] at this
    exact this
  have hat : x.cps.toList[p.length + a.length]? = some c := by rw [hx, List.getElem?_append_right (by omega)]; simp
  have no : ∀ k, p.length ≤ k → k < p.length + a.length → x.cps.toList[k]? ≠ some c := fun k h1 h2 q => by
    rw [hx, List.getElem?_append_right h1, List.getElem?_append_left (by omega)] at q
    exact ha (List.mem_of_getElem? q)
  have fi := @from_nat x.length p.length
  rcases StrLaws.find3_spec x c (p.length : Nat) with ⟨h0, hn⟩ | ⟨k, h0, h1, h2, h3, hn⟩
  · rw [fi] at hn
    exact absurd (StrLaws.getD_of_getElem? hat) (hn _ (by omega) (by omega))
  · rw [fi] at h1 hn
    rw [h0]
    rcases Nat.lt_trichotomy k (p.length + a.length) with h | h | h
    · exact absurd (StrLaws.getElem?_of_getD h2 h3) (no k h1 h)
    · rw [h]
    · exact absurd (StrLaws.getD_of_getElem? hat) (hn _ (by omega) h)
theorem item_is {c : Nat} {x : Str} {i : Nat} (h : x.cps.toList[i]? = some c) : Txt.item x (i : Nat) = ⟨#[c]⟩ := by
  unfold Txt.item Txt.charAt
  rw [StrLaws.at_nonneg (by omega) (by rw [Int.toNat_natCast, ← Array.getElem?_toList]; exact h)]
  rfl
theorem slice_is {x : Str} {p a b : List Nat} (hx : x.cps.toList = p ++ (a ++ b)) : (Txt.slice x (some (p.length : Nat)) (some ((p.length + a.length : Nat) : Int))).cps.toList = a := by
  have hl : x.cps.toList.length = p.length + (a.length + b.length) := by rw [hx]; simp
  have e := StrLaws.sliceText_plain (x := x) (i := (p.length : Nat)) (j := ((p.length + a.length : Nat) : Int)) ⟨by omega, by omega, by omega⟩
  show (StrLaws.sliceText _ _ _).cps.toList = a
  rw [e]
  show (x.cps.toList.drop _).take _ = a
  rw [hx, Int.toNat_natCast, List.drop_left, show ((((p.length + a.length : Nat) : Int) - (p.length : Nat)).toNat) = a.length from by omega, List.take_left]
/-- the last reply of _law_replies -/
noncomputable def farS (mark other : Str) (n : Int) : Str := Str.join mark [Str.ofString "229 (", Str.ofString "2", Txt.mul other 2 ++ Str.ofString "1", Str.ofString (toString n), Str.ofString ")"]
structure Mk (x : Str) (c : Nat) : Prop where
  is : x = ⟨#[c]⟩
  ne : c ≠ 40 ∧ c ≠ 41 ∧ c ≠ 49 ∧ c ≠ 50 ∧ ¬ (48 ≤ c ∧ c ≤ 57)
theorem mk_of {x : Str} (h : MarkOk x) : ∃ c, Mk x c := by
  rcases h with rfl | rfl | rfl | rfl
  · exact ⟨124, by decide +kernel, by decide⟩
  · exact ⟨33, by decide +kernel, by decide⟩
  · exact ⟨47, by decide +kernel, by decide⟩
  · exact ⟨58, by decide +kernel, by decide⟩
theorem mul_two (o : Nat) : (Txt.mul ⟨#[o]⟩ 2 : Str) = ⟨#[o, o]⟩ := by rfl
theorem good_far {mark other : Str} {n : Int} (hm : MarkOk mark) (ho : MarkOk other) (hne : mark ≠ other) (h0 : 0 ≤ n) (h1 : n < 65536) : GoodR (farS mark other n) n := by
  obtain ⟨c, rfl, c40, c41, c49, c50, cd⟩ := mk_of hm
  obtain ⟨o, rfl, o40, o41, o49, o50, od⟩ := mk_of ho
  have hco : c ≠ o := fun e => hne (by rw [e])
  have n10 : n < 10 ^ 10 := by omega
  have hd := far_signs h0
  have hl := PySem.W.KT.len_num h0 n10
  have hr := PySem.W.KIN.num_reads h0 n10
  have s1 : (Str.ofString "229 (").cps.toList = [50, 50, 57, 32] ++ 40 :: [] := by decide +kernel
  have s2 : (Str.ofString "2").cps.toList = [50] := by decide +kernel
  have s3 : (Str.ofString "1") = ⟨#[49]⟩ := by decide +kernel
  have s4 : (Str.ofString ")").cps.toList = [41] := by decide +kernel
  have s5 : (Str.ofString "(") = ⟨#[40]⟩ := by decide +kernel
  have s6 : (Str.ofString ")") = ⟨#[41]⟩ := by decide +kernel
  have s7 : (Str.ofString "229") = ⟨#[50, 50, 57]⟩ := by decide +kernel
  have e3 : Txt.mul ⟨#[o]⟩ 2 ++ Str.ofString "1" = ⟨#[o, o, 49]⟩ := by rw [mul_two, s3]; rfl
  have hq := joinC_str (c := c) [Str.ofString "229 (", Str.ofString "2", Txt.mul ⟨#[o]⟩ 2 ++ Str.ofString "1", Str.ofString (toString n), Str.ofString ")"]
  rw [e3] at hq
  unfold farS
  rw [e3]
  generalize Str.join ⟨#[c]⟩ [Str.ofString "229 (", Str.ofString "2", (⟨#[o, o, 49]⟩ : Str), Str.ofString (toString n), Str.ofString ")"] = x at hq
  generalize hN : Str.ofString (toString n) = N at hq hd hl hr
  simp only [List.map_cons, List.map_nil, joinC, s1, s2, s4] at hq
  obtain ⟨body, hb⟩ : ∃ body, body = c :: 50 :: c :: o :: o :: 49 :: c :: (N.cps.toList ++ [c]) := ⟨_, rfl⟩
  have hx : x.cps.toList = [50, 50, 57, 32] ++ 40 :: (body ++ 41 :: []) := by
    rw [hq, hb]; simp
  have hx2 : x.cps.toList = [50, 50, 57, 32, 40] ++ (body ++ 41 :: []) := by rw [hx]; rfl
  have dN : ∀ z, z ∈ N.cps.toList → 48 ≤ z ∧ z ≤ 57 := hd
  have n41 : (41 : Nat) ∉ body := by
    rw [hb]
    intro h
    simp only [List.mem_cons, List.mem_append, List.not_mem_nil, or_false] at h
    rcases h with h | h | h | h | h | h | h | h | h
    · exact c41 h.symm
    · exact absurd h (by decide)
    · exact c41 h.symm
    · exact o41 h.symm
    · exact o41 h.symm
    · exact absurd h (by decide)
    · exact c41 h.symm
    · exact absurd (dN 41 h) (by decide)
    · exact c41 h.symm
  have lf4 : lf x = ((4 : Nat) : Int) := by
    show Txt.find x (Str.ofString "(") = _
    rw [s5]
    exact find_is hx (by decide)
  have lN : N.cps.toList.length ≤ 10 := by rw [Array.length_toList]; exact hl
  have lb : body.length = 8 + N.cps.toList.length := by
    rw [hb]
    simp only [List.length_append, List.length_cons, List.length_nil]
    omega
  have rfb : rf x = ((5 + body.length : Nat) : Int) := by
    show Txt.find3 x (Str.ofString ")") (lf x + 1) = _
    rw [s6, lf4]
    exact find3_is (p := [50, 50, 57, 32, 40]) hx2 n41
  have hlx : x.length = 5 + (body.length + 1) := by
    have := congrArg List.length hx2
    simp only [List.length_append, List.length_cons, List.length_nil, Array.length_toList] at this
    show x.cps.size = _
    omega
  have e1 : lf x + 1 = ((5 : Nat) : Int) := by rw [lf4]; rfl
  have e2 : rf x - 1 = ((4 + body.length : Nat) : Int) := by rw [rfb]; omega
  have i1 : Txt.item x (lf x + 1) = ⟨#[c]⟩ := by
    rw [e1]
    refine item_is ?_
    rw [hx2, hb]; rfl
  have i2 : Txt.item x (rf x - 1) = ⟨#[c]⟩ := by
    rw [e2]
    refine item_is ?_
    have : x.cps.toList = ([50, 50, 57, 32, 40] ++ (c :: 50 :: c :: o :: o :: 49 :: c :: N.cps.toList)) ++ (c :: [41]) := by rw [hx2, hb]; simp
    rw [this, List.getElem?_append_right (by simp only [List.length_append, List.length_cons, List.length_nil]; omega)]
    have z : 4 + body.length - ([50, 50, 57, 32, 40] ++ (c :: 50 :: c :: o :: o :: 49 :: c :: N.cps.toList)).length = 0 := by simp only [List.length_append, List.length_cons, List.length_nil]; omega
    rw [z]; rfl
  have sl : (Txt.slice x (some (lf x + 1)) (some (rf x))).cps.toList = body := by
    rw [e1, rfb]
    exact slice_is (p := [50, 50, 57, 32, 40]) (b := [41]) hx2
  have sp : Txt.split (Txt.slice x (some (lf x + 1)) (some (rf x))) ⟨#[c]⟩ = [Str.empty, ⟨#[50]⟩, ⟨#[o, o, 49]⟩, N, Str.empty] := by
    refine split_is ?_ (by rw [sl, hb]; exact List.cons_ne_nil _ _) ?_
    · rw [sl, hb]
      show _ = joinC c [[], [50], [o, o, 49], N.cps.toList, []]
      simp [joinC]
    · intro p hp
      simp only [List.mem_cons, List.not_mem_nil, or_false] at hp
      rcases hp with rfl | rfl | rfl | rfl | rfl
      · exact fun h => nomatch h
      · intro h
        exact c50 (List.mem_singleton.mp h)
      · intro h
        rcases List.mem_cons.mp h with h | h
        · exact hco h
        rcases List.mem_cons.mp h with h | h
        · exact hco h
        · exact c49 (List.mem_singleton.mp h)
      · exact fun h => cd (dN c h)
      · exact fun h => nomatch h
  have sll : (Txt.slice x (some (lf x + 1)) (some (rf x))).length = body.length := by rw [← sl]; exact Array.length_toList.symm
  have c1 : Txt.slice x none (some 3) = ⟨#[50, 50, 57]⟩ := by
    refine (StrLaws.sliceText_to ⟨by decide, by rw [hx2]; simp; omega⟩).trans ?_
    rw [hx2]; rfl
  refine ⟨Str.empty, ⟨#[50]⟩, ⟨#[o, o, 49]⟩, N, Str.empty, ?_, ?_, ?_, ?_, ?_, ?_, ?_, ?_, ?_, ?_, ?_, ?_, hr, Nat.le_trans hl (by decide)⟩
  · rw [hlx, lb]
    exact Nat.le_trans (Nat.add_le_add_left (Nat.succ_le_succ (Nat.add_le_add_left lN 8)) 5) (by decide)
  · rw [c1, s7]; exact bne_self_eq_false _
  · rw [lf4]; decide
  · rw [rfb]; exact Int.not_lt.mpr (Int.natCast_nonneg _)
  · rw [e1]; exact Int.le_trans (Int.neg_nonpos_of_nonneg (Int.natCast_nonneg _)) (Int.natCast_nonneg _)
  · rw [e1, hlx]; exact Int.ofNat_lt.mpr (Nat.lt_add_of_pos_right (Nat.succ_pos _))
  · rw [e2]; exact Int.le_trans (Int.neg_nonpos_of_nonneg (Int.natCast_nonneg _)) (Int.natCast_nonneg _)
  · rw [e2, hlx]; exact Int.ofNat_lt.mpr (Nat.add_lt_add_of_lt_of_le (by decide) (Nat.le_succ _))
  · rw [i1, i2]; exact bne_self_eq_false _
  · rw [i1]; rfl
  · rw [sll, lb]; exact Nat.le_trans (Nat.add_le_add_left lN 8) (by decide)
  · rw [i1]; exact sp
noncomputable def goodS (x : Str) : Str := Txt.mul x 3 ++ Str.ofString "1" ++ x
theorem sum5 {a b c d e : Str} {n1 n2 n3 n4 n5 : Nat} (h1 : a.length ≤ n1) (h2 : b.length ≤ n2) (h3 : c.length ≤ n3) (h4 : d.length ≤ n4) (h5 : e.length ≤ n5) (h : n1 + (n2 + (n3 + (n4 + (n5 + 0)))) ≤ 1000) : ([a, b, c, d, e].map (·.length)).sum + [a, b, c, d, e].length * 64 ≤ 16777216 :=
  Nat.le_trans (Nat.add_le_add_right (Nat.le_trans (Nat.add_le_add h1 (Nat.add_le_add h2 (Nat.add_le_add h3 (Nat.add_le_add h4 (Nat.add_le_add h5 (Nat.le_refl 0)))))) h) _) (Nat.le_of_ble_eq_true rfl)
section
local macro_rules | `(tactic| walk_at "call builtin:str.join") => `(tactic| (k_dflt (refine' join_listC ?a ?b (by with_reducible assumption) ?d ?_; (case a => exact (News.isList (by k_asm) (by k_mem))); (case b => repeat constructor);  (case d => (apply sum5; (iterate 5 k_extra "len"); exact Nat.le_of_ble_eq_true rfl))); intros))
theorem replies_spec {w : World} {outer : List Env} {g : Heap} {s : Shared} {R : Result → Shared → Prop} {x y : Str} {t u v : Tok} {n : Int} (W : Wd w outer g [] s) (hx : x.length = 1) (hy : y.length = 1) (h0 : 0 ≤ n) (h5 : n < 65536)
  (hret : ∀ h' tk' r k t0 t1 t2 t3 t4 t5 t6 t7 t8, Wd w outer g [(r, listOf #[.str (Str.ofString "129 (" ++ goodS x ++ Str.ofString ")") t0, .str (Str.ofString "239 (" ++ goodS x ++ Str.ofString ")") t1, .str (Str.ofString "228 229 (" ++ goodS x ++ Str.ofString ")") t2, .str (Str.ofString "229 (" ++ goodS x ++ Str.ofString "x)") t3, .str (Str.ofString "229 (" ++ x ++ goodS x ++ Str.ofString ")") t4, .str (Str.ofString "229 (" ++ Txt.slice (goodS x) (some 1) none ++ Str.ofString ")") t5, .str (Str.ofString "229 212)") t6, .str (Str.ofString "229 (" ++ goodS x ++ Str.ofString "x") t7, .str (farS x y n) t8] k)] { s with heap := h', toks := tk' } → R (.ok (.ret (.ref r))) { s with heap := h', toks := tk' }) :
  codeAny (model PySem.Challenge.rw_yf0037_01.row.prog w) (Lv 480 outer) (.call (.ref 282) ⟨[.str x t, .str y u, .int n v], []⟩) R s := by
  have XS := W.kin.keeps W.keep
  obtain ⟨⟨A₀, base, B⟩, X, ⟨mean, mg, mb, T⟩, -, -, -⟩ := id W
  have x1 : x.length ≤ 64 := hx ▸ Nat.le_of_ble_eq_true rfl
  have m3 : (Txt.mul x 3).length ≤ 3 := len_mul_leN (L := 1) (N := 3) (Nat.le_of_eq hx) (by decide)
  have m2 : (Txt.mul y 2).length ≤ 2 := len_mul_leN (L := 1) (N := 2) (Nat.le_of_eq hy) (by decide)
  have n10 : n < 10 ^ 10 := by omega
  have hl := PySem.W.KT.len_num h0 n10
  have q1 : (Str.ofString "229 (").length = 5 := by decide +kernel
  have q2 : (Str.ofString "2").length = 1 := by decide +kernel
  have q3 : (Str.ofString "1").length = 1 := by decide +kernel
  have q4 : (Str.ofString ")").length = 1 := by decide +kernel
  refine' enter (binds := [("mark", .str x t), ("other", .str y u), ("port", .int n v)]) W ?k6 ?k7 ?k8 ?k9 ?kB ?_ ?c5 ?c2 ?c3 ?c4
  k_extra "my enter"
  intro L' h₁ F N hlt
  (try dsimp only)
  k_steps
  all_goals (try dsimp only)
  rename_i r8 h8 F8 N8 _ lt8
  have e8 : Txt.join x [Str.ofString "229 (", Str.ofString "2", Txt.mul y 2 ++ Str.ofString "1", Str.ofString (toString n), Str.ofString ")"] = farS x y n := StrLaws.glued_eq_join _ _
  rw [e8] at N8
  have N9 : News g L' h8 _ := fun p hp => N8 p (List.mem_cons.mpr (.inl (List.mem_singleton.mp hp)))
  exact hret _ _ _ _ _ _ _ _ _ _ _ _ _ (W.step F8 N9)
end
theorem count_none_use {w : World} {A : Around} {h₀ : Heap} {all : List Env} {L : Addr} {m : Str → Option Value} {s : Shared} {mean : ExcName → Option Value} {mg mb : Str → Option Value} {news rest : Led} {E : Value → Shared → Prop} {a : Addr} {vs : Array Value} {nn c : Nat} {Q : Value → Shared → Prop} (F : Fr h₀ L s.heap m) (X : (hd.heap_1 w.params).In h₀) (T : Top View Loose mean mg mb h₀) (hB : FB A h₀ L m all) (N : News h₀ L s.heap news)
    (hs : ∀ p ∈ (a, listOf vs nn) :: rest, p ∈ news) (hdis : OffD a rest) (hh : A.handled = none) (hd : A.depth ≤ 480) (hu : A.units ≤ 480) (hv : vs = Array.replicate c .none) (hc : c ≤ 100)
    (h : ∀ h' tk' t', Fr h₀ L h' m → News h₀ L h' ((a, listOf vs nn) :: rest) → Q (.int (c : Nat) t') { s with heap := h', toks := tk' }) : wpAny (lawM w) A (call (.ref 247) [.ref a, .none]) Q E s := by
  have e1 : vs.size = c := by rw [hv, Array.size_replicate]
  have e2 : vs.toList = List.replicate vs.size .none := by rw [e1, hv, Array.toList_replicate]
  have hsz : vs.size ≤ 200 := by omega
  refine wpAny_call (use (fp := [(a, listOf vs nn)]) (rest := rest) F X T hB (fun p hp => N p (hs p hp)) (fun p hp q hq => by rw [List.mem_singleton.mp hq]; exact (hdis p hp).ne') hh hd hu fun g W => ?_)
  exact count_none W e2 hsz fun h' tk' t' W' => ⟨_, W', fun F' N' _ => e1 ▸ h h' tk' t' F' N'⟩
/-- what the last statements still need -/
structure EndSt (g : Heap) (L : Addr) (Γ : Cst) (s : Shared) (m : Str → Option Value) : Prop where
  ex : ∃ kl : Led, Fr g L s.heap m ∧ News g L s.heap kl ∧ (∃ t, CellIs kl (L + 1 + 1 + 1 + 1) (.str Γ.mark t)) ∧ (∃ t, m (Str.ofString "other") = some (.str Γ.other t)) ∧ (∃ t, m (Str.ofString "far") = some (.int Γ.far t)) ∧ (s.gens = Γ.gens ∧ s.os = Γ.os)
theorem pairs2 {a b : Addr × Obj} {tl : Led} {l : Addr} {x : Six (Str × Str)} (h : PairsIs tl l x) : PairsIs (a :: b :: tl) l x := h.mono fun _ hp => .tail _ (.tail _ hp)
theorem pairs2h {b : Addr × Obj} {tl : Led} {l : Addr} {r : Six Addr} {n : Nat} {x : Six (Str × Str)} (h : PairT tl r x) : PairsIs ((l, listOf (refs r) n) :: b :: tl) l x := ⟨r, n, .head _, h.mono fun _ hp => .tail _ (.tail _ hp)⟩
section
local macro_rules | `(tactic| k_extra "my pairs") => `(tactic| with_reducible (first | exact pairs2 ‹_› | exact pairs2h (r := ⟨_, _, _, _, _, _⟩) ‹_›))
local macro_rules | `(tactic| walk_at "compareOp NotEq ref ref") => `(tactic| (k_dflt (apply nePairs; k_asm; (case pa => k_extra "my pairs"); k_extra "q"; k_extra "my pairs"; k_extra "b")))
local macro_rules | `(tactic| walk_at "call ref") => `(tactic| (with_reducible refine callN 247 ?_; k_dflt apply count_none_use; k_dflt (k_extra "u5"; exact fun p hp => .tail _ hp; k_extra "q"; k_extra "u3"; k_extra "q"; omega); intros; k_extra "s"))
theorem stmt23 {w : World} {g : Heap} {L : Addr} {Γ : Cst} {row told : Six Ent} {cuts : Int} {cnt : Nat} {its : Led} {s : Shared} {m : Str → Option Value} {lk ld lh : Addr} {x : Six (Str × Str)} {as : List Addr} {n0 : Nat} {mean : ExcName → Option Value} {mg mb : Str → Option Value} {rest : List Stmt} {Q : Flow → Shared → Prop} {E : Value → Shared → Prop}
    (X : (hd.heap_1 w.params).In g) (T : Top View Loose mean mg mb g) (hx : XOk x) (hx2 : XOk (xOf Γ row)) (hc : (cnt : Int) = 52 - cuts) (c0 : 0 ≤ cuts) (S : LawSt w g L Γ row told cuts cnt (some ⟨lk, x, some ld, some (lh, as, (xOf Γ row).list)⟩) ((lh, homeO as n0) :: its) s m)
    (h : ∀ s', EndSt g L Γ s' m → wpAny (lawM w) (lawA w.params L) (execs rest (lawEnv w.params L)) Q E s') :
    wpAny (lawM w) (lawA w.params L) (execs (stmtAt w.params 23 :: rest) (lawEnv w.params L)) Q E s := by
  obtain ⟨kl, n, ng, gv, cs, lr, F, N, off, K, hgv, M, R, fx, lc, kdh, io, gs⟩ := S.ex
  clear S
  have kd' : KdI m kl ⟨lk, x, some ld, some (lh, as, (xOf Γ row).list)⟩ := kdh
  have v1 : m (Str.ofString "kept") = some (.ref lk) := kd'.kept
  have v2 : m (Str.ofString "due") = some (.ref ld) := (kd'.due ld rfl).1
  have v3 : m (Str.ofString "home") = some (.ref lh) := (kd'.home lh as _ rfl).1
  have hp := (kd'.home lh as _ rfl).2
  obtain ⟨e1, e2, e3, e4, ⟨tc, e5⟩, ⟨tt, e6⟩, ⟨tf, e7⟩, ⟨to, e8⟩⟩ := lc
  obtain ⟨tl, htl⟩ : ∃ tl, tl = deckC w.params Γ.D Γ.dd Γ.Lh Γ.tk n cs.list ++ (((lh, homeO as n0) :: its) ++ kl) := ⟨_, rfl⟩
  rw [← htl] at N off
  have B : Below (Lv 301 []) g [] g := ⟨rfl, fun _ _ e => e, trivial⟩
  have inK : ∀ p ∈ kl, p ∈ tl := fun p h => by rw [htl]; exact List.mem_append_right _ (List.mem_append_right _ h)
  have cards := deckCards (e := htl)
  have q0 : PairT tl ⟨cs.a.t, cs.b.t, cs.c.t, cs.d.t, cs.e.t, cs.f.t⟩ (xOf Γ row) := M.pairs cards
  have q1 : PairsIs tl lh (xOf Γ row) := by
    obtain ⟨r, rfl, hr⟩ := Paired.six hp
    exact ⟨r, n0, by rw [htl]; exact List.mem_append_right _ (.head _), hr.mono inK⟩
  have q2 : PairsIs tl Γ.Lh (xOf Γ row) := ⟨_, n, by rw [htl]; exact List.mem_append_left _ (List.mem_append_left _ (.tail _ (.tail _ (.head _)))), q0⟩
  have q3 : PairsIs tl lk x := kd'.items.mono inK
  have q4 : PairsIs tl ld x := (kd'.due ld rfl).2.mono inK
  have hsc : lawScope w.params = ⟨_, _, _, _, _⟩ := rfl
  show wpAny _ _ (execs (Stmt.If _ _ _ _ :: _) _) _ _ _
  dsimp only [lawEnv, lawA, lawM]
  rw [hsc]
  clear hsc
  iterate 10 (first | walk1 | (dsimp only; walk1) | (k_unfold; (try dsimp only)))
  rename_i h1 tk1 r1 tl1 htl1 F1 N1 nr1 K1 no1 nx1
  obtain rfl : tl1 = tl := htl1.trans htl.symm
  clear htl1 K1 no1
  k_steps
  all_goals (try dsimp only)
  all_goals first
    | (exfalso; omega)
    | exact h _ ⟨tl1, by assumption, fun p hp => (by assumption : News g L _ ((Γ.lg, listOf gv ng) :: tl1)) p (.tail _ hp), (let ⟨t, o, ho, hd⟩ := fx.cmark; ⟨t, o, inK _ ho, hd⟩), ⟨_, e8⟩, ⟨_, e7⟩, gs⟩
end
noncomputable abbrev RepB (y : Str) : Prop := y.length ≤ 400 ∧ (Txt.slice y none (some 3) != Str.ofString "229") = true
noncomputable abbrev SignB (y : Str) : Prop := y.length ≤ 400 ∧ (Txt.slice y none (some 3) != Str.ofString "229") = false ∧ -(y.length : Int) ≤ lf y + 1 ∧ lf y + 1 < y.length ∧ -(y.length : Int) ≤ rf y - 1 ∧ rf y - 1 < y.length
noncomputable abbrev ManyB (y : Str) (ps : List Str) : Prop := SignB y ∧ (Txt.item y (lf y + 1) != Txt.item y (rf y - 1)) = false ∧ ((Txt.item y (lf y + 1)).length == 0) = false ∧ (Txt.slice y (some (lf y + 1)) (some (rf y))).length ≤ 900 ∧ Txt.split (Txt.slice y (some (lf y + 1)) (some (rf y))) (Txt.item y (lf y + 1)) = ps
noncomputable abbrev six1 : List Str := [Str.ofString "", Str.ofString "", Str.ofString "", Str.ofString "", Str.ofString "1", Str.ofString ""]
noncomputable abbrev four1 : List Str := [Str.ofString "", Str.ofString "", Str.ofString "1", Str.ofString ""]
theorem bad_all : ∀ x ∈ marksL, RepB (Str.ofString "129 (" ++ goodS x ++ Str.ofString ")") ∧ RepB (Str.ofString "239 (" ++ goodS x ++ Str.ofString ")") ∧ RepB (Str.ofString "228 229 (" ++ goodS x ++ Str.ofString ")") ∧ (SignB (Str.ofString "229 (" ++ goodS x ++ Str.ofString "x)") ∧ (Txt.item (Str.ofString "229 (" ++ goodS x ++ Str.ofString "x)") (lf (Str.ofString "229 (" ++ goodS x ++ Str.ofString "x)") + 1) != Txt.item (Str.ofString "229 (" ++ goodS x ++ Str.ofString "x)") (rf (Str.ofString "229 (" ++ goodS x ++ Str.ofString "x)") - 1)) = true) ∧ ManyB (Str.ofString "229 (" ++ x ++ goodS x ++ Str.ofString ")") six1 ∧ ManyB (Str.ofString "229 (" ++ Txt.slice (goodS x) (some 1) none ++ Str.ofString ")") four1 ∧ ((Str.ofString "229 (" ++ goodS x ++ Str.ofString "x").length ≤ 400 ∧ (Txt.slice (Str.ofString "229 (" ++ goodS x ++ Str.ofString "x") none (some 3) != Str.ofString "229") = false ∧ ¬ lf (Str.ofString "229 (" ++ goodS x ++ Str.ofString "x") < 0 ∧ rf (Str.ofString "229 (" ++ goodS x ++ Str.ofString "x") < 0) := by decide +kernel
section
variable {x : Str}
theorem bad0 (h : MarkOk x) : BadR (Str.ofString "129 (" ++ goodS x ++ Str.ofString ")") (Str.ofString "error_reply") := .reply (bad_all x (inMarks h)).1.1 (bad_all x (inMarks h)).1.2
theorem bad1 (h : MarkOk x) : BadR (Str.ofString "239 (" ++ goodS x ++ Str.ofString ")") (Str.ofString "error_reply") := .reply (bad_all x (inMarks h)).2.1.1 (bad_all x (inMarks h)).2.1.2
theorem bad2 (h : MarkOk x) : BadR (Str.ofString "228 229 (" ++ goodS x ++ Str.ofString ")") (Str.ofString "error_reply") := .reply (bad_all x (inMarks h)).2.2.1.1 (bad_all x (inMarks h)).2.2.1.2
theorem bad3 (h : MarkOk x) : BadR (Str.ofString "229 (" ++ goodS x ++ Str.ofString "x)") (Str.ofString "error_proto") := by
  have q := (bad_all x (inMarks h)).2.2.2.1
  exact .sign q.1.1 q.1.2.1 q.1.2.2.1 q.1.2.2.2.1 q.1.2.2.2.2.1 q.1.2.2.2.2.2 q.2
theorem bad4 (h : MarkOk x) : BadR (Str.ofString "229 (" ++ x ++ goodS x ++ Str.ofString ")") (Str.ofString "error_proto") := by
  have q := (bad_all x (inMarks h)).2.2.2.2.1
  exact .many q.1.1 q.1.2.1 q.1.2.2.1 q.1.2.2.2.1 q.1.2.2.2.2.1 q.1.2.2.2.2.2 q.2.1 q.2.2.1 q.2.2.2.1 q.2.2.2.2 (by decide) (by decide)
theorem bad5 (h : MarkOk x) : BadR (Str.ofString "229 (" ++ Txt.slice (goodS x) (some 1) none ++ Str.ofString ")") (Str.ofString "error_proto") := by
  have q := (bad_all x (inMarks h)).2.2.2.2.2.1
  exact .many q.1.1 q.1.2.1 q.1.2.2.1 q.1.2.2.2.1 q.1.2.2.2.2.1 q.1.2.2.2.2.2 q.2.1 q.2.2.1 q.2.2.2.1 q.2.2.2.2 (by decide) (by decide)
theorem bad6 : BadR (Str.ofString "229 212)") (Str.ofString "error_proto") := .left (by decide +kernel) (by decide +kernel) (by decide +kernel)
theorem bad7 (h : MarkOk x) : BadR (Str.ofString "229 (" ++ goodS x ++ Str.ofString "x") (Str.ofString "error_proto") := by
  have q := (bad_all x (inMarks h)).2.2.2.2.2.2
  exact .right q.1 q.2.1 q.2.2.1 q.2.2.2
end
noncomputable def ItemIs (nw : Led) (v : Value) (d : PyData) : Prop := (∃ w t, v = .str w t ∧ d = .str w) ∨ ∃ r w t n c, v = .ref r ∧ (r, tupOf [.str w t, .int n c]) ∈ nw ∧ d = .tuple [.str w, .int n]
noncomputable def ItemsAre (nw : Led) : List Value → List PyData → Prop
  | [], [] => True
  | v :: vs, d :: ds => ItemIs nw v d ∧ ItemsAre nw vs ds
  | _, _ => False
theorem ItemIs.mono {nw nw' : Led} (h : ∀ p ∈ nw, p ∈ nw') {v : Value} {d : PyData} (x : ItemIs nw v d) : ItemIs nw' v d := x.imp id fun ⟨r, w, t, n, c, e, m, q⟩ => ⟨r, w, t, n, c, e, h _ m, q⟩
theorem ItemsAre.mono {nw nw' : Led} (h : ∀ p ∈ nw, p ∈ nw') : ∀ {vs : List Value} {ds : List PyData}, ItemsAre nw vs ds → ItemsAre nw' vs ds
  | [], [], _ => trivial
  | _ :: _, _ :: _, ⟨x, r⟩ => ⟨x.mono h, r.mono h⟩
theorem ItemsAre.snoc {nw : Led} {v : Value} {d : PyData} (x : ItemIs nw v d) : ∀ {vs : List Value} {ds : List PyData}, ItemsAre nw vs ds → ItemsAre nw (vs ++ [v]) (ds ++ [d])
  | [], [], _ => ⟨x, trivial⟩
  | _ :: _, _ :: _, ⟨y, r⟩ => ⟨y, r.snoc x⟩
theorem ItemIs.reads {h₀ h : Heap} {L : Addr} {news nw : Led} (N : News h₀ L h news) (hs : ∀ p ∈ nw, p ∈ news) {v : Value} {d : PyData} (x : ItemIs nw v d) : Reads h v d [] := by
  rcases x with ⟨w, t, rfl, rfl⟩ | ⟨r, w, t, n, c, rfl, m, rfl⟩
  · exact .str _ _
  · exact reads_tuple_at (N.get (hs _ m)) rfl rfl (readsAll_cons_val (.str _ _) (readsAll_cons_val (.int _ _) .nil))
theorem ItemsAre.reads {h₀ h : Heap} {L : Addr} {news nw : Led} (N : News h₀ L h news) (hs : ∀ p ∈ nw, p ∈ news) : ∀ {vs : List Value} {ds : List PyData}, ItemsAre nw vs ds → ReadsAll h vs ds []
  | [], [], _ => .nil
  | _ :: _, _ :: _, ⟨x, r⟩ => readsAll_cons_val (x.reads N hs) (r.reads N hs)
theorem replies_use {w : World} {A : Around} {h₀ : Heap} {all : List Env} {L : Addr} {m : Str → Option Value} {s : Shared} {mean : ExcName → Option Value} {mg mb : Str → Option Value} {news : Led} {E : Value → Shared → Prop} {x y : Str} {t u v : Tok} {n : Int} {Q : Value → Shared → Prop} (F : Fr h₀ L s.heap m) (X : (hd.heap_1 w.params).In h₀) (T : Top View Loose mean mg mb h₀) (hB : FB A h₀ L m all) (N : News h₀ L s.heap news)
    (hh : A.handled = none) (hd : A.depth ≤ 480) (hu : A.units ≤ 480) (hx : x.length = 1) (hy : y.length = 1) (h0 : 0 ≤ n) (h5 : n < 65536)
    (h : ∀ h' tk' r k t0 t1 t2 t3 t4 t5 t6 t7 t8, Fr h₀ L h' m → News h₀ L h' ((r, listOf #[.str (Str.ofString "129 (" ++ goodS x ++ Str.ofString ")") t0, .str (Str.ofString "239 (" ++ goodS x ++ Str.ofString ")") t1, .str (Str.ofString "228 229 (" ++ goodS x ++ Str.ofString ")") t2, .str (Str.ofString "229 (" ++ goodS x ++ Str.ofString "x)") t3, .str (Str.ofString "229 (" ++ x ++ goodS x ++ Str.ofString ")") t4, .str (Str.ofString "229 (" ++ Txt.slice (goodS x) (some 1) none ++ Str.ofString ")") t5, .str (Str.ofString "229 212)") t6, .str (Str.ofString "229 (" ++ goodS x ++ Str.ofString "x") t7, .str (farS x y n) t8] k) :: news) → (∀ p ∈ news, Ap p.1 r) → Q (.ref r) { s with heap := h', toks := tk' }) : wpAny (lawM w) A (call (.ref 282) [.str x t, .str y u, .int n v]) Q E s := by
  refine wpAny_call (use (fp := []) (rest := news) F X T hB N (fun _ _ _ h => nomatch h) hh hd hu fun g W => ?_)
  exact replies_spec W hx hy h0 h5 fun h' tk' r k t0 t1 t2 t3 t4 t5 t6 t7 t8 W' => ⟨_, W', fun F' N' nd => h h' tk' r k t0 t1 t2 t3 t4 t5 t6 t7 t8 F' N' fun p hp => nd p hp (r, _) (.head _)⟩
noncomputable abbrev dS (x : Str) : PyData := PyData.str x
noncomputable def farD (n : Int) : List PyData := [dS (Str.ofString "error_reply"), dS (Str.ofString "error_reply"), dS (Str.ofString "error_reply"), dS (Str.ofString "error_proto"), dS (Str.ofString "error_proto"), dS (Str.ofString "error_proto"), dS (Str.ofString "error_proto"), dS (Str.ofString "error_proto"), PyData.tuple [PyData.str (Str.ofString "h"), PyData.int n]]
/-- the nine replies, each with what _law_read tells of it -/
structure Nine (n : Int) (vs : Array Value) : Prop where
  size : vs.size = 9
  at_ : ∀ (i : Nat) (v : Value), vs.toList[i]? = some v → ∃ (y : Str) (t : Tok), v = Value.str y t ∧ ((∃ u : Str, BadR y u ∧ (farD n)[i]? = some (dS u)) ∨ (GoodR y n ∧ (farD n)[i]? = some (PyData.tuple [PyData.str (Str.ofString "h"), PyData.int n])))
theorem nine_of {n : Int} (vs : Array Value) (a : vs.size = 9) (b : ∀ (i : Nat) (v : Value), vs.toList[i]? = some v → ∃ (y : Str) (t : Tok), v = Value.str y t ∧ ((∃ u : Str, BadR y u ∧ (farD n)[i]? = some (dS u)) ∨ (GoodR y n ∧ (farD n)[i]? = some (PyData.tuple [PyData.str (Str.ofString "h"), PyData.int n])))) : Nine n vs := ⟨a, b⟩
theorem nine_use {w : World} {A : Around} {h₀ : Heap} {all : List Env} {L : Addr} {m : Str → Option Value} {s : Shared} {mean : ExcName → Option Value} {mg mb : Str → Option Value} {news : Led} {E : Value → Shared → Prop} {x y : Str} {t u v : Tok} {n : Int} {Q : Value → Shared → Prop} (F : Fr h₀ L s.heap m) (X : (hd.heap_1 w.params).In h₀) (T : Top View Loose mean mg mb h₀) (hB : FB A h₀ L m all) (N : News h₀ L s.heap news)
    (hh : A.handled = none) (hd : A.depth ≤ 480) (hu : A.units ≤ 480) (hx : MarkOk x) (hy : MarkOk y) (hne : x ≠ y) (h0 : 0 ≤ n) (h5 : n < 65536)
    (h : ∀ h' tk' r k vs, Nine n vs → Fr h₀ L h' m → News h₀ L h' ((r, listOf vs k) :: news) → (∀ p ∈ news, Ap p.1 r) → Q (.ref r) { s with heap := h', toks := tk' }) : wpAny (lawM w) A (call (.ref 282) [.str x t, .str y u, .int n v]) Q E s := by
  have one : ∀ {z : Str}, MarkOk z → z.length = 1 := fun e => by rcases e with e | e | e | e <;> rw [e] <;> decide +kernel
  refine replies_use F X T hB N hh hd hu (one hx) (one hy) h0 h5 fun h' tk' r k t0 t1 t2 t3 t4 t5 t6 t7 t8 F' N' nd => h h' tk' r k _ ?_ F' N' nd
  refine nine_of _ (by simp only [List.size_toArray, List.length_cons, List.length_nil]) fun i v hv => ?_
  have hi := (List.getElem?_eq_some_iff.mp hv).1
  simp only [List.length_cons, List.length_nil] at hi
  have hi := (by decide : ∀ n, n < 9 → n = 0 ∨ n = 1 ∨ n = 2 ∨ n = 3 ∨ n = 4 ∨ n = 5 ∨ n = 6 ∨ n = 7 ∨ n = 8) i hi
  rcases hi with rfl | rfl | rfl | rfl | rfl | rfl | rfl | rfl | rfl
  · exact ⟨_, _, (Option.some.inj hv).symm, .inl ⟨_, bad0 hx, rfl⟩⟩
  · exact ⟨_, _, (Option.some.inj hv).symm, .inl ⟨_, bad1 hx, rfl⟩⟩
  · exact ⟨_, _, (Option.some.inj hv).symm, .inl ⟨_, bad2 hx, rfl⟩⟩
  · exact ⟨_, _, (Option.some.inj hv).symm, .inl ⟨_, bad3 hx, rfl⟩⟩
  · exact ⟨_, _, (Option.some.inj hv).symm, .inl ⟨_, bad4 hx, rfl⟩⟩
  · exact ⟨_, _, (Option.some.inj hv).symm, .inl ⟨_, bad5 hx, rfl⟩⟩
  · exact ⟨_, _, (Option.some.inj hv).symm, .inl ⟨_, bad6, rfl⟩⟩
  · exact ⟨_, _, (Option.some.inj hv).symm, .inl ⟨_, bad7 hx, rfl⟩⟩
  · exact ⟨_, _, (Option.some.inj hv).symm, .inr ⟨good_far hx hy hne h0 h5, rfl⟩⟩
section
variable {prog : Program} {w : World} {A : Around} {E : Value → Shared → Prop} {s : Shared} {R : Result → Shared → Prop} {h₀ : Heap} {L : Addr} {m : Str → Option Value} {news : Led}
theorem compEnvD {A₀ : Around} {base : Heap} {outer : List Env} {env : Env} {elt target iter : Expr} {ifs : List Expr} {scope : Scope} {pos : Pos} {cl : List (Str × Addr)} {I : Addr} {oI : Obj} {acc : Value} {Q : Value → Shared → Prop}
    (B : Below A₀ base outer h₀) (F : Fr h₀ L s.heap m) (N : News h₀ L s.heap news) (hm : (I, oI) ∈ news) (hA : A.frames = some (env :: outer)) (hf : env.frame = some L) (hke : env.scope.kind = .function)
    (hcell : ∀ y ∈ scope.names, y.2 ≠ .cell) (hk : scope.kind = .function)
    (hpi : ∀ {A : Around} {E : Value → Shared → Prop} {s : Shared} {Q : Value → Shared → Prop}, s.heap.get? I = some oI → Q (.ref I) s → wpAny (model prog w) A (pyIter (.ref I)) Q E s)
    (h : ∀ g C h' tk, Fr g C h' (fun _ => none) → News g C h' news → (∀ p ∈ news, p.1 < C) → h₀.StaysIn g → Below A base (env :: outer) g → (∃ o es n, g.get? L = some o ∧ o.data = .dict es n) →
      codeAny (model prog w) A (.compLoop (.ListComp elt [⟨target, iter, ifs, 0⟩] scope pos) 0 (.ref I) acc (compEnvC scope cl C env)) (CompT prog w A E h₀ L m g C Q acc) { s with heap := h', toks := tk }) :
    wpAny (model prog w) A (newFunctionEnv scope env.globals cl [] env.qual none .none (some env)) (fun cenv s₄ =>
      codeAny (model prog w) A (.compStart (.ListComp elt [⟨target, iter, ifs, 0⟩] scope pos) 0 (.ref I) acc { cenv with scope := relabel scope env }) (compPost (model prog w) A E none Q acc cenv.locals) s₄) E s := by
  obtain ⟨FG, BG, st, _⟩ := groundX (R := fun _ _ => True) B F N hA hf hke
  have hsz : (hideAll s.heap (news.map (·.1))).objs.size = s.heap.objs.size := hideAll_size _ _
  have hkp : ∀ b o, (hideAll s.heap (news.map (·.1))).get? b = some o → s.heap.get? b = some o := fun b o e => of_hideAll _ e
  have hn : ∀ p ∈ news, (hideAll s.heap (news.map (·.1))).get? p.1 = none := fun p hp => hideAll_none _ (List.mem_map_of_mem hp)
  generalize hideAll s.heap (news.map (·.1)) = g at FG BG st hsz hkp hn
  refine wpAny_newFunctionEnv hcell (by intro y hy; simp at hy) (fun h₁ hns₁ hsb₁ => ?_) hk
  have old : ∀ b o, s.heap.get? b = some o → h₁.get? b = some o := fun b o e => hsb₁.extBut b o (Nat.ne_of_lt (Heap.lt_size e)) (Heap.get?_push_of_some _ e)
  have F₁ : Fr g s.heap.objs.size h₁ (fun _ => none) := ⟨hns₁, fun b o e => old b o (hkp b o e), Nat.le_of_eq hsz⟩
  have N₁ : News g s.heap.objs.size h₁ news := fun p hp => ⟨old _ _ (N p hp).1, Nat.ne_of_lt (Heap.lt_size (N p hp).1), hn p hp⟩
  have hLD : ∃ o es n, g.get? L = some o ∧ o.data = .dict es n := by
    obtain ⟨o, es, n, h1, h2, -, -⟩ := FG.ns
    exact ⟨o, es, n, h1, h2⟩
  have lp := h g s.heap.objs.size h₁ (s.toks + ([] : List (Str × Value)).length) F₁ N₁ (fun p hp => Heap.lt_size (N p hp).1) st BG hLD
  have hpost : ∀ r s', CompT prog w A E h₀ L m g s.heap.objs.size Q acc r s' → compPost (model prog w) A E none Q acc s.heap.objs.size r s' := fun r s' hr => by
    cases r with
    | error x => exact hr
    | ok f =>
      obtain ⟨g', m', news', T', F', N', k⟩ := hr
      have hL0 : h₀.get? L = none := by
        cases q : h₀.get? L with
        | none => rfl
        | some o => exact absurd (Nat.lt_of_lt_of_le (Heap.lt_size q) F.above) (Nat.lt_irrefl _)
      have st' : ∀ b o, h₀.get? b = some o → g'.get? b = some o := fun b o e => T'.other b o (st b o e) fun q => by
        rw [List.mem_singleton.mp q, hL0] at e; cases e
      refine ⟨m', F'.ns, fun h'' hs'' => k h'' ?_ fun p hp => ?_⟩
      · obtain ⟨oL, es, ep, hL, hLd, hLk, hLf⟩ := FG.ns
        have hC : ∀ b o, g'.get? b = some o → b ≠ s.heap.objs.size := fun b o e q => by
          have h1 := Heap.lt_size e
          rw [q, T'.size, hsz] at h1
          exact Nat.lt_irrefl _ h1
        have hall : ∀ b o, g'.get? b = some o → h''.get? b = some o := fun b o e => (hs''.2 b (hC b o e)).trans (F'.keep b o e)
        obtain ⟨sl, hL'⟩ := T'.up hL
        exact ⟨⟨_, es, ep, hall L _ hL', hLd, hLk, hLf⟩, fun b o e => hall b o (st' b o e), F.above⟩
      · obtain ⟨oL, es, ep, hL, -, -, -⟩ := FG.ns
        obtain ⟨sl, hL'⟩ := T'.up hL
        refine ⟨(hs''.2 _ (N' p hp).2.1).trans (N' p hp).1, fun q => ?_, ?_⟩
        · have := (N' p hp).2.2; rw [q, hL'] at this; cases this
        · cases q : h₀.get? p.1 with
          | none => rfl
          | some o => have := (N' p hp).2.2; rw [st' _ _ q] at this; cases this
  have lp' := codeAny_mono lp hpost
  exact codeAny_compStart_list lp' (hpi (N₁ _ hm).1 lp')
end
section
variable {prog : Program} {w : World} {A : Around} {E : Value → Shared → Prop} {s : Shared} {h₀ : Heap} {L : Addr} {m : Str → Option Value} {news : Led} {l : Addr} {v : Value} {n : Nat} {u : Tok} {Q : Value → Shared → Prop}
theorem mul3 (F : Fr h₀ L s.heap m) (N : News h₀ L s.heap news) (hm : (l, listOf #[v] n) ∈ news) (h : ∀ D h', Fr h₀ L h' m → News h₀ L h' ((D, listOf #[v, v, v] 0) :: news) → (∀ p ∈ news, p.1 < D) → Q (.ref D) { s with heap := h' }) : wpAny (model prog w) A (binaryOp .Mult (.ref l) (.int 3 u)) Q E s :=
  mul_list F N (N _ hm).1 (by decide) (by decide) (Nat.le_of_ble_eq_true rfl) fun h' F' N' => h _ h' F' N' fun p hp => Heap.lt_size (N p hp).1
theorem mul5 (F : Fr h₀ L s.heap m) (N : News h₀ L s.heap news) (hm : (l, listOf #[v] n) ∈ news) (h : ∀ D h', Fr h₀ L h' m → News h₀ L h' ((D, listOf #[v, v, v, v, v] 0) :: news) → (∀ p ∈ news, p.1 < D) → Q (.ref D) { s with heap := h' }) : wpAny (model prog w) A (binaryOp .Mult (.ref l) (.int 5 u)) Q E s :=
  mul_list F N (N _ hm).1 (by decide) (by decide) (Nat.le_of_ble_eq_true rfl) fun h' F' N' => h _ h' F' N' fun p hp => Heap.lt_size (N p hp).1
end
theorem ok_words : PyData.strOk (Str.ofString "error_reply") = true ∧ PyData.strOk (Str.ofString "error_proto") = true ∧ PyData.strOk (Str.ofString "h") = true := by decide +kernel
theorem far_shaped {n : Int} : SeqAt.shaped (.list (farD n)) = true := by
  simp [farD, dS, SeqAt.shaped, PyData.canLay0, PyData.canLayAll0, PyData.depth, PyData.depthAll, ok_words]
theorem far_same {n : Int} : PyData.eqv (.list (farD n)) (.list (farD n)) = true := by
  simp [farD, dS, PyData.eqv, PyData.eqvAll]
theorem neItems {prog : Program} {w : World} {A : Around} {E : Value → Shared → Prop} {s : Shared} {h₀ : Heap} {L a b : Addr} {news na nb : Led} {xs ys : Array Value} {i j : Nat} {ds : List PyData} {Q : Value → Shared → Prop} (N : News h₀ L s.heap news) (ha : (a, listOf xs i) ∈ news) (hb : (b, listOf ys j) ∈ news) (sa : ∀ p ∈ na, p ∈ news) (sb : ∀ p ∈ nb, p ∈ news) (ia : ItemsAre na xs.toList ds) (ib : ItemsAre nb ys.toList ds) (hx : SeqAt.shaped (.list ds) = true) (hq : PyData.eqv (.list ds) (.list ds) = true) (hu : A.units + 64 < cLine) (h : Q (.bool false) s) : wpAny (model prog w) A (compareOp .NotEq (.ref a) (.ref b)) Q E s := by
  refine ne_dataH (reads_list_at (N.get ha) rfl rfl (ia.reads N sa)) (reads_list_at (N.get hb) rfl rfl (ib.reads N sb)) hx hx hu ?_
  rw [hq]; exact h
section
local macro_rules | `(tactic| k_extra "mu") => `(tactic| (k_dflt (k_extra "FN"; k_mem; k_whole); intro _ _ _ _ l1; (try k_lt l1)))
local macro_rules | `(tactic| walk_at "binaryOp Mult ref int") => `(tactic| first | (apply mul3; k_extra "mu") | (apply mul5; k_extra "mu"))
local macro_rules | `(tactic| walk_at "newFunctionEnv") => `(tactic| (k_dflt (apply compEnvD; k_extra "pi")))
local macro_rules | `(tactic| walk_at "call ref") => `(tactic| (with_reducible refine callN 282 ?_; k_dflt apply nine_use; k_extra "c5"))
local macro_rules | `(tactic| walk_at "call ref") => `(tactic| (with_reducible refine callN 289 ?_; k_dflt apply bad_use; (k_dflt (k_extra "FN"; (iterate 4 k_extra "q"); exact rfl; exact rfl; k_extra "b"; k_extra "b"; k_extra "q"); intros)))
theorem stmt24 {w : World} {g : Heap} {L : Addr} {Γ : Cst} {s : Shared} {m : Str → Option Value} {mean : ExcName → Option Value} {mg mb : Str → Option Value} {rest : List Stmt} {Q : Flow → Shared → Prop} {E : Value → Shared → Prop}
    (X : (hd.heap_1 w.params).In g) (T : Top View Loose mean mg mb g) (ok : CstOk Γ) (hne : Γ.mark ≠ Γ.other) (S : EndSt g L Γ s m)
    (h : ∀ s', EndSt g L Γ s' m → wpAny (lawM w) (lawA w.params L) (execs rest (lawEnv w.params L)) Q E s') :
    wpAny (lawM w) (lawA w.params L) (execs (stmtAt w.params 24 :: rest) (lawEnv w.params L)) Q E s := by
  obtain ⟨kl, F, N, ⟨tm, om, mom, dom_⟩, ⟨to, e8⟩, ⟨tf, e7⟩, gs⟩ := S.ex
  have mk := ok.mark
  have ot := ok.other
  obtain ⟨f0, f1⟩ := ok.far
  have B : Below (Lv 301 []) g [] g := ⟨rfl, fun _ _ e => e, trivial⟩
  have hsc : lawScope w.params = ⟨_, _, _, _, _⟩ := rfl
  show wpAny _ _ (execs (Stmt.If _ _ _ _ :: _) _) _ _ _
  dsimp only [lawEnv, lawA, lawM]
  rw [hsc]
  clear hsc
  iterate 19 (first | walk1 | (dsimp only; walk1) | (k_unfold; (try dsimp only)))
  rename_i r kr vs nine nd I h2 lI1 lI acc h3 F3 N3 lA1 lA2 lA
  intro gr C h4 tk4 F4 N4 ltC st4 B4 hLD
  have B5 : Below (lawA w.params L) g [lawEnv w.params L] gr := B4
  clear B4
  have X4 := kinKeeps X st4
  have T4 := topKeeps T st4
  have D4 : KtsDicts (framesOf [lawEnv w.params L]) gr := fun b hb => by
    have : b ∈ [L] := hb
    rw [List.mem_singleton.mp this]; exact hLD
  have ltI1 : @LT.lt Nat _ r I := lI1
  have offI : OffD I kl := OffD.ofLt lI
  have offA : OffD acc kl := OffD.ofLt lA
  have apAI : @Ne Nat acc I := Ne.symm (Nat.ne_of_lt lA1)
  have apAr : @Ne Nat acc r := Ne.symm (Nat.ne_of_lt lA2)
  have apIr : @Ne Nat I r := Ne.symm (Nat.ne_of_lt lI1)
  refine compListG (base := (r, listOf vs kr) :: kl) (vs := vs) (n := kr) (fun i ys nw gr' => KtsTurn (framesOf [lawEnv w.params L]) gr gr' ∧ Below (lawA w.params L) g [lawEnv w.params L] gr' ∧ KtsDicts (framesOf [lawEnv w.params L]) gr' ∧ ItemsAre nw ys ((farD Γ.far).take i)) rfl (fun i v hv => ?yhg) (by rw [nine.size]; decide) ?ystep (.head _) ?yhb apAI ?yhend 9 0 [] [] gr _ _ none #[] 0 (by rw [nine.size]) ⟨KtsTurn.refl, B5, D4, trivial⟩ rfl gs F4 N4 (fun _ h => nomatch h)
  case yhg => obtain ⟨y, t, rfl, -⟩ := nine.at_ i v hv; exact goName
  case yhb => exact List.forall_mem_cons.mpr ⟨⟨apAr.symm, apIr.symm⟩, fun p hp => ⟨(offA p hp).ne', (offI p hp).ne'⟩⟩
  case ystep =>
    clear N3 N4 F3 F4 h
    intro i v ys nw gr' s m' d sl k E' hv hP hy hn gs1 F N
    obtain ⟨y, t, rfl, hx⟩ := nine.at_ i v hv
    obtain ⟨TK, BK, DK, it⟩ := hP
    have XK := kinKeeps X BK.stays
    have TT := topKeeps T BK.stays
    obtain ⟨tl2, e2⟩ : ∃ tl2, tl2 = nw ++ (r, listOf vs kr) :: kl := ⟨_, rfl⟩
    rw [← e2] at N
    (try dsimp only)
    have snoc : ∀ (nw' : Led) (v : Value) (dd : PyData), ItemIs nw' v dd → (farD Γ.far)[i]? = some dd → (∀ p ∈ nw, p ∈ nw') → ItemsAre nw' (ys ++ [v]) ((farD Γ.far).take (i + 1)) := fun nw' v dd h1 h2 h3 => by
      rw [List.take_add_one, h2]
      exact (it.mono h3).snoc h1
    rcases hx with ⟨u, hb, hd⟩ | ⟨hg, hd⟩
    · k_steps
      all_goals (try dsimp only)
      all_goals (try k_data)
      rename_i h9 tk9 t9 gr9 TK9 F9 N9 B9
      rw [e2] at N9
      exact ⟨_, nw, gr9, gs1, F9, N9, hn, TK.trans TK9, B9, DK.turn TK9, snoc nw _ _ (.inl ⟨_, _, rfl, rfl⟩) hd fun _ hp => hp⟩
    · k_steps
      all_goals (try dsimp only)
      all_goals (try k_data)
      rename_i h9 tk9 r9 t9 c9 F9 N9 ac9 ai9 _
      rw [e2] at N9
      exact ⟨_, (r9, tupOf [.str (Str.ofString "h") t9, .int Γ.far c9]) :: nw, gr', gs1, F9, newsTurn N9, List.forall_mem_cons.mpr ⟨⟨ac9.ne', ai9.ne'⟩, hn⟩, TK, BK, DK, snoc _ _ _ (.inr ⟨_, _, _, _, _, rfl, .head _, rfl⟩) hd fun _ hp => .tail _ hp⟩
  case yhend =>
    clear N3 N4 F3 F4
    intro ys nw gr' s m' k hP hy gs1 F N
    obtain ⟨TK, BK, DK, it⟩ := hP
    obtain ⟨tl2, e2⟩ : ∃ tl2, tl2 = nw ++ (r, listOf vs kr) :: kl := ⟨_, rfl⟩
    rw [nine.size] at it hy
    rw [← e2] at N
    refine compT_end F N TK fun h9 F9 N9 => ?_
    (try dsimp only)
    iterate 31 (first | walk1 | (dsimp only; walk1) | (k_unfold; (try dsimp only)))
    rename_i D1 _ _ _ _ _ _ _ _ _ _ _ _ _ _ _ _ _ _ D2 h10 F10 N10 _ _ _ _ _ _ _ _ _
    have sub : ∀ p ∈ nw, p ∈ tl2 := fun p hp => by rw [e2]; exact List.mem_append_left _ hp
    have subk : ∀ p ∈ kl, p ∈ tl2 := fun p hp => by rw [e2]; exact List.mem_append_right _ (.tail _ hp)
    have w1 : ∀ (u : Str) (t : Tok) (l : Led), ItemIs l (.str u t) (dS u) := fun u t l => .inl ⟨u, t, rfl, rfl⟩
    refine neItems (i := k) (xs := ys.toArray) (ds := farD Γ.far) (na := nw) (nb := [(D1, tupOf [.str (Str.ofString "h") (s.toks + 1 + 1 + 1 + 1), .int Γ.far tf])]) N10 ?yha (.head _) ?ysa ?ysb it ?yib far_shaped far_same (Nat.le_of_ble_eq_true rfl) ?_
    case yha => exact .tail _ (.tail _ (.tail _ (.tail _ (.tail _ (.tail _ (.tail _ (.tail _ (.head _))))))))
    case ysa => exact fun p hp => .tail _ (.tail _ (.tail _ (.tail _ (.tail _ (.tail _ (.tail _ (.tail _ (.tail _ (sub p hp)))))))))
    case ysb => exact List.forall_mem_cons.mpr ⟨.tail _ (.tail _ (.head _)), fun _ h => nomatch h⟩
    case yib => exact ⟨w1 _ _ _, w1 _ _ _, w1 _ _ _, w1 _ _ _, w1 _ _ _, w1 _ _ _, w1 _ _ _, w1 _ _ _, .inr ⟨_, _, _, _, _, rfl, .head _, rfl⟩, trivial⟩
    k_steps
    all_goals (try dsimp only)
    exact h _ ⟨kl, F10, fun p hp => N10 p (.tail _ (.tail _ (.tail _ (.tail _ (.tail _ (.tail _ (.tail _ (.tail _ (.tail _ (subk p hp)))))))))), ⟨tm, om, mom, dom_⟩, ⟨_, e8⟩, ⟨_, e7⟩, gs1⟩
end
noncomputable def codeD : List PyData := [dS (Str.ofString "error_reply"), dS (Str.ofString "error_reply"), dS (Str.ofString "error_reply")]
theorem code_shaped : SeqAt.shaped (.list codeD) = true := by
  simp [codeD, dS, SeqAt.shaped, PyData.canLay0, PyData.canLayAll0, PyData.depth, PyData.depthAll, ok_words]
theorem code_same : PyData.eqv (.list codeD) (.list codeD) = true := by
  simp [codeD, dS, PyData.eqv, PyData.eqvAll]
structure BadN (y : Str) : Prop where
  len : y.length ≤ 10
  hl : (y ++ Str.ofString " \"a\"").length ≤ 400
  c1 : (Txt.slice (y ++ Str.ofString " \"a\"") none (some 3) != Str.ofString "257") = true
theorem bad_codes : BadN (Str.ofString "157") ∧ BadN (Str.ofString "267") ∧ BadN (Str.ofString "258 257") := by
  refine ⟨⟨?_, ?_, ?_⟩, ⟨?_, ?_, ?_⟩, ⟨?_, ?_, ?_⟩⟩ <;> decide +kernel
theorem three_at {t0 t1 t2 : Tok} {i : Nat} {v : Value} (hv : (#[.str (Str.ofString "157") t0, .str (Str.ofString "267") t1, .str (Str.ofString "258 257") t2] : Array Value).toList[i]? = some v) : ∃ y t, v = Value.str y t ∧ BadN y ∧ codeD[i]? = some (dS (Str.ofString "error_reply")) := by
  have hi := (List.getElem?_eq_some_iff.mp hv).1
  simp only [List.length_cons, List.length_nil] at hi
  have hi : i = 0 ∨ i = 1 ∨ i = 2 := by omega
  rcases hi with rfl | rfl | rfl
  · exact ⟨_, _, (Option.some.inj hv).symm, bad_codes.1, rfl⟩
  · exact ⟨_, _, (Option.some.inj hv).symm, bad_codes.2.1, rfl⟩
  · exact ⟨_, _, (Option.some.inj hv).symm, bad_codes.2.2, rfl⟩
section
local macro_rules | `(tactic| k_extra "mu") => `(tactic| (k_dflt (k_extra "FN"; k_mem; k_whole); intro _ _ _ _ l1; (try k_lt l1)))
local macro_rules | `(tactic| walk_at "binaryOp Mult ref int") => `(tactic| first | (apply mul3; k_extra "mu") | (apply mul5; k_extra "mu"))
local macro_rules | `(tactic| walk_at "newFunctionEnv") => `(tactic| (k_dflt (apply compEnvD; k_extra "pi")))
local macro_rules | `(tactic| walk_at "call ref") => `(tactic| (with_reducible refine callN 296 ?_; k_dflt apply bad_name_use; (k_dflt (k_extra "FN"; (iterate 4 k_extra "q"); exact rfl; exact rfl; k_extra "b"; k_extra "b"; iterate 2 k_extra "q"); intros)))
theorem stmt25 {w : World} {g : Heap} {L : Addr} {Γ : Cst} {s : Shared} {m : Str → Option Value} {mean : ExcName → Option Value} {mg mb : Str → Option Value} {rest : List Stmt} {Q : Flow → Shared → Prop} {E : Value → Shared → Prop}
    (X : (hd.heap_1 w.params).In g) (T : Top View Loose mean mg mb g) (S : EndSt g L Γ s m)
    (h : ∀ s', EndSt g L Γ s' m → wpAny (lawM w) (lawA w.params L) (execs rest (lawEnv w.params L)) Q E s') :
    wpAny (lawM w) (lawA w.params L) (execs (stmtAt w.params 25 :: rest) (lawEnv w.params L)) Q E s := by
  obtain ⟨kl, F, N, cm, oth, fa, gs⟩ := S.ex
  have B : Below (Lv 301 []) g [] g := ⟨rfl, fun _ _ e => e, trivial⟩
  have hsc : lawScope w.params = ⟨_, _, _, _, _⟩ := rfl
  show wpAny _ _ (execs (Stmt.If _ _ _ _ :: _) _) _ _ _
  dsimp only [lawEnv, lawA, lawM]
  rw [hsc]
  clear hsc
  iterate 16 (first | walk1 | (dsimp only; walk1) | (k_unfold; (try dsimp only)))
  rename_i r h1 lt1 I h2 lI1 lI acc h3 F3 N3 lA1 lA2 lA
  intro gr C h4 tk4 F4 N4 ltC st4 B4 hLD
  have B5 : Below (lawA w.params L) g [lawEnv w.params L] gr := B4
  clear B4
  have X4 := kinKeeps X st4
  have T4 := topKeeps T st4
  have D4 : KtsDicts (framesOf [lawEnv w.params L]) gr := fun b hb => by
    have : b ∈ [L] := hb
    rw [List.mem_singleton.mp this]; exact hLD
  have offI : OffD I kl := OffD.ofLt lI
  have offA : OffD acc kl := OffD.ofLt lA
  have apAI : @Ne Nat acc I := Ne.symm (Nat.ne_of_lt lA1)
  have apAr : @Ne Nat acc r := Ne.symm (Nat.ne_of_lt lA2)
  have apIr : @Ne Nat I r := Ne.symm (Nat.ne_of_lt lI1)
  refine compListG (base := (r, listOf #[.str (Str.ofString "157") s.toks, .str (Str.ofString "267") (s.toks + 1), .str (Str.ofString "258 257") (s.toks + 1 + 1)] 0) :: kl) (vs := #[.str (Str.ofString "157") s.toks, .str (Str.ofString "267") (s.toks + 1), .str (Str.ofString "258 257") (s.toks + 1 + 1)]) (n := 0) (fun i ys nw gr' => KtsTurn (framesOf [lawEnv w.params L]) gr gr' ∧ Below (lawA w.params L) g [lawEnv w.params L] gr' ∧ KtsDicts (framesOf [lawEnv w.params L]) gr' ∧ ItemsAre nw ys (codeD.take i)) rfl (fun i v hv => ?yhg) (show 3 ≤ 1000 by decide) ?ystep (.head _) ?yhb apAI ?yhend 3 0 [] [] gr _ _ none #[] 0 rfl ⟨KtsTurn.refl, B5, D4, trivial⟩ rfl gs F4 N4 (fun _ h => nomatch h)
  case yhg => obtain ⟨y, t, rfl, -⟩ := three_at hv; exact goName
  case yhb => exact List.forall_mem_cons.mpr ⟨⟨apAr.symm, apIr.symm⟩, fun p hp => ⟨(offA p hp).ne', (offI p hp).ne'⟩⟩
  case ystep =>
    clear N3 N4 F3 F4 h
    intro i v ys nw gr' s1 m' d sl k E' hv hP hy hn gs1 F N
    obtain ⟨y, t, rfl, hb, hd⟩ := three_at hv
    obtain ⟨TK, BK, DK, it⟩ := hP
    obtain ⟨yl, hl, c1⟩ := hb
    have XK := kinKeeps X BK.stays
    have TT := topKeeps T BK.stays
    obtain ⟨tl2, e2⟩ : ∃ tl2, tl2 = nw ++ (r, listOf #[.str (Str.ofString "157") s.toks, .str (Str.ofString "267") (s.toks + 1), .str (Str.ofString "258 257") (s.toks + 1 + 1)] 0) :: kl := ⟨_, rfl⟩
    rw [← e2] at N
    (try dsimp only)
    k_steps
    all_goals (try dsimp only)
    all_goals (try k_data)
    rename_i h9 tk9 t9 gr9 TK9 F9 N9 B9
    rw [e2] at N9
    refine ⟨_, nw, gr9, gs1, F9, N9, hn, TK.trans TK9, B9, DK.turn TK9, ?_⟩
    rw [List.take_add_one, hd]
    exact it.snoc (.inl ⟨_, _, rfl, rfl⟩)
  case yhend =>
    clear N3 N4 F3 F4
    intro ys nw gr' s1 m' k hP hy gs1 F N
    obtain ⟨TK, BK, DK, it⟩ := hP
    obtain ⟨tl2, e2⟩ : ∃ tl2, tl2 = nw ++ (r, listOf #[.str (Str.ofString "157") s.toks, .str (Str.ofString "267") (s.toks + 1), .str (Str.ofString "258 257") (s.toks + 1 + 1)] 0) :: kl := ⟨_, rfl⟩
    rw [← e2] at N
    refine compT_end F N TK fun h9 F9 N9 => ?_
    (try dsimp only)
    iterate 8 (first | walk1 | (dsimp only; walk1) | (k_unfold; (try dsimp only)))
    rename Fr _ _ _ _ => F10
    rename News _ _ _ _ => N10
    have subk : ∀ p ∈ kl, p ∈ tl2 := fun p hp => by rw [e2]; exact List.mem_append_right _ (.tail _ hp)
    have sub : ∀ p ∈ nw, p ∈ tl2 := fun p hp => by rw [e2]; exact List.mem_append_left _ hp
    have w1 : ∀ (u : Str) (t : Tok) (l : Led), ItemIs l (.str u t) (dS u) := fun u t l => .inl ⟨u, t, rfl, rfl⟩
    refine neItems (i := k) (xs := ys.toArray) (ds := codeD) (na := nw) (nb := []) N10 ?yha (.head _) ?ysa ?ysb it ?yib code_shaped code_same (Nat.le_of_ble_eq_true rfl) ?_
    case yha => exact .tail _ (.tail _ (.head _))
    case ysa => exact fun p hp => .tail _ (.tail _ (.tail _ (sub p hp)))
    case ysb => exact fun _ h => nomatch h
    case yib => exact ⟨w1 _ _ _, w1 _ _ _, w1 _ _ _, trivial⟩
    k_steps
    all_goals (try dsimp only)
    exact h _ ⟨kl, F10, fun p hp => N10 p (.tail _ (.tail _ (.tail _ (subk p hp)))), cm, oth, fa, gs1⟩
end
theorem stmt26 {w : World} {g : Heap} {L : Addr} {Γ : Cst} {s : Shared} {m : Str → Option Value} {mean : ExcName → Option Value} {mg mb : Str → Option Value} {Q : Flow → Shared → Prop} {E : Value → Shared → Prop}
    (X : (hd.heap_1 w.params).In g) (T : Top View Loose mean mg mb g) (S : EndSt g L Γ s m)
    (h : ∀ s' m', Fr g L s'.heap m' → (s'.gens = Γ.gens ∧ s'.os = Γ.os) → Q (.ret (.bool true)) s') :
    wpAny (lawM w) (lawA w.params L) (execs [stmtAt w.params 26] (lawEnv w.params L)) Q E s := by
  obtain ⟨kl, F, N, cm, oth, fa, gs⟩ := S.ex
  have B : Below (Lv 301 []) g [] g := ⟨rfl, fun _ _ e => e, trivial⟩
  have hl1 : (Str.ofString "257-\"a\"").length ≤ 400 := by decide +kernel
  have hl2 : (Str.ofString "257 aa\"").length ≤ 400 := by decide +kernel
  have c1 : (Txt.slice (Str.ofString "257-\"a\"") none (some 3) != Str.ofString "257") = false := by decide +kernel
  have c2 : (Txt.slice (Str.ofString "257-\"a\"") (some 3) (some 5) != Str.ofString " \"") = true := by decide +kernel
  have d1 : (Txt.slice (Str.ofString "257 aa\"") none (some 3) != Str.ofString "257") = false := by decide +kernel
  have d2 : (Txt.slice (Str.ofString "257 aa\"") (some 3) (some 5) != Str.ofString " \"") = true := by decide +kernel
  have hsc : lawScope w.params = ⟨_, _, _, _, _⟩ := rfl
  show wpAny _ _ (execs [Stmt.Return _ _] _) _ _ _
  dsimp only [lawEnv, lawA, lawM]
  rw [hsc]
  clear hsc
  k_steps
  all_goals (try dsimp only)
  rw [show (Str.ofString "" == Str.ofString "") = true from beq_self_eq_true _]
  exact h _ _ (by assumption) gs
noncomputable def celS (P : Params) : List Stmt := bodyOf (stmtAt P 1)
noncomputable abbrev cellsV (a b c d : Int) (ta tb tc td : Tok) : Array Value := #[.int a ta, .int b tb, .int c tc, .int d td]
theorem cellTurn {w : World} {g : Heap} {L l lc I : Addr} {s : Shared} {m : Str → Option Value} {mean : ExcName → Option Value} {mg mb : Str → Option Value} {w0 w1 w2 w3 w4 : Obj} {vs : List Value} {ns : List Int} {i n4 : Nat} {a b c d : Int} {ta tb tc td it : Tok} {Q : Flow → Shared → Prop} {E : Value → Shared → Prop}
    (X : (hd.heap_1 w.params).In g) (T : Top View Loose mean mg mb g) (F : Fr g L s.heap m) (N : News g L s.heap [(I, rangeG ((i + 1 : Nat) : Int) (ns.length - ((i + 1 : Nat) : Int))), (lc, listOf (cellsV a b c d ta tb tc td) n4), (L + 1 + 1 + 1 + 1 + 1, w4), (L + 1 + 1 + 1 + 1, w3), (L + 1 + 1 + 1, w2), (L + 1 + 1, w1), (L + 1, w0)])
    (h0 : w0.data = .cell (some (.ref lc))) (hlt : @LT.lt Nat _ (L + 1 + 1 + 1 + 1 + 1) lc) (hIl : @LT.lt Nat _ lc I)
    (hs : m (Str.ofString "script") = some (.ref l)) (hpl : m (Str.ofString "place") = some (.int (i : Nat) it)) (hl : g.IsList l vs.toArray) (hi : IntsAre vs ns) (hn : ns.length ≤ 63) (hin : i < ns.length)
    (h : ∀ h' tk a b c d ta tb tc td, Fr g L h' m → News g L h' [(I, rangeG ((i + 1 : Nat) : Int) (ns.length - ((i + 1 : Nat) : Int))), (lc, listOf (cellsV a b c d ta tb tc td) n4), (L + 1 + 1 + 1 + 1 + 1, w4), (L + 1 + 1 + 1 + 1, w3), (L + 1 + 1 + 1, w2), (L + 1 + 1, w1), (L + 1, w0)] → Q .next { s with heap := h', toks := tk }) :
    wpAny (lawM w) (lawA w.params L) (execs (celS w.params) (lawEnv w.params L)) Q E s := by
  have B : Below (Lv 301 []) g [] g := ⟨rfl, fun _ _ e => e, trivial⟩
  have hsc : lawScope w.params = ⟨_, _, _, _, _⟩ := rfl
  show wpAny _ _ (execs [Stmt.AugAssign _ _ _ _] _) _ _ _
  dsimp only [lawEnv, lawA, lawM]
  rw [hsc]
  clear hsc
  k_steps
  all_goals (try dsimp only)
  exact h _ _ _ _ _ _ _ _ _ _ (by assumption) (by assumption)
theorem cellLoop {w : World} {g : Heap} {L l lc I : Addr} {s : Shared} {mean : ExcName → Option Value} {mg mb : Str → Option Value} {w0 w1 w2 w3 w4 : Obj} {vs : List Value} {ns : List Int} {n4 : Nat} {py : Pos} {R : Result → Shared → Prop}
    (X : (hd.heap_1 w.params).In g) (T : Top View Loose mean mg mb g)
    (h0 : w0.data = .cell (some (.ref lc))) (hlt : @LT.lt Nat _ (L + 1 + 1 + 1 + 1 + 1) lc) (hIl : @LT.lt Nat _ lc I) (hl : g.IsList l vs.toArray) (hi : IntsAre vs ns) (hn : ns.length ≤ 63)
    (hend : ∀ h' tk m' a b c d ta tb tc td, Fr g L h' m' → News g L h' [(lc, listOf (cellsV a b c d ta tb tc td) n4), (L + 1 + 1 + 1 + 1 + 1, w4), (L + 1 + 1 + 1 + 1, w3), (L + 1 + 1 + 1, w2), (L + 1 + 1, w1), (L + 1, w0)] → R (.ok .next) { s with heap := h', toks := tk }) :
    ∀ (k i : Nat) (h : Heap) (tk : Nat) (m : Str → Option Value) (a b c d : Int) (ta tb tc td : Tok), i + k = ns.length → m (Str.ofString "script") = some (.ref l) → Fr g L h m → News g L h [(I, rangeG (i : Nat) (ns.length - ((i : Nat) : Int))), (lc, listOf (cellsV a b c d ta tb tc td) n4), (L + 1 + 1 + 1 + 1 + 1, w4), (L + 1 + 1 + 1 + 1, w3), (L + 1 + 1 + 1, w2), (L + 1 + 1, w1), (L + 1, w0)] →
      codeAny (lawM w) (lawA w.params L) (.forLoop (.Name (Str.ofString "place") py) (.ref I) (celS w.params) [] (lawEnv w.params L)) R { s with heap := h, toks := tk } := by
  have neI : ∀ p ∈ ([(lc, listOf #[] 0), (L + 1 + 1 + 1 + 1 + 1, w4), (L + 1 + 1 + 1 + 1, w3), (L + 1 + 1 + 1, w2), (L + 1 + 1, w1), (L + 1, w0)] : Led), @Ne Nat p.1 I := by
    have q5 : @LT.lt Nat _ (L + 1 + 1 + 1 + 1 + 1) I := Nat.lt_trans hlt hIl
    have q4 : @LT.lt Nat _ (L + 1 + 1 + 1 + 1) I := Nat.lt_trans (Nat.lt_succ_self _) q5
    have q3 : @LT.lt Nat _ (L + 1 + 1 + 1) I := Nat.lt_trans (Nat.lt_succ_self _) q4
    have q2 : @LT.lt Nat _ (L + 1 + 1) I := Nat.lt_trans (Nat.lt_succ_self _) q3
    have q1 : @LT.lt Nat _ (L + 1) I := Nat.lt_trans (Nat.lt_succ_self _) q2
    simp only [List.forall_mem_cons, List.not_mem_nil, false_implies, implies_true, and_true]
    exact ⟨Nat.ne_of_lt hIl, Nat.ne_of_lt q5, Nat.ne_of_lt q4, Nat.ne_of_lt q3, Nat.ne_of_lt q2, Nat.ne_of_lt q1⟩
  have neJ : ∀ a b c d ta tb tc td, ∀ p ∈ ([(lc, listOf (cellsV a b c d ta tb tc td) n4), (L + 1 + 1 + 1 + 1 + 1, w4), (L + 1 + 1 + 1 + 1, w3), (L + 1 + 1 + 1, w2), (L + 1 + 1, w1), (L + 1, w0)] : Led), @Ne Nat p.1 I := fun a b c d ta tb tc td p hp => by
    rcases List.mem_cons.mp hp with rfl | hp
    · exact neI (lc, listOf #[] 0) (.head _)
    · exact neI p (.tail _ hp)
  intro k
  induction k with
  | zero =>
    intro i h tk m a b c d ta tb tc td hk hs F N
    exact for_endR F N (.head _) (by omega) rfl (.head (neJ _ _ _ _ _ _ _ _)) fun h' F' N' => hend h' _ m _ _ _ _ _ _ _ _ F' N'
  | succ k ih =>
    intro i h tk m a b c d ta tb tc td hk hs F N
    refine for_turnR F N (.head (neJ _ _ _ _ _ _ _ _)) (by omega) fun h' F' N' => ?_
    have e1 : ((i : Nat) : Int) + 1 = ((i + 1 : Nat) : Int) := rfl
    have e2 : (ns.length : Int) - ((i : Nat) : Int) - 1 = (ns.length : Int) - ((i + 1 : Nat) : Int) := by omega
    rw [e1, e2] at N'
    refine wpAny_assign_Name ?_
    refine storeX_L F' N' (fun h2 F2 N2 => ?_) rfl rfl
    refine cellTurn X T F2 N2 h0 hlt hIl ?_ (if_pos rfl) hl hi hn (by omega) fun h3 tk3 a b c d ta tb tc td F3 N3 => ?_
    · rw [if_neg (by decide)]; exact hs
    · exact ih (i + 1) h3 tk3 _ a b c d ta tb tc td (by omega) (by rw [if_neg (by decide)]; exact hs) F3 N3
theorem setA {w : World} {g : Heap} {L l : Addr} {s : Shared} {m : Str → Option Value} {mean : ExcName → Option Value} {mg mb : Str → Option Value} {w0 w1 w2 w3 w4 : Obj} {vs : List Value} {ns : List Int} {rest : List Stmt} {Q : Flow → Shared → Prop} {E : Value → Shared → Prop}
    (X : (hd.heap_1 w.params).In g) (T : Top View Loose mean mg mb g) (F : Fr g L s.heap m) (N : News g L s.heap [(L + 1 + 1 + 1 + 1 + 1, w4), (L + 1 + 1 + 1 + 1, w3), (L + 1 + 1 + 1, w2), (L + 1 + 1, w1), (L + 1, w0)])
    (h0 : w0.data = .cell none) (hs : m (Str.ofString "script") = some (.ref l)) (hl : g.IsList l vs.toArray) (hi : IntsAre vs ns) (hn : ns.length ≤ 63)
    (h : ∀ h' tk m' lc n4 a b c d ta tb tc td w0', w0'.data = .cell (some (.ref lc)) → @LT.lt Nat _ (L + 1 + 1 + 1 + 1 + 1) lc → Fr g L h' m' → News g L h' [(lc, listOf (cellsV a b c d ta tb tc td) n4), (L + 1 + 1 + 1 + 1 + 1, w4), (L + 1 + 1 + 1 + 1, w3), (L + 1 + 1 + 1, w2), (L + 1 + 1, w1), (L + 1, w0')] → wpAny (lawM w) (lawA w.params L) (execs rest (lawEnv w.params L)) Q E { s with heap := h', toks := tk }) :
    wpAny (lawM w) (lawA w.params L) (execs (stmtAt w.params 0 :: stmtAt w.params 1 :: rest) (lawEnv w.params L)) Q E s := by
  have B : Below (Lv 301 []) g [] g := ⟨rfl, fun _ _ e => e, trivial⟩
  have hsc : lawScope w.params = ⟨_, _, _, _, _⟩ := rfl
  show wpAny _ _ (execs (Stmt.Assign _ _ _ :: Stmt.For _ _ _ _ _ :: _) _) _ _ _
  dsimp only [lawEnv, lawA, lawM]
  rw [hsc]
  clear hsc
  iterate 29 (first | walk1 | (dsimp only; walk1) | (k_unfold; (try dsimp only)))
  refine' pyIterR ?yF ?yN ?yhr ?yhn ?_
  case yF => assumption
  case yN => assumption
  case yhr => assumption
  case yhn => omega
  rename_i lc h1 lt1 _ _ _ _ l1 h2 w0' F2 N2 d2 _ _ _ _ _ _ _ _ _
  intro I h9 F9 N9 lt9
  have ltI : @LT.lt Nat _ lc I := lt9 (lc, _) (.head _)
  show codeAny _ (lawA w.params L) (.forLoop (.Name (Str.ofString "place") _) (.ref I) (celS w.params) [] (lawEnv w.params L)) _ _
  have hlt : @LT.lt Nat _ (L + 1 + 1 + 1 + 1 + 1) lc := lt1
  rw [show (ns.length : Int) = (ns.length : Int) - ((0 : Nat) : Int) from by omega] at N9
  refine cellLoop X T d2 hlt ltI hl hi hn ?_ ns.length 0 h9 _ m 41 30106 20 0 _ _ _ _ (by omega) hs F9 N9
  intro h' tk m' a b c d ta tb tc td F' N'
  exact h h' tk m' lc _ a b c d ta tb tc td _ d2 hlt F' N'
/-- n ints, each with the property -/
noncomputable def IntsP (P : Int → Prop) (rv : List Value) (n : Nat) : Prop := rv.length = n ∧ ∀ j, j < n → ∃ z t, rv[j]? = some (Value.int z t) ∧ P z
theorem pow6 : ∀ n : Nat, (6 : Int) ^ n ≠ 0
  | 0 => by decide
  | n + 1 => by rw [Int.pow_succ]; exact Int.mul_ne_zero (pow6 n) (by decide)
theorem snocP {P : Int → Prop} {ys : List Value} {i : Nat} {z : Int} {t : Tok} (hy : ys.length = i) (hz : ∀ j, j < i → ∃ z t, ys[j]? = some (Value.int z t) ∧ P z) (h : P z) : ∀ j, j < i + 1 → ∃ z' t', (ys ++ [Value.int z t])[j]? = some (Value.int z' t') ∧ P z' := fun j hj => by
  subst hy
  rcases Nat.lt_or_ge j ys.length with hj2 | hj2
  · rw [List.getElem?_append_left hj2]
    exact hz j hj2
  · obtain rfl : j = ys.length := Nat.le_antisymm (Nat.le_of_lt_succ hj) hj2
    rw [List.getElem?_append_right hj2, Nat.sub_self]
    exact ⟨_, _, rfl, h⟩
theorem turnInts {C acc I : Addr} {ys : List Value} {k : Nat} {it : Obj} {base : Led} {gn : Array GenState} {os : OsState} {P : List Value → Led → Heap → Prop} {x : Value} {s : Shared} {gr : Heap} {m' : Str → Option Value} (gs : s.gens = gn ∧ s.os = os) (F : Fr gr C s.heap m') (N : News gr C s.heap ((acc, listOf ys.toArray k) :: (I, it) :: base)) (h : P (ys ++ [x]) [] gr) : TurnEnd C acc I ys k it base gn os P x s := ⟨m', [], gr, gs, F, N, (fun _ h => nomatch h), h⟩
theorem setFig {w : World} {g : Heap} {L lc : Addr} {s : Shared} {m : Str → Option Value} {mean : ExcName → Option Value} {mg mb : Str → Option Value} {w0 w1 w2 w3 w4 : Obj} {n4 : Nat} {a b c d : Int} {ta tb tc td : Tok} {rest : List Stmt} {Q : Flow → Shared → Prop} {E : Value → Shared → Prop}
    (X : (hd.heap_1 w.params).In g) (T : Top View Loose mean mg mb g) (F : Fr g L s.heap m) (N : News g L s.heap [(lc, listOf (cellsV a b c d ta tb tc td) n4), (L + 1 + 1 + 1 + 1 + 1, w4), (L + 1 + 1 + 1 + 1, w3), (L + 1 + 1 + 1, w2), (L + 1 + 1, w1), (L + 1, w0)])
    (h0 : w0.data = .cell (some (.ref lc))) (hlt : @LT.lt Nat _ (L + 1 + 1 + 1 + 1 + 1) lc)
    (h : ∀ s' lr rv kr, (s'.gens = s.gens ∧ s'.os = s.os) → IntsP (fun z : Int => z = 0 ∨ z = 1) rv 8 → @LT.lt Nat _ lc lr → Fr g L s'.heap (fun z => if z = Str.ofString "figures" then some (.ref lr) else m z) → News g L s'.heap ((lr, listOf rv.toArray kr) :: [(lc, listOf (cellsV a b c d ta tb tc td) n4), (L + 1 + 1 + 1 + 1 + 1, w4), (L + 1 + 1 + 1 + 1, w3), (L + 1 + 1 + 1, w2), (L + 1 + 1, w1), (L + 1, w0)]) → wpAny (lawM w) (lawA w.params L) (execs rest (lawEnv w.params L)) Q E s') :
    wpAny (lawM w) (lawA w.params L) (execs (stmtAt w.params 2 :: rest) (lawEnv w.params L)) Q E s := by
  have B : Below (Lv 301 []) g [] g := ⟨rfl, fun _ _ e => e, trivial⟩
  have hsc : lawScope w.params = ⟨_, _, _, _, _⟩ := rfl
  show wpAny _ _ (execs (Stmt.Assign _ _ _ :: _) _) _ _ _
  dsimp only [lawEnv, lawA, lawM]
  rw [hsc]
  clear hsc
  iterate 12 (first | walk1 | (dsimp only; walk1) | (k_unfold; (try dsimp only)))
  rename_i I h1 _ _ _ _ _ _ ltI acc h2 F2 N2 _ _ _ _ _ _ _ ltA gr C h3 tk3 F3 N3 st3 B3 X3 T3 _ _ _ _ _ _ _ _ ltC
  have apAI : @Ne Nat acc I := by k_ne
  have lca : @LT.lt Nat _ lc acc := by assumption
  refine compRangeG (n := 8) (gn := s.gens) (os := s.os) (base := [(lc, listOf (cellsV a b c d ta tb tc td) n4), (L + 1 + 1 + 1 + 1 + 1, w4), (L + 1 + 1 + 1 + 1, w3), (L + 1 + 1 + 1, w2), (L + 1 + 1, w1), (L + 1, w0)]) (fun i ys nw gr' => gr' = gr ∧ nw = [] ∧ ∀ j, j < i → ∃ z t, ys[j]? = some (Value.int z t) ∧ (fun z : Int => z = 0 ∨ z = 1) z) rfl (by decide) ?ystep ?yhb apAI ?yhend 8 0 [] [] gr _ _ 0 rfl ⟨rfl, rfl, fun j hj => absurd hj (Nat.not_lt_zero j)⟩ rfl ⟨rfl, rfl⟩ F3 N3 (fun _ h => nomatch h)
  case yhb =>
    simp only [List.forall_mem_cons, List.not_mem_nil, false_implies, implies_true, and_true]
    repeat' (refine And.intro ?_ ?_)
    all_goals k_ne
  case ystep =>
    clear N2 N3 F2 F3 h
    intro i t ys nw gr' s1 m' k E' hi hP hy hn gs1 F N
    obtain ⟨rfl, rfl, hz⟩ := hP
    dsimp only [List.nil_append] at N
    obtain ⟨tl2, e2⟩ : ∃ tl2 : Led, tl2 = [(lc, listOf (cellsV a b c d ta tb tc td) n4), (L + 1 + 1 + 1 + 1 + 1, w4), (L + 1 + 1 + 1 + 1, w3), (L + 1 + 1 + 1, w2), (L + 1 + 1, w1), (L + 1, w0)] := ⟨_, rfl⟩
    have m1 : (lc, listOf (cellsV a b c d ta tb tc td) n4) ∈ tl2 := by rw [e2]; exact .head _
    have m2 : (L + 1, w0) ∈ tl2 := by rw [e2]; exact .tail _ (.tail _ (.tail _ (.tail _ (.tail _ (.head _)))))
    rw [← e2] at N
    (try dsimp only)
    have p6 : (6 : Int) ^ ((i : Nat) : Int).toNat ≠ 0 := pow6 _
    k_steps
    all_goals (try dsimp only)
    all_goals (try k_data)
    all_goals (try exact absurd (by assumption) p6)
    refine turnInts gs1 (by assumption) (by rw [← e2]; assumption) ⟨rfl, rfl, snocP hy hz ?_⟩
    rw [bitAnd_m1]; omega
  case yhend =>
    clear N2 N3 F2 F3
    intro ys nw gr' s1 m' k hP hy gs1 F N
    obtain ⟨rfl, rfl, hz⟩ := hP
    dsimp only [List.nil_append] at N
    (try dsimp only)
    k_steps
    all_goals (try dsimp only)
    all_goals (try k_data)
    exact h _ acc ys k gs1 ⟨hy, hz⟩ lca  (by assumption) (by assumption)
theorem setPorts {w : World} {g : Heap} {L lc : Addr} {s : Shared} {m : Str → Option Value} {mean : ExcName → Option Value} {mg mb : Str → Option Value} {w0 w1 w2 w3 w4 : Obj} {n4 : Nat} {a b c d : Int} {ta tb tc td : Tok} {lg : Addr} {fv : List Value} {kf : Nat} {rest : List Stmt} {Q : Flow → Shared → Prop} {E : Value → Shared → Prop}
    (X : (hd.heap_1 w.params).In g) (T : Top View Loose mean mg mb g) (F : Fr g L s.heap m) (N : News g L s.heap [(lg, listOf fv.toArray kf), (lc, listOf (cellsV a b c d ta tb tc td) n4), (L + 1 + 1 + 1 + 1 + 1, w4), (L + 1 + 1 + 1 + 1, w3), (L + 1 + 1 + 1, w2), (L + 1 + 1, w1), (L + 1, w0)])
    (h0 : w0.data = .cell (some (.ref lc))) (hlt : @LT.lt Nat _ (L + 1 + 1 + 1 + 1 + 1) lc) (hl0 : @LT.lt Nat _ lc lg) (hw : w1.data = .cell none)
    (h : ∀ s' lr rv kr w', (s'.gens = s.gens ∧ s'.os = s.os) → w'.data = .cell (some (.ref lr)) → IntsP (fun z : Int => 0 ≤ z ∧ z ≤ 5) rv 6 → @LT.lt Nat _ lc lr → @LT.lt Nat _ lg lr → Fr g L s'.heap m → News g L s'.heap ((lr, listOf rv.toArray kr) :: [(lg, listOf fv.toArray kf), (lc, listOf (cellsV a b c d ta tb tc td) n4), (L + 1 + 1 + 1 + 1 + 1, w4), (L + 1 + 1 + 1 + 1, w3), (L + 1 + 1 + 1, w2), (L + 1 + 1, w'), (L + 1, w0)]) → wpAny (lawM w) (lawA w.params L) (execs rest (lawEnv w.params L)) Q E s') :
    wpAny (lawM w) (lawA w.params L) (execs (stmtAt w.params 3 :: rest) (lawEnv w.params L)) Q E s := by
  have B : Below (Lv 301 []) g [] g := ⟨rfl, fun _ _ e => e, trivial⟩
  have hsc : lawScope w.params = ⟨_, _, _, _, _⟩ := rfl
  show wpAny _ _ (execs (Stmt.Assign _ _ _ :: _) _) _ _ _
  dsimp only [lawEnv, lawA, lawM]
  rw [hsc]
  clear hsc
  iterate 13 (first | walk1 | (dsimp only; walk1) | (k_unfold; (try dsimp only)))
  rename_i I h1 _ _ _ _ _ _ _ ltI acc h2 F2 N2 _ _ _ _ _ _ _ _ ltA gr C h3 tk3 F3 N3 st3 B3 X3 T3 _ _ _ _ _ _ _ _ _ ltC
  have apAI : @Ne Nat acc I := by k_ne
  have lca : @LT.lt Nat _ lc acc := by assumption
  have lca0 : @LT.lt Nat _ lg acc := by assumption
  refine compRangeG (n := 6) (gn := s.gens) (os := s.os) (base := [(lg, listOf fv.toArray kf), (lc, listOf (cellsV a b c d ta tb tc td) n4), (L + 1 + 1 + 1 + 1 + 1, w4), (L + 1 + 1 + 1 + 1, w3), (L + 1 + 1 + 1, w2), (L + 1 + 1, w1), (L + 1, w0)]) (fun i ys nw gr' => gr' = gr ∧ nw = [] ∧ ∀ j, j < i → ∃ z t, ys[j]? = some (Value.int z t) ∧ (fun z : Int => 0 ≤ z ∧ z ≤ 5) z) rfl (by decide) ?ystep ?yhb apAI ?yhend 6 0 [] [] gr _ _ 0 rfl ⟨rfl, rfl, fun j hj => absurd hj (Nat.not_lt_zero j)⟩ rfl ⟨rfl, rfl⟩ F3 N3 (fun _ h => nomatch h)
  case yhb =>
    simp only [List.forall_mem_cons, List.not_mem_nil, false_implies, implies_true, and_true]
    repeat' (refine And.intro ?_ ?_)
    all_goals k_ne
  case ystep =>
    clear N2 N3 F2 F3 h
    intro i t ys nw gr' s1 m' k E' hi hP hy hn gs1 F N
    obtain ⟨rfl, rfl, hz⟩ := hP
    dsimp only [List.nil_append] at N
    obtain ⟨tl2, e2⟩ : ∃ tl2 : Led, tl2 = [(lg, listOf fv.toArray kf), (lc, listOf (cellsV a b c d ta tb tc td) n4), (L + 1 + 1 + 1 + 1 + 1, w4), (L + 1 + 1 + 1 + 1, w3), (L + 1 + 1 + 1, w2), (L + 1 + 1, w1), (L + 1, w0)] := ⟨_, rfl⟩
    have m1 : (lc, listOf (cellsV a b c d ta tb tc td) n4) ∈ tl2 := by rw [e2]; exact .tail _ (.head _)
    have m2 : (L + 1, w0) ∈ tl2 := by rw [e2]; exact .tail _ (.tail _ (.tail _ (.tail _ (.tail _ (.tail _ (.head _))))))
    rw [← e2] at N
    (try dsimp only)
    have p6 : (6 : Int) ^ ((i : Nat) : Int).toNat ≠ 0 := pow6 _
    k_steps
    all_goals (try dsimp only)
    all_goals (try k_data)
    all_goals (try exact absurd (by assumption) p6)
    refine turnInts gs1 (by assumption) (by rw [← e2]; assumption) ⟨rfl, rfl, snocP hy hz ?_⟩
    rw [Int.fmod_eq_emod_of_nonneg _ (by decide)]; omega
  case yhend =>
    clear N2 N3 F2 F3
    intro ys nw gr' s1 m' k hP hy gs1 F N
    obtain ⟨rfl, rfl, hz⟩ := hP
    dsimp only [List.nil_append] at N
    (try dsimp only)
    k_steps
    all_goals (try dsimp only)
    all_goals (try k_data)
    exact h _ acc ys k _ gs1 (by assumption) ⟨hy, hz⟩ lca lca0 (by assumption) (by assumption)
theorem setFaces {w : World} {g : Heap} {L lc : Addr} {s : Shared} {m : Str → Option Value} {mean : ExcName → Option Value} {mg mb : Str → Option Value} {w0 w1 w2 w3 w4 : Obj} {n4 : Nat} {a b c d : Int} {ta tb tc td : Tok} {lp : Addr} {pv : List Value} {kp : Nat} {lg : Addr} {fv : List Value} {kf : Nat} {rest : List Stmt} {Q : Flow → Shared → Prop} {E : Value → Shared → Prop}
    (X : (hd.heap_1 w.params).In g) (T : Top View Loose mean mg mb g) (F : Fr g L s.heap m) (N : News g L s.heap [(lp, listOf pv.toArray kp), (lg, listOf fv.toArray kf), (lc, listOf (cellsV a b c d ta tb tc td) n4), (L + 1 + 1 + 1 + 1 + 1, w4), (L + 1 + 1 + 1 + 1, w3), (L + 1 + 1 + 1, w2), (L + 1 + 1, w1), (L + 1, w0)])
    (h0 : w0.data = .cell (some (.ref lc))) (hlt : @LT.lt Nat _ (L + 1 + 1 + 1 + 1 + 1) lc) (hl0 : @LT.lt Nat _ lc lp) (hl1 : @LT.lt Nat _ lc lg) (hn01 : @LT.lt Nat _ lg lp) (hw : w2.data = .cell none)
    (h : ∀ s' lr rv kr w', (s'.gens = s.gens ∧ s'.os = s.os) → w'.data = .cell (some (.ref lr)) → IntsP (fun z : Int => z = 0 ∨ z = 1) rv 6 → @LT.lt Nat _ lc lr → @LT.lt Nat _ lp lr → @LT.lt Nat _ lg lr → Fr g L s'.heap m → News g L s'.heap ((lr, listOf rv.toArray kr) :: [(lp, listOf pv.toArray kp), (lg, listOf fv.toArray kf), (lc, listOf (cellsV a b c d ta tb tc td) n4), (L + 1 + 1 + 1 + 1 + 1, w4), (L + 1 + 1 + 1 + 1, w3), (L + 1 + 1 + 1, w'), (L + 1 + 1, w1), (L + 1, w0)]) → wpAny (lawM w) (lawA w.params L) (execs rest (lawEnv w.params L)) Q E s') :
    wpAny (lawM w) (lawA w.params L) (execs (stmtAt w.params 4 :: rest) (lawEnv w.params L)) Q E s := by
  have B : Below (Lv 301 []) g [] g := ⟨rfl, fun _ _ e => e, trivial⟩
  have hsc : lawScope w.params = ⟨_, _, _, _, _⟩ := rfl
  show wpAny _ _ (execs (Stmt.Assign _ _ _ :: _) _) _ _ _
  dsimp only [lawEnv, lawA, lawM]
  rw [hsc]
  clear hsc
  iterate 13 (first | walk1 | (dsimp only; walk1) | (k_unfold; (try dsimp only)))
  rename_i I h1 _ _ _ _ _ _ _ _ ltI acc h2 F2 N2 _ _ _ _ _ _ _ _ _ ltA gr C h3 tk3 F3 N3 st3 B3 X3 T3 _ _ _ _ _ _ _ _ _ _ ltC
  have apAI : @Ne Nat acc I := by k_ne
  have lca : @LT.lt Nat _ lc acc := by assumption
  have lca0 : @LT.lt Nat _ lp acc := by assumption
  have lca1 : @LT.lt Nat _ lg acc := by assumption
  refine compRangeG (n := 6) (gn := s.gens) (os := s.os) (base := [(lp, listOf pv.toArray kp), (lg, listOf fv.toArray kf), (lc, listOf (cellsV a b c d ta tb tc td) n4), (L + 1 + 1 + 1 + 1 + 1, w4), (L + 1 + 1 + 1 + 1, w3), (L + 1 + 1 + 1, w2), (L + 1 + 1, w1), (L + 1, w0)]) (fun i ys nw gr' => gr' = gr ∧ nw = [] ∧ ∀ j, j < i → ∃ z t, ys[j]? = some (Value.int z t) ∧ (fun z : Int => z = 0 ∨ z = 1) z) rfl (by decide) ?ystep ?yhb apAI ?yhend 6 0 [] [] gr _ _ 0 rfl ⟨rfl, rfl, fun j hj => absurd hj (Nat.not_lt_zero j)⟩ rfl ⟨rfl, rfl⟩ F3 N3 (fun _ h => nomatch h)
  case yhb =>
    simp only [List.forall_mem_cons, List.not_mem_nil, false_implies, implies_true, and_true]
    repeat' (refine And.intro ?_ ?_)
    all_goals k_ne
  case ystep =>
    clear N2 N3 F2 F3 h
    intro i t ys nw gr' s1 m' k E' hi hP hy hn gs1 F N
    obtain ⟨rfl, rfl, hz⟩ := hP
    dsimp only [List.nil_append] at N
    obtain ⟨tl2, e2⟩ : ∃ tl2 : Led, tl2 = [(lp, listOf pv.toArray kp), (lg, listOf fv.toArray kf), (lc, listOf (cellsV a b c d ta tb tc td) n4), (L + 1 + 1 + 1 + 1 + 1, w4), (L + 1 + 1 + 1 + 1, w3), (L + 1 + 1 + 1, w2), (L + 1 + 1, w1), (L + 1, w0)] := ⟨_, rfl⟩
    have m1 : (lc, listOf (cellsV a b c d ta tb tc td) n4) ∈ tl2 := by rw [e2]; exact .tail _ (.tail _ (.head _))
    have m2 : (L + 1, w0) ∈ tl2 := by rw [e2]; exact .tail _ (.tail _ (.tail _ (.tail _ (.tail _ (.tail _ (.tail _ (.head _)))))))
    rw [← e2] at N
    (try dsimp only)
    have p6 : (6 : Int) ^ ((i : Nat) : Int).toNat ≠ 0 := pow6 _
    k_steps
    all_goals (try dsimp only)
    all_goals (try k_data)
    all_goals (try exact absurd (by assumption) p6)
    refine turnInts gs1 (by assumption) (by rw [← e2]; assumption) ⟨rfl, rfl, snocP hy hz ?_⟩
    rw [bitAnd_m1]; omega
  case yhend =>
    clear N2 N3 F2 F3
    intro ys nw gr' s1 m' k hP hy gs1 F N
    obtain ⟨rfl, rfl, hz⟩ := hP
    dsimp only [List.nil_append] at N
    (try dsimp only)
    k_steps
    all_goals (try dsimp only)
    all_goals (try k_data)
    exact h _ acc ys k _ gs1 (by assumption) ⟨hy, hz⟩ lca lca0 lca1 (by assumption) (by assumption)
theorem mark_all : ∀ z : Nat, z < 4 → MarkOk (Txt.item (Str.ofString "|!/:") z) ∧ MarkOk (Txt.item (Str.ofString "|!/:") (z - 1)) ∧ Txt.item (Str.ofString "|!/:") z ≠ Txt.item (Str.ofString "|!/:") (z - 1) := by
  unfold MarkOk
  decide +kernel
theorem mark_at {z : Int} (h0 : 0 ≤ z) (h4 : z < 4) : MarkOk (Txt.item (Str.ofString "|!/:") z) ∧ MarkOk (Txt.item (Str.ofString "|!/:") (z - 1)) ∧ Txt.item (Str.ofString "|!/:") z ≠ Txt.item (Str.ofString "|!/:") (z - 1) := by
  obtain ⟨n, hn, rfl⟩ := nat_of (k := 4) h0 h4
  exact mark_all n hn
theorem News.sub {h₀ h : Heap} {L : Addr} {a b : Led} (N : News h₀ L h b) (s : ∀ p ∈ a, p ∈ b) : News h₀ L h a := fun p hp => N p (s p hp)
theorem setMark {w : World} {g : Heap} {L lc lg lp lf : Addr} {s : Shared} {m : Str → Option Value} {mean : ExcName → Option Value} {mg mb : Str → Option Value} {w0 w1 w2 w3 w4 : Obj} {n4 kf kp kg : Nat} {fv pv gv : List Value} {a b c d : Int} {ta tb tc td : Tok} {rest : List Stmt} {Q : Flow → Shared → Prop} {E : Value → Shared → Prop}
    (X : (hd.heap_1 w.params).In g) (T : Top View Loose mean mg mb g) (F : Fr g L s.heap m) (N : News g L s.heap [(lf, listOf fv.toArray kf), (lp, listOf pv.toArray kp), (lg, listOf gv.toArray kg), (lc, listOf (cellsV a b c d ta tb tc td) n4), (L + 1 + 1 + 1 + 1 + 1, w4), (L + 1 + 1 + 1 + 1, w3), (L + 1 + 1 + 1, w2), (L + 1 + 1, w1), (L + 1, w0)])
    (h0 : w0.data = .cell (some (.ref lc))) (h3 : w3.data = .cell none) (hlt : @LT.lt Nat _ (L + 1 + 1 + 1 + 1 + 1) lc) (l1 : @LT.lt Nat _ lc lg) (l2 : @LT.lt Nat _ lg lp) (l3 : @LT.lt Nat _ lp lf) (hfg : m (Str.ofString "figures") = some (.ref lg))
    (h : ∀ s' m' mk ot tl w3' t u v, (s'.gens = s.gens ∧ s'.os = s.os) → w3'.data = .cell (some (.str mk t)) → MarkOk mk → MarkOk ot → mk ≠ ot → TailOk tl → m' (Str.ofString "other") = some (.str ot u) → m' (Str.ofString "tail") = some (.str tl v) → m' (Str.ofString "figures") = some (.ref lg) → Fr g L s'.heap m' → News g L s'.heap [(lf, listOf fv.toArray kf), (lp, listOf pv.toArray kp), (lg, listOf gv.toArray kg), (lc, listOf (cellsV a b c d ta tb tc td) n4), (L + 1 + 1 + 1 + 1 + 1, w4), (L + 1 + 1 + 1 + 1, w3'), (L + 1 + 1 + 1, w2), (L + 1 + 1, w1), (L + 1, w0)] → wpAny (lawM w) (lawA w.params L) (execs rest (lawEnv w.params L)) Q E s') :
    wpAny (lawM w) (lawA w.params L) (execs (stmtAt w.params 5 :: stmtAt w.params 6 :: rest) (lawEnv w.params L)) Q E s := by
  have B : Below (Lv 301 []) g [] g := ⟨rfl, fun _ _ e => e, trivial⟩
  have hsc : lawScope w.params = ⟨_, _, _, _, _⟩ := rfl
  have md : 0 ≤ ([a, b, c, d].getD (Int.toNat 3) 0).fmod 4 ∧ ([a, b, c, d].getD (Int.toNat 3) 0).fmod 4 < 4 := by
    rw [Int.fmod_eq_emod_of_nonneg _ (by decide)]; omega
  obtain ⟨ok1, ok2, ne⟩ := mark_at md.1 md.2
  clear md
  show wpAny _ _ (execs (Stmt.Assign _ _ _ :: Stmt.Assign _ _ _ :: _) _) _ _ _
  dsimp only [lawEnv, lawA, lawM]
  rw [hsc]
  clear hsc
  k_steps
  all_goals (try dsimp only)
  all_goals (refine' h _ _ _ _ _ _ _ _ _ ⟨rfl, rfl⟩ (by assumption) ok1 ok2 ne ?ytk ?ye1 ?ye2 ?ye3 (by assumption) (News.sub (by assumption) fun p hp => .tail _ (.tail _ hp)); (case ye1 => k_extra "my look"); (case ye2 => k_extra "my look"); (case ye3 => k_extra "my look"); (case ytk => first | exact .inl rfl | exact .inr (.inl rfl) | exact .inr (.inr rfl)))
theorem setFar {w : World} {g : Heap} {L lc lg lp lf : Addr} {s : Shared} {m : Str → Option Value} {mean : ExcName → Option Value} {mg mb : Str → Option Value} {w0 w1 w2 w3 w4 : Obj} {n4 kf kp kg : Nat} {fv pv gv : List Value} {a b c d : Int} {ta tb tc td : Tok} {rest : List Stmt} {Q : Flow → Shared → Prop} {E : Value → Shared → Prop}
    (X : (hd.heap_1 w.params).In g) (T : Top View Loose mean mg mb g) (F : Fr g L s.heap m) (N : News g L s.heap [(lf, listOf fv.toArray kf), (lp, listOf pv.toArray kp), (lg, listOf gv.toArray kg), (lc, listOf (cellsV a b c d ta tb tc td) n4), (L + 1 + 1 + 1 + 1 + 1, w4), (L + 1 + 1 + 1 + 1, w3), (L + 1 + 1 + 1, w2), (L + 1 + 1, w1), (L + 1, w0)])
    (h0 : w0.data = .cell (some (.ref lc))) (hlt : @LT.lt Nat _ (L + 1 + 1 + 1 + 1 + 1) lc) (l1 : @LT.lt Nat _ lc lg) (l2 : @LT.lt Nat _ lg lp) (l3 : @LT.lt Nat _ lp lf)
    (h : ∀ s' far t, (s'.gens = s.gens ∧ s'.os = s.os) → 0 ≤ far ∧ far < 65536 → Fr g L s'.heap (fun y => if y = Str.ofString "far" then some (.int far t) else m y) → News g L s'.heap [(lf, listOf fv.toArray kf), (lp, listOf pv.toArray kp), (lg, listOf gv.toArray kg), (lc, listOf (cellsV a b c d ta tb tc td) n4), (L + 1 + 1 + 1 + 1 + 1, w4), (L + 1 + 1 + 1 + 1, w3), (L + 1 + 1 + 1, w2), (L + 1 + 1, w1), (L + 1, w0)] → wpAny (lawM w) (lawA w.params L) (execs rest (lawEnv w.params L)) Q E s') :
    wpAny (lawM w) (lawA w.params L) (execs (stmtAt w.params 7 :: rest) (lawEnv w.params L)) Q E s := by
  have B : Below (Lv 301 []) g [] g := ⟨rfl, fun _ _ e => e, trivial⟩
  have hsc : lawScope w.params = ⟨_, _, _, _, _⟩ := rfl
  show wpAny _ _ (execs (Stmt.Assign _ _ _ :: _) _) _ _ _
  dsimp only [lawEnv, lawA, lawM]
  rw [hsc]
  clear hsc
  k_steps
  all_goals (try dsimp only)
  refine' h _ _ _ ⟨rfl, rfl⟩ ?ybd (by assumption) (by assumption)
  case ybd => rw [Int.fmod_eq_emod_of_nonneg _ (by decide)]; omega
noncomputable def fOf (vs : List Value) (i : Nat) : Int := match vs[i]? with
  | some (.int z _) => z
  | _ => 0
theorem IntsP.fn {P : Int → Prop} {rv : List Value} {n : Nat} (h : IntsP P rv n) : IntF rv (fOf rv) n ∧ ∀ i, i < n → P (fOf rv i) := by
  have q : ∀ i, i < n → ∃ t, rv[i]? = some (Value.int (fOf rv i) t) ∧ P (fOf rv i) := fun i hi => by
    obtain ⟨z, t, e, hp⟩ := h.2 i hi
    have : fOf rv i = z := by unfold fOf; rw [e]
    rw [this]; exact ⟨t, e, hp⟩
  exact ⟨⟨h.1, fun i hi => let ⟨t, e, _⟩ := q i hi; ⟨t, e⟩⟩, fun i hi => let ⟨_, _, p⟩ := q i hi; p⟩
noncomputable abbrev pairK (ff pf : Nat → Int) (mk : Str) (k : Nat) : Str × Str := (nm (k : Nat) (ff k), replyS mk (pf k))
noncomputable def PrP (ff pf : Nat → Int) (mk : Str) (gr₀ : Heap) : Nat → List Value → Led → Heap → Prop := fun i ys nw gr => gr = gr₀ ∧ ∃ as : List Addr, ys = as.map .ref ∧ Paired nw as ((List.range i).map (pairK ff pf mk)) ∧ ∀ p ∈ nw, ∃ vs, p.2 = tupOf vs
theorem off_tup {h₀ h : Heap} {L a : Addr} {o : Obj} {news nw : Led} (N : News h₀ L h news) (ha : (a, o) ∈ news) (ho : ∀ vs, o ≠ tupOf vs) (hs : ∀ p ∈ nw, p ∈ news) (ht : ∀ p ∈ nw, ∃ vs, p.2 = tupOf vs) : OffD a nw := fun q hq => fun e => by
  have h1 := (N _ ha).1
  have h2 := (N q (hs q hq)).1
  obtain ⟨vs, hv⟩ := ht q hq
  rw [show a = q.1 from e, h2] at h1
  exact ho vs ((show q.2 = o from Option.some.inj h1).symm.trans hv)
theorem setPairs {w : World} {g : Heap} {L lc lg lp lf : Addr} {s : Shared} {m : Str → Option Value} {mean : ExcName → Option Value} {mg mb : Str → Option Value} {w0 w1 w2 w3 w4 : Obj} {n4 kf kp kg : Nat} {fv pv gv : List Value} {ff pf : Nat → Int} {mk : Str} {tm : Tok} {a b c d : Int} {ta tb tc td : Tok} {rest : List Stmt} {Q : Flow → Shared → Prop} {E : Value → Shared → Prop}
    (X : (hd.heap_1 w.params).In g) (T : Top View Loose mean mg mb g) (F : Fr g L s.heap m) (N : News g L s.heap [(lf, listOf fv.toArray kf), (lp, listOf pv.toArray kp), (lg, listOf gv.toArray kg), (lc, listOf (cellsV a b c d ta tb tc td) n4), (L + 1 + 1 + 1 + 1 + 1, w4), (L + 1 + 1 + 1 + 1, w3), (L + 1 + 1 + 1, w2), (L + 1 + 1, w1), (L + 1, w0)])
    (h1 : w1.data = .cell (some (.ref lp))) (h2 : w2.data = .cell (some (.ref lf))) (h3 : w3.data = .cell (some (.str mk tm))) (h4 : w4.data = .cell none) (hlt : @LT.lt Nat _ (L + 1 + 1 + 1 + 1 + 1) lc) (l1 : @LT.lt Nat _ lc lg) (l2 : @LT.lt Nat _ lg lp) (l3 : @LT.lt Nat _ lp lf)
    (hmk : mk.length = 1) (hfv : IntF fv ff 6) (hpv : IntF pv pf 6) (hff : ∀ i, i < 6 → ff i = 0 ∨ ff i = 1) (hpf : ∀ i, i < 6 → 0 ≤ pf i ∧ pf i ≤ 5)
    (h : ∀ s' lq kl, (s'.gens = s.gens ∧ s'.os = s.os) → Fr g L s'.heap m → News g L s'.heap ((lg, listOf gv.toArray kg) :: kl) → OffD lg kl → (∀ D dd Lh lgv tk ot tl far ge os, Fix L kl ⟨D, dd, Lh, lgv, lp, lf, lq, tk, pf, ff, mk, ot, tl, far, ge, os⟩) → wpAny (lawM w) (lawA w.params L) (execs rest (lawEnv w.params L)) Q E s') :
    wpAny (lawM w) (lawA w.params L) (execs (stmtAt w.params 8 :: rest) (lawEnv w.params L)) Q E s := by
  have B : Below (Lv 301 []) g [] g := ⟨rfl, fun _ _ e => e, trivial⟩
  have hsc : lawScope w.params = ⟨_, _, _, _, _⟩ := rfl
  show wpAny _ _ (execs (Stmt.Assign _ _ _ :: _) _) _ _ _
  dsimp only [lawEnv, lawA, lawM]
  rw [hsc]
  clear hsc
  iterate 13 (first | walk1 | (dsimp only; walk1) | (k_unfold; (try dsimp only)))
  rename_i I hp1 _ _ _ _ _ _ _ _ _ ltI acc hp2 F2 N2 _ _ _ _ _ _ _ _ _ _ ltA gr C hp3 tk3 F3 N3 st3 B3 X3 T3 _ _ _ _ _ _ _ _ _ _ _ ltC
  have apAI : @Ne Nat acc I := by k_ne
  refine compRangeG (n := 6) (gn := s.gens) (os := s.os) (base := [(lf, listOf fv.toArray kf), (lp, listOf pv.toArray kp), (lg, listOf gv.toArray kg), (lc, listOf (cellsV a b c d ta tb tc td) n4), (L + 1 + 1 + 1 + 1 + 1, w4), (L + 1 + 1 + 1 + 1, w3), (L + 1 + 1 + 1, w2), (L + 1 + 1, w1), (L + 1, w0)]) (PrP ff pf mk gr) rfl (by decide) ?ystep ?yhb apAI ?yhend 6 0 [] [] gr _ _ 0 rfl ⟨rfl, [], rfl, trivial, fun _ h => nomatch h⟩ rfl ⟨rfl, rfl⟩ F3 N3 (fun _ h => nomatch h)
  case yhb =>
    simp only [List.forall_mem_cons, List.not_mem_nil, false_implies, implies_true, and_true]
    repeat' (refine And.intro ?_ ?_)
    all_goals k_ne
  case ystep =>
    clear N2 N3 F2 F3 h
    intro i t ys nw gr' s1 m' k E' hi hP hy hn gs1 F N
    obtain ⟨rfl, as, rfl, hpd, htu⟩ := hP
    have f4 : 0 ≤ ff ((i : Nat) : Int).toNat ∧ ff ((i : Nat) : Int).toNat ≤ 1 := by
      rw [Int.toNat_natCast]
      have := hff i hi
      omega
    have p4 : 0 ≤ pf ((i : Nat) : Int).toNat ∧ pf ((i : Nat) : Int).toNat ≤ 5 := by
      rw [Int.toNat_natCast]
      exact hpf i hi
    obtain ⟨p0, p5⟩ := p4
    obtain ⟨tl2, e2⟩ : ∃ tl2, tl2 = nw ++ [(lf, listOf fv.toArray kf), (lp, listOf pv.toArray kp), (lg, listOf gv.toArray kg), (lc, listOf (cellsV a b c d ta tb tc td) n4), (L + 1 + 1 + 1 + 1 + 1, w4), (L + 1 + 1 + 1 + 1, w3), (L + 1 + 1 + 1, w2), (L + 1 + 1, w1), (L + 1, w0)] := ⟨_, rfl⟩
    have m1 : (lf, listOf fv.toArray kf) ∈ tl2 := by rw [e2]; exact List.mem_append_right _ (.head _)
    have m2 : (lp, listOf pv.toArray kp) ∈ tl2 := by rw [e2]; exact List.mem_append_right _ (.tail _ (.head _))
    have m3 : (L + 1 + 1 + 1 + 1, w3) ∈ tl2 := by rw [e2]; exact List.mem_append_right _ (.tail _ (.tail _ (.tail _ (.tail _ (.tail _ (.head _))))))
    have m4 : (L + 1 + 1 + 1, w2) ∈ tl2 := by rw [e2]; exact List.mem_append_right _ (.tail _ (.tail _ (.tail _ (.tail _ (.tail _ (.tail _ (.head _)))))))
    have m5 : (L + 1 + 1, w1) ∈ tl2 := by rw [e2]; exact List.mem_append_right _ (.tail _ (.tail _ (.tail _ (.tail _ (.tail _ (.tail _ (.tail _ (.head _))))))))
    rw [← e2] at N
    (try dsimp only)
    k_steps
    all_goals (try dsimp only)
    all_goals (try k_data)
    rename_i D9 h9 F9 N9 a9 i9 lt9
    rw [e2] at N9
    show TurnEnd C acc I (as.map .ref) k _ _ _ _ (PrP ff pf mk gr' (i + 1)) _ _
    refine ⟨_, (D9, tupOf [.str (Txt.item (Str.ofString "abcdefABCDEF") (((i : Nat) : Int) + 6 * ff ((i : Nat) : Int).toNat)) _, .str (replyS mk (pf ((i : Nat) : Int).toNat)) _]) :: nw, _, gs1, F9, newsTurn N9, List.forall_mem_cons.mpr ⟨⟨Ne.symm (Nat.ne_of_lt a9), Ne.symm (Nat.ne_of_lt i9)⟩, hn⟩, rfl, as ++ [D9], by simp, ?_, List.forall_mem_cons.mpr ⟨⟨_, rfl⟩, htu⟩⟩
    rw [List.range_succ, List.map_append]
    show Paired _ _ (_ ++ [pairK ff pf mk i])
    exact Paired.snoc (x := pairK ff pf mk i) (.head _) (hpd.mono fun _ hp => .tail _ hp)
  case yhend =>
    clear N2 N3 F2 F3
    intro ys nw gr' s1 m' k hP hy gs1 F N
    obtain ⟨rfl, as, rfl, hpd, htu⟩ := hP
    have hpd : Paired nw as (Six.list ⟨pairK ff pf mk 0, pairK ff pf mk 1, pairK ff pf mk 2, pairK ff pf mk 3, pairK ff pf mk 4, pairK ff pf mk 5⟩) := hpd
    obtain ⟨rr, rfl, hpt⟩ := Paired.six hpd
    have N0 : News gr' C s1.heap ((acc, listOf (refs rr) k) :: (lf, listOf fv.toArray kf) :: (lp, listOf pv.toArray kp) :: (lg, listOf gv.toArray kg) :: (lc, listOf (cellsV a b c d ta tb tc td) n4) :: (L + 1 + 1 + 1 + 1 + 1, w4) :: (L + 1 + 1 + 1 + 1, w3) :: (L + 1 + 1 + 1, w2) :: (L + 1 + 1, w1) :: (L + 1, w0) :: nw) := News.sub N fun p hp => by
      rcases List.mem_cons.mp hp with rfl | hp
      · exact .head _
      refine .tail _ (List.mem_append.mpr ?_)
      rcases List.mem_append.mp (show p ∈ [(lf, listOf fv.toArray kf), (lp, listOf pv.toArray kp), (lg, listOf gv.toArray kg), (lc, listOf (cellsV a b c d ta tb tc td) n4), (L + 1 + 1 + 1 + 1 + 1, w4), (L + 1 + 1 + 1 + 1, w3), (L + 1 + 1 + 1, w2), (L + 1 + 1, w1), (L + 1, w0)] ++ nw from hp) with hp | hp
      · exact .inr hp
      · exact .inl hp
    have subn : ∀ p ∈ nw, p ∈ (acc, listOf (refs rr) k) :: (lf, listOf fv.toArray kf) :: (lp, listOf pv.toArray kp) :: (lg, listOf gv.toArray kg) :: (lc, listOf (cellsV a b c d ta tb tc td) n4) :: (L + 1 + 1 + 1 + 1 + 1, w4) :: (L + 1 + 1 + 1 + 1, w3) :: (L + 1 + 1 + 1, w2) :: (L + 1 + 1, w1) :: (L + 1, w0) :: nw := fun p hp => .tail _ (.tail _ (.tail _ (.tail _ (.tail _ (.tail _ (.tail _ (.tail _ (.tail _ (.tail _ hp)))))))))
    have off4 : OffD (L + 1 + 1 + 1 + 1 + 1) nw := off_tup N0 (.tail _ (.tail _ (.tail _ (.tail _ (.tail _ (.head _)))))) (fun vs e => by rw [e] at h4; cases h4) subn htu
    have offg : OffD lg nw := off_tup N0 (.tail _ (.tail _ (.tail _ (.head _)))) (fun vs => objNe (by rfl)) subn htu
    have lga : @LT.lt Nat _ lg acc := by omega
    clear N subn
    (try dsimp only)
    k_steps
    all_goals (try dsimp only)
    all_goals (try k_data)
    rename_i h9 w4' F9 N9 d9
    have inK : ∀ p ∈ (L + 1 + 1 + 1 + 1 + 1, w4') :: (L + 1 + 1 + 1 + 1, w3) :: (L + 1 + 1 + 1, w2) :: (L + 1 + 1, w1) :: (L + 1, w0) :: nw, p ∈ (acc, listOf (refs rr) k) :: (lf, listOf fv.toArray kf) :: (lp, listOf pv.toArray kp) :: (L + 1 + 1 + 1 + 1 + 1, w4') :: (L + 1 + 1 + 1 + 1, w3) :: (L + 1 + 1 + 1, w2) :: (L + 1 + 1, w1) :: (L + 1, w0) :: nw := fun p hp => .tail _ (.tail _ (.tail _ hp))
    refine h _ acc ((acc, listOf (refs rr) k) :: (lf, listOf fv.toArray kf) :: (lp, listOf pv.toArray kp) :: (L + 1 + 1 + 1 + 1 + 1, w4') :: (L + 1 + 1 + 1 + 1, w3) :: (L + 1 + 1 + 1, w2) :: (L + 1 + 1, w1) :: (L + 1, w0) :: nw) gs1 F9 (News.sub N9 ?_) ?_ fun D dd Lh lgv tk ot tl far ge os => ?_
    · intro p hp
      rcases List.mem_cons.mp hp with rfl | hp
      · exact .tail _ (.tail _ (.tail _ (.head _)))
      rcases List.mem_cons.mp hp with rfl | hp
      · exact .head _
      rcases List.mem_cons.mp hp with rfl | hp
      · exact .tail _ (.head _)
      rcases List.mem_cons.mp hp with rfl | hp
      · exact .tail _ (.tail _ (.head _))
      · exact .tail _ (.tail _ (.tail _ (.tail _ (.tail _ hp))))
    · unfold OffD
      simp only [List.forall_mem_cons]
      exact ⟨Ap.of (by k_ne), Ap.of (by k_ne), Ap.of (by k_ne), Ap.of (by k_ne), Ap.of (by k_ne), Ap.of (by k_ne), Ap.of (by k_ne), Ap.of (by k_ne), offg⟩
    · exact ⟨⟨w1, inK _ (.tail _ (.tail _ (.tail _ (.head _)))), h1⟩, ⟨w2, inK _ (.tail _ (.tail _ (.head _))), h2⟩, ⟨tm, w3, inK _ (.tail _ (.head _)), h3⟩, ⟨w4', inK _ (.head _), d9⟩, ⟨pv, kp, .tail _ (.tail _ (.head _)), hpv⟩, ⟨fv, kf, .tail _ (.head _), hfv⟩, ⟨rr, k, .head _, hpt.mono fun p hp => inK _ (.tail _ (.tail _ (.tail _ (.tail _ (.tail _ hp)))))⟩⟩
noncomputable abbrev portD (pf : Nat → Int) (k : Nat) : PyData := PyData.tuple [PyData.str (Str.ofString "h"), PyData.int (pf k)]
noncomputable abbrev portsD (pf : Nat → Int) (n : Nat) : List PyData := (List.range n).map (portD pf)
theorem ports_shaped {pf : Nat → Int} : SeqAt.shaped (.list (portsD pf 6)) = true := by
  simp [portsD, portD, List.range, List.range.loop, SeqAt.shaped, PyData.canLay0, PyData.canLayAll0, PyData.depth, PyData.depthAll, ok_words]
theorem ports_same {pf : Nat → Int} : PyData.eqv (.list (portsD pf 6)) (.list (portsD pf 6)) = true := by
  simp [portsD, portD, List.range, List.range.loop, PyData.eqv, PyData.eqvAll]
theorem ItemsAre.next {nw nw' : Led} {ys : List Value} {v : Value} {pf : Nat → Int} {i : Nat} (it : ItemsAre nw ys (portsD pf i)) (h : ∀ p ∈ nw, p ∈ nw') (x : ItemIs nw' v (portD pf i)) : ItemsAre nw' (ys ++ [v]) (portsD pf (i + 1)) := by
  unfold portsD
  rw [List.range_succ, List.map_append]
  exact (it.mono h).snoc x
theorem chkPorts {w : World} {g : Heap} {L : Addr} {Γ : Cst} {s : Shared} {m : Str → Option Value} {mean : ExcName → Option Value} {mg mb : Str → Option Value} {fig : Addr × Obj} {kl : Led} {rest : List Stmt} {Q : Flow → Shared → Prop} {E : Value → Shared → Prop}
    (X : (hd.heap_1 w.params).In g) (T : Top View Loose mean mg mb g) (F : Fr g L s.heap m) (N : News g L s.heap (fig :: kl)) (fx : Fix L kl Γ) (mk : MarkOk Γ.mark) (hpf : ∀ k, k < 6 → 0 ≤ Γ.pf k ∧ Γ.pf k ≤ 5)
    (h : ∀ s', (s'.gens = s.gens ∧ s'.os = s.os) → Fr g L s'.heap m → News g L s'.heap (fig :: kl) → wpAny (lawM w) (lawA w.params L) (execs rest (lawEnv w.params L)) Q E s') :
    wpAny (lawM w) (lawA w.params L) (execs (stmtAt w.params 9 :: rest) (lawEnv w.params L)) Q E s := by
  obtain ⟨oq, moq, doq⟩ := fx.cpairs
  obtain ⟨q, nq, mq, hq⟩ := fx.pairs
  obtain ⟨op, mop, dop⟩ := fx.cports
  obtain ⟨pv, kp, mvp, hvp⟩ := fx.ports
  obtain ⟨tl, htl⟩ : ∃ tl, tl = fig :: kl := ⟨_, rfl⟩
  have inT : ∀ p ∈ kl, p ∈ tl := fun p hp => by rw [htl]; exact .tail _ hp
  rw [← htl] at N
  have moq := inT _ moq
  have mq := inT _ mq
  have mop := inT _ mop
  have mvp := inT _ mvp
  have B : Below (Lv 301 []) g [] g := ⟨rfl, fun _ _ e => e, trivial⟩
  have hsc : lawScope w.params = ⟨_, _, _, _, _⟩ := rfl
  show wpAny _ _ (execs (Stmt.If _ _ _ _ :: _) _) _ _ _
  dsimp only [lawEnv, lawA, lawM]
  rw [hsc]
  clear hsc
  iterate 8 (first | walk1 | (dsimp only; walk1) | (k_unfold; (try dsimp only)))
  rename_i I h1 ltI acc h2 F2 N2 a1 ltA gr C h3 tk3 F3 N3 st3 B3 X3 T3 _ _ ltC
  have pa := pairsAt hq
  have offI : OffD I tl := fun q hq => Ne.symm (Nat.ne_of_lt (ltI q hq))
  have offA : OffD acc tl := OffD.ofLt ltA
  have apAI : @Ne Nat acc I := Ne.symm (Nat.ne_of_lt a1)
  refine compListG (gn := s.gens) (os := s.os) (base := tl) (vs := refs q) (n := nq) (fun i ys nw gr' => gr' = gr ∧ ItemsAre nw ys (portsD Γ.pf i)) rfl (fun i v hv => ?yhg) (show 6 ≤ 1000 by decide) ?ystep mq ?yhb apAI ?yhend 6 0 [] [] gr _ _ none #[] 0 rfl ⟨rfl, trivial⟩ rfl ⟨rfl, rfl⟩ F3 N3 (fun _ h => nomatch h)
  case yhg =>
    obtain ⟨a, z, t, u, e, -⟩ := pa i (List.getElem?_eq_some_iff.mp hv).1
    rw [e] at hv
    rw [← Option.some.inj hv]; exact goTuple
  case yhb => exact fun p hp => ⟨(offA p hp).ne', (offI p hp).ne'⟩
  case ystep =>
    clear N2 N3 F2 F3 h
    intro i v ys nw gr' s1 m' d sl k E' hv hP hy hn gs1 F N
    have hi : i < 6 := (List.getElem?_eq_some_iff.mp hv).1
    obtain ⟨a, z, t, u, e, ha⟩ := pa i hi
    rw [e] at hv
    obtain rfl := Option.some.inj hv
    obtain ⟨rfl, it⟩ := hP
    have ha := inT _ ha
    have hg : GoodR (replyS Γ.mark (Γ.pf i)) (Γ.pf i) := good_reply mk (hpf i hi).1 (hpf i hi).2
    obtain ⟨tl2, e2⟩ : ∃ tl2, tl2 = nw ++ tl := ⟨_, rfl⟩
    have ha : (a, tupOf [.str z t, .str (replyS Γ.mark (Γ.pf i)) u]) ∈ tl2 := by rw [e2]; exact List.mem_append_right _ ha
    rw [← e2] at N
    (try dsimp only)
    k_steps
    all_goals (try dsimp only)
    all_goals (try k_data)
    rename_i h9 tk9 r9 t9 c9 F9 N9 ac9 ai9 _
    rw [e2] at N9
    exact ⟨_, (r9, tupOf [.str (Str.ofString "h") t9, .int (Γ.pf i) c9]) :: nw, gr', gs1, F9, newsTurn N9, List.forall_mem_cons.mpr ⟨⟨ac9.ne', ai9.ne'⟩, hn⟩, rfl, it.next (fun _ hp => .tail _ hp) (.inr ⟨_, _, _, _, _, rfl, .head _, rfl⟩)⟩
  case yhend =>
    clear N2 N3 F2 F3
    intro ys nw gr' s1 m' k hP hy gs1 F N
    obtain ⟨rfl, it⟩ := hP
    obtain ⟨tl2, e2⟩ : ∃ tl2, tl2 = nw ++ tl := ⟨_, rfl⟩
    have in2 : ∀ p ∈ tl, p ∈ tl2 := fun p hp => by rw [e2]; exact List.mem_append_right _ hp
    rw [← e2] at N
    have mop := in2 _ mop
    have mvp := in2 _ mvp
    refine compT_end F N KtsTurn.refl fun h9 F9 N9 => ?_
    (try dsimp only)
    clear B3 X3 T3 st3 F N
    iterate 5 (first | walk1 | (dsimp only; walk1) | (k_unfold; (try dsimp only)))
    rename_i I' hq1 b1 ltI' acc' hq2 F2' N2' d1 d2 ltA' gr2 C' hq3 tk3' F3' N3' st3' B3' X3' T3' _ _ _ ltC'
    have offI' : OffD I' tl2 := OffD.ofLt ltI'
    have offA' : OffD acc' tl2 := OffD.ofLt ltA'
    have apAI' : @Ne Nat acc' I' := Ne.symm (Nat.ne_of_lt d1)
    refine compListG (gn := s.gens) (os := s.os) (base := (acc, listOf ys.toArray k) :: tl2) (vs := pv.toArray) (n := kp) (fun i ys nw gr' => gr' = gr2 ∧ ItemsAre nw ys (portsD Γ.pf i)) rfl (fun i v hv => ?yhg) (show pv.length ≤ 1000 by rw [hvp.1]; decide) ?ystep (.tail _ mvp) ?yhb apAI' ?yhend 6 0 [] [] gr2 _ _ none #[] 0 ?yhsz ⟨rfl, trivial⟩ rfl gs1 F3' N3' (fun _ h => nomatch h)
    case yhsz => show 0 + 6 = pv.length; rw [hvp.1]
    case yhg => exact goName
    case yhb => exact List.forall_mem_cons.mpr ⟨⟨Nat.ne_of_lt d2, Nat.ne_of_lt b1⟩, fun p hp => ⟨(offA' p hp).ne', (offI' p hp).ne'⟩⟩
    case ystep =>
      clear N2' N3' F2' F3' h
      intro i v ys2 nw2 gr3 s2 m2 d sl k2 E' hv hP hy2 hn gs2 F N
      have hi : i < 6 := by
        have := (List.getElem?_eq_some_iff.mp hv).1
        rw [← hvp.1]; exact this
      obtain ⟨t, et⟩ := hvp.2 i hi
      have hv : pv[i]? = some v := hv
      rw [et] at hv
      obtain rfl := Option.some.inj hv
      obtain ⟨rfl, it2⟩ := hP
      obtain ⟨tl3, e3⟩ : ∃ tl3, tl3 = nw2 ++ (acc, listOf ys.toArray k) :: tl2 := ⟨_, rfl⟩
      rw [← e3] at N
      (try dsimp only)
      k_steps
      all_goals (try dsimp only)
      all_goals (try k_data)
      rename_i _ tk9 D9 h9 F9 N9 p1 p2 lt9
      rw [e3] at N9
      exact ⟨_, (D9, tupOf [.str (Str.ofString "h") tk9, .int (Γ.pf i) t]) :: nw2, gr3, gs2, F9, newsTurn N9, List.forall_mem_cons.mpr ⟨⟨Ne.symm (Nat.ne_of_lt p1), Ne.symm (Nat.ne_of_lt p2)⟩, hn⟩, rfl, it2.next (fun _ hp => .tail _ hp) (.inr ⟨_, _, _, _, _, rfl, .head _, rfl⟩)⟩
    case yhend =>
      clear N2' N3' F2' F3'
      intro ys2 nw2 gr3 s2 m2 k2 hP hy2 gs2 F N
      obtain ⟨rfl, it2⟩ := hP
      obtain ⟨tl3, e3⟩ : ∃ tl3, tl3 = nw2 ++ (acc, listOf ys.toArray k) :: tl2 := ⟨_, rfl⟩
      rw [← e3] at N
      refine compT_end F N KtsTurn.refl fun h10 F10 N10 => ?_
      (try dsimp only)
      have e6 : pv.toArray.size = 6 := hvp.1
      rw [e6] at it2
      have s1 : ∀ p ∈ tl2, p ∈ tl3 := fun p hp => by rw [e3]; exact List.mem_append_right _ (.tail _ hp)
      have s2 : ∀ p ∈ nw2, p ∈ tl3 := fun p hp => by rw [e3]; exact List.mem_append_left _ hp
      have s3 : ∀ p ∈ nw, p ∈ tl2 := fun p hp => by rw [e2]; exact List.mem_append_left _ hp
      refine neItems (i := k) (j := k2) (xs := ys.toArray) (ys := ys2.toArray) (ds := portsD Γ.pf 6) (na := nw) (nb := nw2) N10 ?yha (.head _) (fun p hp => .tail _ (s1 p (s3 p hp))) (fun p hp => .tail _ (s2 p hp)) it it2 ports_shaped ports_same (Nat.le_of_ble_eq_true rfl) ?_
      case yha => rw [e3]; exact .tail _ (List.mem_append_right _ (.head _))
      clear B3' X3' T3' st3' F N
      k_steps
      all_goals (try dsimp only)
      exact h _ gs2 F10 (News.sub N10 fun p hp => .tail _ (s1 p (in2 p (by rw [htl]; exact hp))))
section
local macro_rules | `(tactic| walk_at "codeAny") => `(tactic| (k_here; (with_reducible refine Halt.forL ?_)))
theorem setDeck {w : World} {g : Heap} {L : Addr} {Γ : Cst} {s : Shared} {m : Str → Option Value} {mean : ExcName → Option Value} {mg mb : Str → Option Value} {fig : Addr × Obj} {kl : Led} {rest : List Stmt} {Q : Flow → Shared → Prop} {E : Value → Shared → Prop}
    (X : (hd.heap_1 w.params).In g) (T : Top View Loose mean mg mb g) (F : Fr g L s.heap m) (N : News g L s.heap (fig :: kl)) (fx : Fix L kl Γ) (mk : MarkOk Γ.mark) (hpf : ∀ k, k < 6 → 0 ≤ Γ.pf k ∧ Γ.pf k ≤ 5) (hff : ∀ k, k < 6 → Γ.ff k = 0 ∨ Γ.ff k = 1)
    (h : ∀ s' D dd Lh tk n q, (s'.gens = s.gens ∧ s'.os = s.os) → PairT kl q ⟨(nm 0 (Γ.ff 0), replyS Γ.mark (Γ.pf 0)), (nm 1 (Γ.ff 1), replyS Γ.mark (Γ.pf 1)), (nm 2 (Γ.ff 2), replyS Γ.mark (Γ.pf 2)), (nm 3 (Γ.ff 3), replyS Γ.mark (Γ.pf 3)), (nm 4 (Γ.ff 4), replyS Γ.mark (Γ.pf 4)), (nm 5 (Γ.ff 5), replyS Γ.mark (Γ.pf 5))⟩ → (∀ p ∈ fig :: kl, @LT.lt Nat _ p.1 Lh) → @LT.lt Nat _ Lh dd → @LT.lt Nat _ dd D → Fr g L s'.heap (fun y => if y = Str.ofString "deck" then some (.ref D) else if y = Str.ofString "given" then some (.ref Lh) else m y) → News g L s'.heap ((D, instObj 171 dd) :: (dd, dictOf [⟨PyData.keyHash w.params (Str.ofString "_headers"), .str (Str.ofString "_headers") tk, .ref Lh⟩] 1) :: (Lh, listOf (refs q) n) :: fig :: kl) → wpAny (lawM w) (lawA w.params L) (execs rest (lawEnv w.params L)) Q E s') :
    wpAny (lawM w) (lawA w.params L) (execs (stmtAt w.params 10 :: stmtAt w.params 11 :: rest) (lawEnv w.params L)) Q E s := by
  obtain ⟨oq, moq, doq⟩ := fx.cpairs
  obtain ⟨q, nq, mq, hq⟩ := fx.pairs
  have hq0 := hq
  obtain ⟨⟨t0, u0, z0⟩, ⟨t1, u1, z1⟩, ⟨t2, u2, z2⟩, ⟨t3, u3, z3⟩, ⟨t4, u4, z4⟩, ⟨t5, u5, z5⟩⟩ := hq
  have cn : ∀ k : Nat, k < 6 → cleanN (nm (k : Nat) (Γ.ff k)) := fun k hk => (fit_nm (by omega) (by omega) (hff k hk)).clean
  have cv : ∀ k : Nat, k < 6 → cleanV (replyS Γ.mark (Γ.pf k)) := fun k hk => clean_reply mk (hpf k hk).1 (hpf k hk).2
  obtain ⟨tl, htl⟩ : ∃ tl, tl = fig :: kl := ⟨_, rfl⟩
  have inT : ∀ p ∈ kl, p ∈ tl := fun p hp => by rw [htl]; exact .tail _ hp
  rw [← htl] at N
  have moq := inT _ moq
  have mq := inT _ mq
  have rf : ∀ (i : Nat) (v : Value), (refs q).toList[i]? = some v → ∃ a z y t u, v = .ref a ∧ (a, tupOf [.str z t, .str y u]) ∈ tl ∧ cleanN z ∧ cleanV y := fun i v hv => by
    rcases i with _ | _ | _ | _ | _ | _ | i
    · exact ⟨_, _, _, _, _, (Option.some.inj (show some (Value.ref q.a) = some v from hv)).symm, inT _ z0, cn 0 (by decide), cv 0 (by decide)⟩
    · exact ⟨_, _, _, _, _, (Option.some.inj (show some (Value.ref q.b) = some v from hv)).symm, inT _ z1, cn 1 (by decide), cv 1 (by decide)⟩
    · exact ⟨_, _, _, _, _, (Option.some.inj (show some (Value.ref q.c) = some v from hv)).symm, inT _ z2, cn 2 (by decide), cv 2 (by decide)⟩
    · exact ⟨_, _, _, _, _, (Option.some.inj (show some (Value.ref q.d) = some v from hv)).symm, inT _ z3, cn 3 (by decide), cv 3 (by decide)⟩
    · exact ⟨_, _, _, _, _, (Option.some.inj (show some (Value.ref q.e) = some v from hv)).symm, inT _ z4, cn 4 (by decide), cv 4 (by decide)⟩
    · exact ⟨_, _, _, _, _, (Option.some.inj (show some (Value.ref q.f) = some v from hv)).symm, inT _ z5, cn 5 (by decide), cv 5 (by decide)⟩
    · cases hv
  clear cn cv hpf hff z0 z1 z2 z3 z4 z5
  have B : Below (Lv 301 []) g [] g := ⟨rfl, fun _ _ e => e, trivial⟩
  have hsc : lawScope w.params = ⟨_, _, _, _, _⟩ := rfl
  show wpAny _ _ (execs (Stmt.Assign _ _ _ :: Stmt.Assign _ _ _ :: _) _) _ _ _
  dsimp only [lawEnv, lawA, lawM]
  rw [hsc]
  clear hsc
  k_steps
  rename_i c1 _ _ _ x1 d1 _ _ _ _ l1 l2 g1 L1 _ FG1 B1 X1 T1 _ _ h2 h1 F1 N1 I h4 F4 N4 i1 i2 i3 lI
  refine forListG (n := c1) (s₀ := s) (vs := refs q) (fun _ m => m (Str.ofString "self") = some (.ref x1)) rfl (fun i v hv => ?yhg) ?ystep ?yhl ?yhb ?yhend 6 0 h4 _ _ none #[] rfl ?yhp F4 N4
  case yhp => k_extra "my look"
  case yhg => obtain ⟨a, z, y, t, u, rfl, -⟩ := rf i v hv; exact goTuple
  case yhl => exact .tail _ (.tail _ (.head _))
  case yhb => exact List.forall_mem_cons.mpr ⟨Nat.ne_of_lt i1, List.forall_mem_cons.mpr ⟨Nat.ne_of_lt i2, List.forall_mem_cons.mpr ⟨Nat.ne_of_lt i3, (OffD.ofLt lI).ne⟩⟩⟩
  case ystep =>
    clear F1 N1 F4 N4
    intro i v h tk m d sl E1 E2 hv hP F N
    obtain ⟨a, z, y, t, u, rfl, me, cn, cv⟩ := rf i v hv
    clear hv
    (try dsimp only)
    k_steps
    dsimp only [TurnFor]
    refine ⟨_, _, _, _, _, rfl, by k_asm, by k_asm, ?ypp⟩
    case ypp => k_extra "my look"
  case yhend =>
    clear F1 N1 F4 N4
    intro h9 tk9 m9 hP F9 N9
    (try dsimp only)
    k_steps
    all_goals (try dsimp only)
    k_extra "my facts"
    subst htl
    refine' h _ _ _ _ _ _ q ⟨rfl, rfl⟩ hq0 ?yzo1 ?yzo2 ?yzo3 ?yzFF ?yzNN
    case yzNN => assumption
    case yzFF => assumption
    case yzo1 => assumption
    case yzo2 => assumption
    case yzo3 => assumption
end
noncomputable def Rows (kl : Led) : List Addr → List Ent → Prop
  | [], [] => True
  | a :: as, x :: xs => (∃ t u, (a, tupOf [.int x.1 t, .int x.2 u]) ∈ kl) ∧ Rows kl as xs
  | _, _ => False
theorem Rows.mono {kl kl' : Led} (h : ∀ p ∈ kl, p ∈ kl') : ∀ {as : List Addr} {xs : List Ent}, Rows kl as xs → Rows kl' as xs
  | [], [], _ => trivial
  | _ :: _, _ :: _, ⟨⟨t, u, m⟩, r⟩ => ⟨⟨t, u, h _ m⟩, r.mono h⟩
theorem Rows.snoc {kl : Led} {a : Addr} {x : Ent} {t u : Tok} (h : (a, tupOf [.int x.1 t, .int x.2 u]) ∈ kl) : ∀ {as : List Addr} {xs : List Ent}, Rows kl as xs → Rows kl (as ++ [a]) (xs ++ [x])
  | [], [], _ => ⟨⟨t, u, h⟩, trivial⟩
  | _ :: _, _ :: _, ⟨y, r⟩ => ⟨y, r.snoc h⟩
theorem Rows.six {kl : Led} : ∀ {as : List Addr} {x : Six Ent}, Rows kl as x.list → ∃ r : Six Addr, as = r.list ∧ RowT kl r x
  | [_, _, _, _, _, _], _, ⟨h0, h1, h2, h3, h4, h5, _⟩ => ⟨⟨_, _, _, _, _, _⟩, rfl, h0, h1, h2, h3, h4, h5⟩
  | [], _, h => h.elim
  | [_], _, h => h.2.elim
  | [_, _], _, h => h.2.2.elim
  | [_, _, _], _, h => h.2.2.2.elim
  | [_, _, _, _], _, h => h.2.2.2.2.elim
  | [_, _, _, _, _], _, h => h.2.2.2.2.2.elim
  | _ :: _ :: _ :: _ :: _ :: _ :: _ :: _, _, h => h.2.2.2.2.2.2.elim
noncomputable def RwP (ff : Nat → Int) (gr₀ : Heap) : Nat → List Value → Led → Heap → Prop := fun i ys nw gr => gr = gr₀ ∧ ∃ as : List Addr, ys = as.map .ref ∧ Rows nw as ((List.range i).map fun k => (((k : Nat) : Int), ff k)) ∧ ∀ p ∈ nw, ∃ vs, p.2 = tupOf vs
theorem setRow {w : World} {g : Heap} {L : Addr} {Γ : Cst} {s : Shared} {m : Str → Option Value} {mean : ExcName → Option Value} {mg mb : Str → Option Value} {kl tl : Led} {rest : List Stmt} {Q : Flow → Shared → Prop} {E : Value → Shared → Prop}
    (X : (hd.heap_1 w.params).In g) (T : Top View Loose mean mg mb g) (F : Fr g L s.heap m) (N : News g L s.heap tl) (inT : ∀ p ∈ kl, p ∈ tl) (fx : Fix L kl Γ)
    (h : ∀ s' lr nr rr nw, (s'.gens = s.gens ∧ s'.os = s.os) → RowT nw rr ⟨(0, Γ.ff 0), (1, Γ.ff 1), (2, Γ.ff 2), (3, Γ.ff 3), (4, Γ.ff 4), (5, Γ.ff 5)⟩ → (∀ p ∈ nw, ∃ vs, p.2 = tupOf vs) → (∀ p ∈ tl, @LT.lt Nat _ p.1 lr) → Fr g L s'.heap (fun y => if y = Str.ofString "row" then some (.ref lr) else m y) → News g L s'.heap ((lr, listOf (refs rr) nr) :: (nw ++ tl)) → wpAny (lawM w) (lawA w.params L) (execs rest (lawEnv w.params L)) Q E s') :
    wpAny (lawM w) (lawA w.params L) (execs (stmtAt w.params 12 :: rest) (lawEnv w.params L)) Q E s := by
  obtain ⟨of_, mof, dof⟩ := fx.cfaces
  obtain ⟨vf, kf, mvf, hvf⟩ := fx.faces
  have mof := inT _ mof
  have mvf := inT _ mvf
  have B : Below (Lv 301 []) g [] g := ⟨rfl, fun _ _ e => e, trivial⟩
  have hsc : lawScope w.params = ⟨_, _, _, _, _⟩ := rfl
  show wpAny _ _ (execs (Stmt.Assign _ _ _ :: _) _) _ _ _
  dsimp only [lawEnv, lawA, lawM]
  rw [hsc]
  clear hsc
  iterate 12 (first | walk1 | (dsimp only; walk1) | (k_unfold; (try dsimp only)))
  rename_i I hp1 ltI acc hp2 F2 N2 a1 ltA gr C hp3 tk3 F3 N3 st3 B3 X3 T3 _ _ ltC
  have offI : OffD I tl := fun q hq => Ne.symm (Nat.ne_of_lt (ltI q hq))
  have offA : OffD acc tl := OffD.ofLt ltA
  have apAI : @Ne Nat acc I := Ne.symm (Nat.ne_of_lt a1)
  have ltT : ∀ p ∈ tl, @LT.lt Nat _ p.1 acc := fun p hp => Nat.lt_trans (ltI p hp) a1
  refine compRangeG (n := 6) (gn := s.gens) (os := s.os) (base := tl) (RwP Γ.ff gr) rfl (by decide) ?ystep ?yhb apAI ?yhend 6 0 [] [] gr _ _ 0 rfl ⟨rfl, [], rfl, trivial, fun _ h => nomatch h⟩ rfl ⟨rfl, rfl⟩ F3 N3 (fun _ h => nomatch h)
  case yhb => exact fun p hp => ⟨(offA p hp).ne', (offI p hp).ne'⟩
  case ystep =>
    clear N2 N3 F2 F3 h
    intro i t ys nw gr' s1 m' k E' hi hP hy hn gs1 F N
    obtain ⟨rfl, as, rfl, hpd, htu⟩ := hP
    obtain ⟨tl2, e2⟩ : ∃ tl2, tl2 = nw ++ tl := ⟨_, rfl⟩
    have in2 : ∀ p ∈ tl, p ∈ tl2 := fun p hp => by rw [e2]; exact List.mem_append_right _ hp
    have mof := in2 _ mof
    have mvf := in2 _ mvf
    rw [← e2] at N
    (try dsimp only)
    k_steps
    all_goals (try dsimp only)
    all_goals (try k_data)
    rename_i D9 h9 F9 N9 p1 p2 lt9
    rw [e2] at N9
    show TurnEnd C acc I (as.map .ref) k _ _ _ _ (RwP Γ.ff gr' (i + 1)) _ _
    refine ⟨_, (D9, tupOf [.int ((i : Nat) : Int) _, .int (Γ.ff ((i : Nat) : Int).toNat) _]) :: nw, _, gs1, F9, newsTurn N9, List.forall_mem_cons.mpr ⟨⟨Ne.symm (Nat.ne_of_lt p1), Ne.symm (Nat.ne_of_lt p2)⟩, hn⟩, rfl, as ++ [D9], by simp, ?_, List.forall_mem_cons.mpr ⟨⟨_, rfl⟩, htu⟩⟩
    rw [List.range_succ, List.map_append]
    show Rows _ _ (_ ++ [(((i : Nat) : Int), Γ.ff i)])
    exact Rows.snoc (x := (((i : Nat) : Int), Γ.ff i)) (.head _) (hpd.mono fun _ hp => .tail _ hp)
  case yhend =>
    clear N2 N3 F2 F3
    intro ys nw gr' s1 m' k hP hy gs1 F N
    obtain ⟨rfl, as, rfl, hpd, htu⟩ := hP
    have hpd : Rows nw as (Six.list ⟨(0, Γ.ff 0), (1, Γ.ff 1), (2, Γ.ff 2), (3, Γ.ff 3), (4, Γ.ff 4), (5, Γ.ff 5)⟩) := hpd
    obtain ⟨rr, rfl, hpt⟩ := Rows.six hpd
    obtain ⟨tl2, e2⟩ : ∃ tl2, tl2 = nw ++ tl := ⟨_, rfl⟩
    rw [← e2] at N
    have offC : OffD C tl2 := fun q hq => Ne.symm (N _ (.tail _ hq)).2.1
    (try dsimp only)
    k_steps
    all_goals (try dsimp only)
    all_goals (try k_data)
    rename_i h9 F9 N9
    rw [e2] at N9
    exact h _ acc k rr nw gs1 hpt htu ltT F9 N9
theorem setGave {w : World} {g : Heap} {L : Addr} {s : Shared} {m : Str → Option Value} {mean : ExcName → Option Value} {mg mb : Str → Option Value} {tl : Led} {rest : List Stmt} {Q : Flow → Shared → Prop} {E : Value → Shared → Prop}
    (X : (hd.heap_1 w.params).In g) (T : Top View Loose mean mg mb g) (F : Fr g L s.heap m) (N : News g L s.heap tl)
    (h : ∀ s' lgv t, (s'.gens = s.gens ∧ s'.os = s.os) → (∀ p ∈ tl, @LT.lt Nat _ p.1 lgv) → Fr g L s'.heap (fun y => if y = Str.ofString "cuts" then some (.int 0 t) else if y = Str.ofString "gave" then some (.ref lgv) else m y) → News g L s'.heap ((lgv, listOf #[] 0) :: tl) → wpAny (lawM w) (lawA w.params L) (execs rest (lawEnv w.params L)) Q E s') :
    wpAny (lawM w) (lawA w.params L) (execs (stmtAt w.params 13 :: stmtAt w.params 14 :: rest) (lawEnv w.params L)) Q E s := by
  have B : Below (Lv 301 []) g [] g := ⟨rfl, fun _ _ e => e, trivial⟩
  have hsc : lawScope w.params = ⟨_, _, _, _, _⟩ := rfl
  show wpAny _ _ (execs (Stmt.Assign _ _ _ :: Stmt.Assign _ _ _ :: _) _) _ _ _
  dsimp only [lawEnv, lawA, lawM]
  rw [hsc]
  clear hsc
  k_steps
  all_goals (try dsimp only)
  refine' h _ _ _ ⟨rfl, rfl⟩ ?yzl ?yzF ?yzN
  case yzN => assumption
  case yzF => assumption
  case yzl => assumption
theorem firstSt {w : World} {g : Heap} {L : Addr} {s : Shared} {m : Str → Option Value} {D dd Lh lgv lgf lp lf lq lr : Addr} {tk : Tok} {pf ff : Nat → Int} {mk ot tt : Str} {far : Int} {ge : Array GenState} {os : OsState} {kgf n nr : Nat} {gvf : List Value} {q rr : Six Addr} {nw kl : Led}
    (F : Fr g L s.heap m) (N : News g L s.heap ((lgv, listOf #[] 0) :: (lr, listOf (refs rr) nr) :: (nw ++ ((D, instObj 171 dd) :: (dd, dictOf [⟨PyData.keyHash w.params (Str.ofString "_headers"), .str (Str.ofString "_headers") tk, .ref Lh⟩] 1) :: (Lh, listOf (refs q) n) :: (lgf, listOf gvf.toArray kgf) :: kl))))
    (off : OffD lgf kl) (l1 : ∀ p ∈ (lgf, listOf gvf.toArray kgf) :: kl, @LT.lt Nat _ p.1 Lh) (l2 : @LT.lt Nat _ Lh dd) (l3 : @LT.lt Nat _ dd D)
    (l4 : ∀ p ∈ (D, instObj 171 dd) :: (dd, dictOf [⟨PyData.keyHash w.params (Str.ofString "_headers"), .str (Str.ofString "_headers") tk, .ref Lh⟩] 1) :: (Lh, listOf (refs q) n) :: (lgf, listOf gvf.toArray kgf) :: kl, @LT.lt Nat _ p.1 lr)
    (l5 : ∀ p ∈ (lr, listOf (refs rr) nr) :: (nw ++ ((D, instObj 171 dd) :: (dd, dictOf [⟨PyData.keyHash w.params (Str.ofString "_headers"), .str (Str.ofString "_headers") tk, .ref Lh⟩] 1) :: (Lh, listOf (refs q) n) :: (lgf, listOf gvf.toArray kgf) :: kl)), @LT.lt Nat _ p.1 lgv)
    (hrt : RowT nw rr ⟨(0, ff 0), (1, ff 1), (2, ff 2), (3, ff 3), (4, ff 4), (5, ff 5)⟩) (htu : ∀ p ∈ nw, ∃ vs, p.2 = tupOf vs)
    (hq : PairT kl q ⟨(nm 0 (ff 0), replyS mk (pf 0)), (nm 1 (ff 1), replyS mk (pf 1)), (nm 2 (ff 2), replyS mk (pf 2)), (nm 3 (ff 3), replyS mk (pf 3)), (nm 4 (ff 4), replyS mk (pf 4)), (nm 5 (ff 5), replyS mk (pf 5))⟩)
    (fx : Fix L kl ⟨D, dd, Lh, lgv, lp, lf, lq, tk, pf, ff, mk, ot, tt, far, ge, os⟩) (lc : Locs m ⟨D, dd, Lh, lgv, lp, lf, lq, tk, pf, ff, mk, ot, tt, far, ge, os⟩ lr 0) (gs : s.gens = ge ∧ s.os = os) :
    LawSt w g L ⟨D, dd, Lh, lgv, lp, lf, lq, tk, pf, ff, mk, ot, tt, far, ge, os⟩ ⟨(0, ff 0), (1, ff 1), (2, ff 2), (3, ff 3), (4, ff 4), (5, ff 5)⟩ ⟨(0, ff 0), (1, ff 1), (2, ff 2), (3, ff 3), (4, ff 4), (5, ff 5)⟩ 0 0 none [(lgf, listOf gvf.toArray kgf)] s m := by
  obtain ⟨⟨t0, u0, z0⟩, ⟨t1, u1, z1⟩, ⟨t2, u2, z2⟩, ⟨t3, u3, z3⟩, ⟨t4, u4, z4⟩, ⟨t5, u5, z5⟩⟩ := hq
  obtain ⟨cs, hcs⟩ : ∃ cs : Six Card, cs = ⟨⟨q.a, nm 0 (ff 0), replyS mk (pf 0), t0, u0⟩, ⟨q.b, nm 1 (ff 1), replyS mk (pf 1), t1, u1⟩, ⟨q.c, nm 2 (ff 2), replyS mk (pf 2), t2, u2⟩, ⟨q.d, nm 3 (ff 3), replyS mk (pf 3), t3, u3⟩, ⟨q.e, nm 4 (ff 4), replyS mk (pf 4), t4, u4⟩, ⟨q.f, nm 5 (ff 5), replyS mk (pf 5), t5, u5⟩⟩ := ⟨_, rfl⟩
  have inC : ∀ p ∈ cs.list.map cardO, p ∈ kl := by
    rw [hcs]
    exact List.forall_mem_cons.mpr ⟨z0, List.forall_mem_cons.mpr ⟨z1, List.forall_mem_cons.mpr ⟨z2, List.forall_mem_cons.mpr ⟨z3, List.forall_mem_cons.mpr ⟨z4, List.forall_mem_cons.mpr ⟨z5, fun _ h => nomatch h⟩⟩⟩⟩⟩⟩
  have tuC : ∀ p ∈ cs.list.map cardO, ∃ vs, p.2 = tupOf vs := fun p hp => by
    obtain ⟨c, -, rfl⟩ := List.mem_map.mp hp
    exact ⟨_, rfl⟩
  have eD : deckC w.params D dd Lh tk n cs.list = [(D, instObj 171 dd), (dd, dictOf [⟨PyData.keyHash w.params (Str.ofString "_headers"), .str (Str.ofString "_headers") tk, .ref Lh⟩] 1), (Lh, listOf (refs q) n)] ++ cs.list.map cardO := by
    rw [hcs]; rfl
  obtain ⟨base, hb⟩ : ∃ base, base = (D, instObj 171 dd) :: (dd, dictOf [⟨PyData.keyHash w.params (Str.ofString "_headers"), .str (Str.ofString "_headers") tk, .ref Lh⟩] 1) :: (Lh, listOf (refs q) n) :: (lgf, listOf gvf.toArray kgf) :: kl := ⟨_, rfl⟩
  rw [← hb] at N l4 l5
  have bD : ∀ p ∈ deckC w.params D dd Lh tk n cs.list, p ∈ base := fun p hp => by
    rw [eD] at hp
    rw [hb]
    rcases List.mem_append.mp hp with hp | hp
    · simp only [List.mem_cons, List.not_mem_nil, or_false] at hp
      rcases hp with rfl | rfl | rfl
      · exact .head _
      · exact .tail _ (.head _)
      · exact .tail _ (.tail _ (.head _))
    · exact .tail _ (.tail _ (.tail _ (.tail _ (inC p hp))))
  have bF : (lgf, listOf gvf.toArray kgf) ∈ base := by rw [hb]; exact .tail _ (.tail _ (.tail _ (.head _)))
  have bK : ∀ p ∈ kl, p ∈ base := fun p hp => by rw [hb]; exact .tail _ (.tail _ (.tail _ (.tail _ hp)))
  have up : ∀ p ∈ base, p ∈ (lgv, listOf #[] 0) :: (lr, listOf (refs rr) nr) :: (nw ++ base) := fun p hp => .tail _ (.tail _ (List.mem_append_right _ hp))
  have big : ∀ p ∈ deckC w.params D dd Lh tk n cs.list ++ ([(lgf, listOf gvf.toArray kgf)] ++ ((lr, listOf (refs rr) nr) :: (nw ++ kl))), p ∈ (lr, listOf (refs rr) nr) :: (nw ++ base) := fun p hp => by
    rcases List.mem_append.mp hp with hp | hp
    · exact .tail _ (List.mem_append_right _ (bD p hp))
    rcases List.mem_append.mp hp with hp | hp
    · rw [List.mem_singleton.mp hp]; exact .tail _ (List.mem_append_right _ bF)
    rcases List.mem_cons.mp hp with rfl | hp
    · exact .head _
    rcases List.mem_append.mp hp with hp | hp
    · exact .tail _ (List.mem_append_left _ hp)
    · exact .tail _ (List.mem_append_right _ (bK p hp))
  have ltD : ∀ {x : Addr}, @LT.lt Nat _ x Lh → Ap x D ∧ Ap x dd ∧ Ap x Lh := fun h => ⟨Ap.of (by k_ne), Ap.of (by k_ne), Ap.of (by k_ne)⟩
  have offDk : ∀ {x : Addr}, (Ap x D ∧ Ap x dd ∧ Ap x Lh) → OffD x (cs.list.map cardO) → OffD x (deckC w.params D dd Lh tk n cs.list) := fun {x} h1 h2 p hp => by
    rw [eD] at hp
    rcases List.mem_append.mp hp with hp | hp
    · simp only [List.mem_cons, List.not_mem_nil, or_false] at hp
      rcases hp with rfl | rfl | rfl
      · exact h1.1
      · exact h1.2.1
      · exact h1.2.2
    · exact h2 p hp
  refine ⟨(lr, listOf (refs rr) nr) :: (nw ++ kl), n, 0, #[], cs, lr, F, fun p hp => ?_, fun p hp => ?_, fun p hp => ?_, rfl, ?_, ⟨rr, nr, .head _, hrt.mono fun p hp => .tail _ (List.mem_append_left _ hp)⟩, fx.mono fun p hp => .tail _ (List.mem_append_right _ hp), lc, trivial, ⟨?_, ?_, ?_⟩, gs⟩
  · rcases List.mem_cons.mp hp with rfl | hp
    · exact N _ (.head _)
    · exact N p (.tail _ (big p hp))
  · exact Ne.symm (Nat.ne_of_lt (l5 p (big p hp)))
  · rcases List.mem_append.mp hp with hp | hp
    · rw [List.mem_singleton.mp hp]
      exact .inr (offDk (ltD (l1 _ (.head _))) fun p hp => off p (inC p hp))
    rcases List.mem_cons.mp hp with rfl | hp
    · refine .inr (offDk ⟨?_, ?_, ?_⟩ fun p hp => ?_)
      · exact Ne.symm (Nat.ne_of_lt (l4 (D, _) (by rw [hb]; exact .head _)))
      · exact Ne.symm (Nat.ne_of_lt (l4 (dd, _) (by rw [hb]; exact .tail _ (.head _))))
      · exact Ne.symm (Nat.ne_of_lt (l4 (Lh, _) (by rw [hb]; exact .tail _ (.tail _ (.head _)))))
      · exact Ne.symm (Nat.ne_of_lt (l4 p (bK p (inC p hp))))
    rcases List.mem_append.mp hp with hp | hp
    · exact .inl (htu p hp)
    · rcases Classical.em (∃ vs, p.2 = tupOf vs) with ht | ht
      · exact .inl ht
      · refine .inr (offDk (ltD (l1 p (.tail _ hp))) (off_tup (o := p.2) N (up p (bK p hp)) (fun vs e => ht ⟨vs, e⟩) (fun p hp => up p (bK p (inC p hp))) tuC))
  · rw [hcs]
    exact ⟨⟨rfl, rfl⟩, ⟨rfl, rfl⟩, ⟨rfl, rfl⟩, ⟨rfl, rfl⟩, ⟨rfl, rfl⟩, ⟨rfl, rfl⟩⟩
  · intro p hp vs
    rw [List.mem_singleton.mp hp]
    exact objNe (by rfl)
  · intro p hp
    rw [List.mem_singleton.mp hp]
    intro q' hq'
    rcases List.mem_cons.mp hq' with rfl | hq'
    · exact Nat.ne_of_lt (l4 _ bF)
    rcases List.mem_append.mp hq' with hq' | hq'
    · exact off_tup N (up _ bF) (fun vs => objNe (by rfl)) (fun p hp => .tail _ (.tail _ (List.mem_append_left _ hp))) htu q' hq'
    · exact off q' hq'
  · exact List.pairwise_singleton _ _
theorem par_self (k f : Int) : (k + k + f + f) % 2 = 0 % 2 := by omega
theorem law_all {w : World} {g : Heap} {L l : Addr} {s : Shared} {m : Str → Option Value} {mean : ExcName → Option Value} {mg mb : Str → Option Value} {w0 w1 w2 w3 w4 : Obj} {vs : List Value} {ns : List Int} {Q : Flow → Shared → Prop} {E : Value → Shared → Prop}
    (X : (hd.heap_1 w.params).In g) (T : Top View Loose mean mg mb g) (F : Fr g L s.heap m) (N : News g L s.heap [(L + 1 + 1 + 1 + 1 + 1, w4), (L + 1 + 1 + 1 + 1, w3), (L + 1 + 1 + 1, w2), (L + 1 + 1, w1), (L + 1, w0)])
    (h0 : w0.data = .cell none) (h1 : w1.data = .cell none) (h2 : w2.data = .cell none) (h3 : w3.data = .cell none) (h4 : w4.data = .cell none)
    (hs : m (Str.ofString "script") = some (.ref l)) (hl : g.IsList l vs.toArray) (hi : IntsAre vs ns) (hn : ns.length ≤ 63)
    (h : ∀ s' m', Fr g L s'.heap m' → (s'.gens = s.gens ∧ s'.os = s.os) → Q (.ret (.bool true)) s') :
    wpAny (lawM w) (lawA w.params L) (execs (lawBody w.params) (lawEnv w.params L)) Q E s := by
  have eb : lawBody w.params = stmtAt w.params 0 :: stmtAt w.params 1 :: stmtAt w.params 2 :: stmtAt w.params 3 :: stmtAt w.params 4 :: stmtAt w.params 5 :: stmtAt w.params 6 :: stmtAt w.params 7 :: stmtAt w.params 8 :: stmtAt w.params 9 :: stmtAt w.params 10 :: stmtAt w.params 11 :: stmtAt w.params 12 :: stmtAt w.params 13 :: stmtAt w.params 14 :: stmtAt w.params 15 :: stmtAt w.params 16 :: stmtAt w.params 17 :: stmtAt w.params 18 :: stmtAt w.params 19 :: stmtAt w.params 20 :: stmtAt w.params 21 :: stmtAt w.params 22 :: stmtAt w.params 23 :: stmtAt w.params 24 :: stmtAt w.params 25 :: [stmtAt w.params 26] := rfl
  rw [eb]
  clear eb
  with_reducible refine setA X T F N h0 hs hl hi hn ?_
  intro hA tkA m1 lc n4 a b c d ta tb tc td w0' d0 lt0 F1 N1
  with_reducible refine setFig X T F1 N1 d0 lt0 ?_
  intro s2 lg gv kg g2 P2 l2 F2 N2
  with_reducible refine setPorts X T F2 N2 d0 lt0 l2 h1 ?_
  intro s3 lp pv kp w1' g3 d1 P3 l3 l3' F3 N3
  with_reducible refine setFaces X T F3 N3 d0 lt0 l3 l2 l3' h2 ?_
  intro s4 lf fv kf w2' g4 d2 P4 l4 l4' l4'' F4 N4
  have hfg : (fun z => if z = Str.ofString "figures" then some (Value.ref lg) else m1 z) (Str.ofString "figures") = some (.ref lg) := if_pos rfl
  with_reducible refine setMark X T F4 N4 d0 h3 lt0 l2 l3' l4' hfg ?_
  intro s5 m5 mk ot tt w3' t5 u5 v5 g5 d3 mo oo ne to e1 e2 e3 F5 N5
  with_reducible refine setFar X T F5 N5 d0 lt0 l2 l3' l4' ?_
  intro s6 far t6 g6 fb F6 N6
  obtain ⟨hfv, hff⟩ := P4.fn
  obtain ⟨hpv, hpf⟩ := P3.fn
  have hm1 : mk.length = 1 := by rcases mo with e | e | e | e <;> rw [e] <;> decide +kernel
  with_reducible refine setPairs X T F6 N6 d1 d2 d3 h4 lt0 l2 l3' l4' hm1 hfv hpv hff hpf ?_
  intro s7 lq kl g7 F7 N7 off fx
  have fx0 := fx 0 0 0 0 0 ot tt far s.gens s.os
  with_reducible refine chkPorts X T F7 N7 fx0 mo hpf ?_
  intro s8 g8 F8 N8
  with_reducible refine setDeck X T F8 N8 fx0 mo hpf hff ?_
  intro s9 D dd Lh tk n q g9 hq lt1 lt2 lt3 F9 N9
  have inT : ∀ p ∈ kl, p ∈ (D, instObj 171 dd) :: (dd, dictOf [⟨PyData.keyHash w.params (Str.ofString "_headers"), .str (Str.ofString "_headers") tk, .ref Lh⟩] 1) :: (Lh, listOf (refs q) n) :: (lg, listOf gv.toArray kg) :: kl := fun p hp => .tail _ (.tail _ (.tail _ (.tail _ hp)))
  with_reducible refine setRow X T F9 N9 inT fx0 ?_
  intro s10 lr nr rr nw g10 hrt htu ltr F10 N10
  with_reducible refine setGave X T F10 N10 ?_
  intro s11 lgv t11 g11 ltg F11 N11
  have gall : s11.gens = s.gens ∧ s11.os = s.os := ⟨g11.1.trans (g10.1.trans (g9.1.trans (g8.1.trans (g7.1.trans (g6.1.trans (g5.1.trans (g4.1.trans (g3.1.trans g2.1)))))))), g11.2.trans (g10.2.trans (g9.2.trans (g8.2.trans (g7.2.trans (g6.2.trans (g5.2.trans (g4.2.trans (g3.2.trans g2.2))))))))⟩
  have S := firstSt (lp := lp) (lf := lf) (lq := lq) (pf := fOf pv) (ff := fOf fv) (mk := mk) (ot := ot) (tt := tt) (far := far) (ge := s.gens) (os := s.os) F11 N11 off lt1 lt2 lt3 ltr ltg hrt htu hq (fx D dd Lh lgv tk ot tt far s.gens s.os) (by
    refine ⟨?_, ?_, ?_, ?_, ⟨t11, ?_⟩, ⟨v5, ?_⟩, ⟨t6, ?_⟩, ⟨u5, ?_⟩⟩
    all_goals k_extra "my look") gall
  have hmf : (fun y => if y = Str.ofString "cuts" then some (Value.int 0 t11) else if y = Str.ofString "gave" then some (.ref lgv) else if y = Str.ofString "row" then some (.ref lr) else if y = Str.ofString "deck" then some (.ref D) else if y = Str.ofString "given" then some (.ref Lh) else if y = Str.ofString "far" then some (.int far t6) else m5 y) (Str.ofString "figures") = some (.ref lg) := by
    k_extra "my look"
  have ok : CstOk ⟨D, dd, Lh, lgv, lp, lf, lq, tk, fOf pv, fOf fv, mk, ot, tt, far, s.gens, s.os⟩ := ⟨hpf, hff, mo, oo, to, fb⟩
  have fo : FigOk gv := P2
  have q0 := hff 0 (by decide)
  have q1 := hff 1 (by decide)
  have q2 := hff 2 (by decide)
  have q3 := hff 3 (by decide)
  have q4 := hff 4 (by decide)
  have q5 := hff 5 (by decide)
  have en : ∀ (k f : Int), 0 ≤ k → k < 6 → (f = 0 ∨ f = 1) → EntOk (k, f) := fun k f a b c => ⟨a, b, c⟩
  have ro : RowOk ⟨(0, fOf fv 0), (1, fOf fv 1), (2, fOf fv 2), (3, fOf fv 3), (4, fOf fv 4), (5, fOf fv 5)⟩ := by
    refine ⟨?_, ?_⟩
    · simp only [Six.list, List.forall_mem_cons, List.not_mem_nil, false_implies, implies_true, and_true]
      exact ⟨en 0 _ (by decide) (by decide) q0, en 1 _ (by decide) (by decide) q1, en 2 _ (by decide) (by decide) q2, en 3 _ (by decide) (by decide) q3, en 4 _ (by decide) (by decide) q4, en 5 _ (by decide) (by decide) q5⟩
    · simp [Six.list]
  have pr : Par ⟨D, dd, Lh, lgv, lp, lf, lq, tk, fOf pv, fOf fv, mk, ot, tt, far, s.gens, s.os⟩ ⟨(0, fOf fv 0), (1, fOf fv 1), (2, fOf fv 2), (3, fOf fv 3), (4, fOf fv 4), (5, fOf fv 5)⟩ 0 := by
    refine ⟨?_, ?_, ?_, ?_, ?_, ?_⟩
    · exact par_self 0 _
    · exact par_self 1 _
    · exact par_self 2 _
    · exact par_self 3 _
    · exact par_self 4 _
    · exact par_self 5 _
  clear N N1 N2 N3 N4 N5 N6 N7 N8 N9 N10 N11 F F1 F2 F3 F4 F5 F6 F7 F8 F9 F10 F11 q0 q1 q2 q3 q4 q5
  with_reducible refine figStmt X T ok fo ro pr S hmf ?_
  intro s12 m12 row cuts cnt ro2 pr2 hc c0 c8 S12
  with_reducible refine keptS X T S12 ?_
  intro s13 m13 lk S13
  with_reducible refine dueS X T ro2 rfl S13 ?_
  intro s14 m14 ld S14
  have x1 := xOf_ok ok ro2
  with_reducible refine keptDue X T x1 S14 ?_
  intro s15 S15
  with_reducible refine chkStmt X T ok ro2 pr2 S15 ?_
  intro s16 m16 S16
  have hc6 : cnt + 6 * 6 ≤ 80 := by omega
  with_reducible refine sortStmt X T ok ro2 hc6 S16 ?_
  intro s17 m17 rof S17
  with_reducible refine homeS X T S17 ?_
  intro s18 m18 lh nh S18
  with_reducible refine homeStmt X T ok ro2 S18 ?_
  intro s19 m19 as2 nh2 S19
  rw [home_final ok pr2 rof] at S19
  have x2 := xOf_ok ok rof
  have hc7 : ((cnt + 36 : Nat) : Int) = 52 - cuts := by omega
  with_reducible refine stmt23 X T x1 x2 hc7 c0 S19 ?_
  intro s20 E20
  with_reducible refine stmt24 X T ok ne E20 ?_
  intro s21 E21
  with_reducible refine stmt25 X T E21 ?_
  intro s22 E22
  with_reducible refine stmt26 X T E22 ?_
  intro s' m' F' gs
  exact h s' m' F' gs
end Mine
namespace Mine
noncomputable def codeAt0 : Data → Value
  | .func fd => fd.code
  | _ => .none
theorem wpAny_to {α : Type} {M : Model} {A A' : Around} {t : Sem α} {Q : α → Shared → Prop} {E : Value → Shared → Prop} {s : Shared}
    (hh : A.handled = A'.handled) (hf : A.frames = A'.frames) (hg : A'.guards = none) (hd : A.depth ≤ A'.depth) (hu : A.units ≤ A'.units) (h : wpAny M A' t Q E s) : wpAny M A t Q E s :=
  fun Γ p hΓ => h Γ p ⟨hΓ.1.trans hh, Nat.le_trans hΓ.2.1 hd, fun l hl => hΓ.2.2.1 l (hf.trans hl), (fun g e => by rw [hg] at e; cases e), Nat.le_trans hΓ.2.2.2.2 hu⟩
end Mine
local macro_rules | `(tactic| k_qdec) => `(tactic| decide +kernel)
theorem PySem.Challenge.cw_yf0037_01_holds : PySem.Challenge.rw_yf0037_01.Holds := by
  refine Mine.hd ?_
  k_fill
  intro w s₀ s₁ mg mb G Y fa o pm cd doc dV kV ho hdd hcd hD hmg hg args vals as hpre hlay hrd hwl hlo
  have KX := kIn_of Y
  have e1 : mg (Str.ofString "law") = some (.ref 320) := by
    refine Ground.open G ?_
    intro T B D TE TW
    exact mg_of KX T.g (by k_is)
  have efa : fa = 320 := by
    have e2 : some (Value.ref fa) = some (.ref 320) := hmg.symm.trans e1
    exact Value.ref.inj (Option.some.inj e2)
  have ecd : cd = .ref 319 := by
    subst efa
    have h2 := KX 320 _ (by k_dflt k_is)
    have e3 := Option.some.inj (ho.symm.trans h2)
    have e4 := congrArg Mine.codeAt0 hdd
    rw [e3] at e4
    exact e4.symm
  subst ecd
  subst efa
  clear e1
  k_behind G ho hdd hcd hD hmg hpre hlay hrd hwl hlo cd
  all_goals (try k_fold)
  rename_i X V GL T B TE TW w12 w11 M ns hs hlay0 hL1 hr1 hl2 w9 w8 l vs w5 hL ra wl r0 hI hr hc1 hc2 K0 h1 tk1 F o4 o3 o2 o1 o0 d4 d3 d2 d1 d0 N0 X0
  refine Mine.wpAny_to (A' := Mine.lawA w.params s₁.heap.objs.size) rfl rfl rfl (Nat.le_of_ble_eq_true rfl) (Nat.le_of_ble_eq_true rfl) ?_
  have LA := @Mine.law_all w s₁.heap s₁.heap.objs.size l
  refine LA KX T F N0 d0 d1 d2 d3 d4 rfl hL hI (by omega) fun s' m' F' gs => ?_
  refine goodW_bool F' (gs.1.trans hg) (fun _ => rfl) ?_ gs.2
  wrow_post
