import PyProof.Rows.All
import Wide.All
import OpenK.AllK
import Wide.FinOn
import Lean
import PySem.Challenge.RW_zn0002_01
set_option Elab.async false
set_option linter.all false
set_option rowWalk.seconds 0

section
open PySem PySem.W PyProof.Rows PySem.Spec PySem.Calls
open Sem (wp)
set_option maxRecDepth 100000
namespace Mine

def decCode : Code → Bool
  | .builtin id _ => Builtin.Bytes.decodersThatHold.contains id
  | _ => false

def Calm (Γ : PySem.Ctx) : Prop := decCode Γ.code = false ∧ ∀ x ∈ Γ.below, decCode x.1 = false

theorem Calm.enter {Γ : PySem.Ctx} (h : Calm Γ) {c : Code} (hd : Option Value) (p : Pos) (hc : decCode c = false) : Calm (Γ.enter c hd p) :=
  ⟨hc, fun x hx => by
    rcases List.mem_cons.mp hx with e | e
    · subst e; exact h.1
    · exact h.2 x e⟩
theorem Calm.goto {Γ : PySem.Ctx} (h : Calm Γ) {c : Code} (hc : decCode c = false) : Calm (Γ.goto c) := ⟨hc, h.2⟩

structure calmTree {α : Type} (M : Model) (A : Around) (t : Sem α) (Q : α → Shared → Prop) (E : Value → Shared → Prop) (s : Shared) : Prop where
  run : ∀ Γ p, Γ.In A → Calm Γ → wp M Γ t (fun a _ s' => Q a s') (fun e _ s' => E e s') p s

structure calmCode (M : Model) (A : Around) (c : Code) (R : Result → Shared → Prop) (s : Shared) : Prop where
  run : ∀ Γ p, Γ.code = c → Γ.Below A → Calm Γ → wpCode M Γ R p s

section
variable {α β : Type} {M : Model} {A : Around} {E : Value → Shared → Prop} {s : Shared}

theorem calm_of {t : Sem α} {Q : α → Shared → Prop} (h : wpAny M A t Q E s) : calmTree M A t Q E s := ⟨fun Γ p hΓ _ => h Γ p hΓ⟩

theorem calm_mono {t : Sem α} {Q Q' : α → Shared → Prop} {E' : Value → Shared → Prop} (h : calmTree M A t Q E s)
    (hQ : ∀ a s, Q a s → Q' a s) (hE : ∀ e s, E e s → E' e s) : calmTree M A t Q' E' s :=
  ⟨fun Γ p hΓ hC => Sem.wp_mono M Γ t (fun a _ s => hQ a s) (fun e _ s => hE e s) p s (h.run Γ p hΓ hC)⟩

theorem calm_pure {a : α} {Q : α → Shared → Prop} (h : Q a s) : calmTree M A (pure a) Q E s := ⟨fun _ _ _ _ => h⟩

theorem calm_bind {m : Sem α} {f : α → Sem β} {Q : β → Shared → Prop} (h : calmTree M A m (fun a s' => calmTree M A (f a) Q E s') E s) :
    calmTree M A (m >>= f) Q E s := ⟨fun Γ p hΓ hC => by
  rw [Sem.wp_bind']
  exact Sem.wp_mono M Γ m (fun a p' s' h' => h'.run Γ p' hΓ hC) (fun _ _ _ h' => h') p s (h.run Γ p hΓ hC)⟩

theorem calm_any {m : Sem α} {f : α → Sem β} {Q : β → Shared → Prop} (h : wpAny M A m (fun a s' => calmTree M A (f a) Q E s') E s) :
    calmTree M A (m >>= f) Q E s := calm_bind (calm_of h)

theorem calm_onRaise {m : Sem α} {k : Value → Sem Unit} {Q : α → Shared → Prop}
    (h : calmTree M A m Q (fun e s' => wpAny M A (k e) (fun _ s'' => E e s'') E s') s) : calmTree M A (m.onRaise k) Q E s := ⟨fun Γ p hΓ hC => by
  rw [Sem.wp_onRaise]
  exact Sem.wp_mono M Γ m (fun _ _ _ h' => h') (fun e p' s' h' => h' Γ p' hΓ) p s (h.run Γ p hΓ hC)⟩

theorem calm_holding {vs : List Value} {m : Sem α} {Q : α → Shared → Prop} (h : calmTree M A m Q E s) : calmTree M A (holding vs m) Q E s :=
  ⟨fun Γ p hΓ hC => by rw [Sem.wp_holding]; exact h.run Γ p hΓ hC⟩

theorem calmCode_mono {c : Code} {R R' : Result → Shared → Prop} (h : calmCode M A c R s) (hR : ∀ r s, R r s → R' r s) : calmCode M A c R' s :=
  ⟨fun Γ p hc hΓ hC => wpCode_mono hR (h.run Γ p hc hΓ hC)⟩
theorem calmCode_of {c : Code} {R : Result → Shared → Prop} (h : codeAny M A c R s) : calmCode M A c R s := ⟨fun Γ p hc hΓ _ => h Γ p hc hΓ⟩

theorem calm_run {c : Code} {h : Option Value} {Q : Flow → Shared → Prop} (hd : decCode c = false)
    (hc : calmCode M (A.mark h) c (fun r s' => match r with | .ok f => Q f s' | .error e => E e s') s) (hnb : h ≠ some byPass := by intro x; cases x) :
    calmTree M A (run c h) Q E s :=
  ⟨fun Γ p hΓ hC => by rw [Sem.wp_run]; exact hc.run _ p rfl (hΓ.enter c h p hnb) (hC.enter h p hd)⟩

theorem calm_runValue {c : Code} {Q : Value → Shared → Prop} (hd : decCode c = false)
    (hc : calmCode M A c (fun r s' => match r with | .ok (.ret v) => Q v s' | .ok _ => False | .error e => E e s') s) :
    calmTree M A (runValue c) Q E s := ⟨fun Γ p hΓ hC => by
  rw [Sem.wp_runValue]; exact hc.run _ p rfl (hΓ.enter c none p (by intro x; cases x)) (hC.enter none p hd)⟩

theorem calm_call {f : Value} {pos : List Value} {kw : List (Str × Value)} {Q : Value → Shared → Prop}
    (hc : calmCode M A (.call f ⟨pos, kw⟩) (fun r s' => match r with | .ok (.ret v) => Q v s' | .ok _ => False | .error e => E e s') s) :
    calmTree M A (call f pos kw) Q E s := calm_runValue rfl hc

theorem calmCode_of_tree {c : Code} {R : Result → Shared → Prop}
    (h : calmTree M (A.under c) (M.den c) (fun fin s' => match fin with | .done f => R (.ok f) s' | .again c' => c'.quiet = true ∧ decCode c' = false ∧ calmCode M A c' R s')
      (fun e s' => R (.error e) s') s) : calmCode M A c R s := ⟨fun Γ p hc hΓ hC => by
  rw [wpCode_iff_wp, hc]
  refine Sem.wp_mono M Γ _ (fun fin p' s' h' => ?_) (fun _ _ _ h' => h') p s (h.run Γ p (hc ▸ hΓ.in) hC)
  cases fin with
  | done f => exact h'
  | again c' => exact ⟨h'.1, h'.2.2.run (Γ.goto c') p' rfl (hΓ.goto c') (hC.goto h'.2.1)⟩⟩

theorem calm_runOwn {c : Code} {env : Env} {h : Option Value} {Q : Flow → Shared → Prop} (hd : decCode c = false)
    (hc : calmCode M (A.mark h) c (fun r s' => match r with | .ok f => Q f s' | .error e => cameBackBy M A env E e s') s) (hnb : h ≠ some byPass := by intro x; cases x) :
    calmTree M A (runOwn c env h) Q E s := by
  unfold runOwn
  exact calm_onRaise (calm_run hd hc hnb)
end

section
variable {M : Model} {A : Around} {E : Value → Shared → Prop} {s : Shared} {env : Env}

theorem calm_execs {st : Stmt} {rest : List Stmt} {Q : Flow → Shared → Prop}
    (h : calmTree M A (exec st env) (fun f s' => match f with | .next => calmTree M A (execs rest env) Q E s' | f => Q f s') E s) :
    calmTree M A (execs (st :: rest) env) Q E s := by
  rw [execs_cons]
  refine calm_bind (calm_mono h (fun f s' h' => ?_) fun _ _ x => x)
  cases f <;> first | exact h' | exact calm_pure h'

theorem calm_execs_any {st : Stmt} {rest : List Stmt} {Q : Flow → Shared → Prop}
    (h : wpAny M A (exec st env) (fun f s' => match f with | .next => calmTree M A (execs rest env) Q E s' | f => Q f s') E s) :
    calmTree M A (execs (st :: rest) env) Q E s := calm_execs (calm_of h)

theorem calm_Assign_Name {x : Str} {pos' pos : Pos} {value : Expr} {Q : Flow → Shared → Prop}
    (h : calmTree M A (eval value env) (fun v s₁ => calmTree M A (storeName env x v) (fun _ => Q .next) E s₁) E s)
    (hs : swapsWith value (some (.Name x pos')) pos.line env = pure false := by rfl) :
    calmTree M A (exec (.Assign [.Name x pos'] value pos) env) Q E s := ⟨fun Γ p hΓ hC => by
  simp only [exec_Assign_Name env x pos' value pos hs, Sem.wp_bind', Sem.wp_cmd_standAt, Sem.wp_bindName, Sem.wp_pure']
  exact Sem.wp_mono M Γ _ (fun v _ s₁ h₁ => h₁.run Γ _ hΓ hC) (fun _ _ _ h' => h') _ _ (h.run Γ _ hΓ hC)⟩

theorem calm_BinOp {l r : Expr} {op : Operator} {pos : Pos} {Q : Value → Shared → Prop}
    (h : calmTree M A (eval l env) (fun a s₁ => calmTree M A (eval r env) (fun b s₂ => calmTree M A (binaryOp op a b) Q E s₂) E s₁) E s) :
    calmTree M A (eval (.BinOp l op r pos) env) Q E s := ⟨fun Γ p hΓ hC => by
  simp only [eval_BinOp, Sem.wp_bind', Sem.wp_holding, Sem.wp_cmd_standAt, Sem.wp_operate]
  exact Sem.wp_mono M Γ _ (fun a p₁ s₁ h₁ => Sem.wp_mono M Γ _ (fun b _ s₂ h₂ => h₂.run Γ _ hΓ hC) (fun _ _ _ h' => h') _ _ (h₁.run Γ p₁ hΓ hC)) (fun _ _ _ h' => h') _ _ (h.run Γ p hΓ hC)⟩

theorem calm_For {target iter : Expr} {body orelse : List Stmt} {pos : Pos} {Q : Flow → Shared → Prop}
    (h : wpAny M A (eval iter env) (fun x s₁ => wpAny M A (pyIter x) (fun it s₂ =>
      calmCode M A (.forLoop target it body orelse env) (fun r s' => match r with | .ok f => Q f s' | .error e => cameBackBy M A env E e s') s₂) E s₁) E s)
    (hs : ∀ x, foldedSetIterable iter env x = pure x := by intro _; rfl) :
    calmTree M A (exec (.For target iter body orelse pos) env) Q E s := by
  rw [exec_For]
  exact calm_any (wpAny_standAt (calm_any (wpAny_mono h (fun x s₁ h₁ => calm_any (wpAny_of_eq (hs x) (calm_any (wpAny_standAt (calm_any (wpAny_holding
    (wpAny_mono h₁ (fun it s₂ h₂ => calm_runOwn rfl h₂) fun _ _ h' => h'))))))) fun _ _ h' => h')))
end

section
variable {prog : Program} {w : World} {A : Around} {E : Value → Shared → Prop} {s : Shared} {env : Env}

theorem calmCode_func {body : List Stmt} {R : Result → Shared → Prop}
    (h : calmTree (model prog w) (A.deeper env) (execs body env) (fun f s' => R (.ok (.ret (match f with | .ret v => v | _ => .none))) s')
      (fun e s' => wpAny (model prog w) (A.deeper env) (leaving env e) (fun _ s'' => R (.error e) s'') (fun e' s'' => R (.error e') s'') s') s) :
    calmCode (model prog w) A (.func body env) R s := by
  refine calmCode_of_tree ?_
  show calmTree _ (A.deeper env) (do point; match ← (execs body env).onRaise (leaving env) with | .ret v => ret v | _ => ret .none) _ _ s
  refine calm_any (wpAny_point (calm_bind (calm_onRaise (calm_mono h (fun f s' h' => ?_) fun _ _ h' => h'))))
  cases f <;> exact calm_pure h'

theorem calmCode_call_function {R : Result → Shared → Prop} {a : Addr} {args : Args} {o : Obj} {fd : FuncData} {body : List Stmt} (hroom : A.depth < recursionLimit)
    (ho : s.heap.get? a = some o)
    (hd' : o.data = .func fd) (hco : fd.scope.isCoroutine = false) (hgen : fd.scope.isGenerator = false) (hbody : fd.body = .stmts body) (hcd : s.heap.CodeRec fd.code fd.qualname)
    (h : wpAny (model prog w) A.in1 (bindArgs fd args) (fun binds s₁ =>
      wpAny (model prog w) A.in1 (newFunctionEnv fd.scope fd.globals fd.closure binds (fd.qualname ++ ".<locals>.") (some a) fd.code none fd.builtins)
        (fun env s₂ => s₂.heap.NoLimit ∧ calmCode (model prog w) A (.func body env) R s₂) (fun e s' => R (.error e) s') s₁) (fun e s' => R (.error e) s') s) :
    calmCode (model prog w) A (.call (.ref a) args) R s := by
  refine calmCode_of_tree ?_
  show calmTree _ A.in1 (callAny (.ref a) args) _ _ s
  simp only [callAny]
  refine calm_any (wpAny_load ho ?_)
  obtain ⟨c, oc, vs, tq, hc, hoc, hdc, hq⟩ := hcd
  simp only [hd', callFunction, hco, hgen, hbody, hc]
  rw [hc] at h
  refine calm_any (m := field (.ref c) 1) (wpAny_field hoc hdc hq (calm_any (wpAny_pure ?_)))
  exact calm_any (wpAny_mono h (fun binds s₁ h₁ => calm_any (wpAny_mono h₁ (fun env s₂ h₂ => calm_any (wpAny_enterFrame h₂.1 hroom
    (calm_pure (And.intro rfl ⟨rfl, h₂.2⟩)))) fun _ _ h' => h')) fun _ _ h' => h')
end
end Mine
end
section
open PySem PySem.W PyProof.Rows PySem.Spec PySem.Calls
open Sem (wp)
set_option maxRecDepth 100000
namespace Mine

theorem caller_calm : Calm (⟨.builtin "claim.caller" {}, none, none, [], none⟩ : PySem.Ctx) :=
  ⟨by show Builtin.Bytes.decodersThatHold.contains "claim.caller" = false; decide +kernel, fun _ h => nomatch h⟩

theorem ends_calm {prog : Program} {w : World} {t : Sem Fin} {s : Shared} {R : Result → Shared → Prop} (hreg : s.asleep)
    (h : calmTree (model prog w) callerA t (fun fin s' => ∃ f, fin = .done f ∧ (R (.ok f) s' ∧ leftWithCleanup s'.gens = false)) (fun e s' => R (.error e) s' ∧ leftWithCleanup s'.gens = false) s) :
    ∃ n r s' s'', runN (denote table) prog w n s ⟨t, .builtin "claim.caller" {}, default, []⟩ = .halted (outcomeOf r) s' ∧
      schedN (denote table) prog w n (.single s ⟨t, .builtin "claim.caller" {}, default, []⟩) = .halted (outcomeOf r) s' ∧ s'.forget = s''.forget ∧ R r s'' := by
  have h0 : wp (model prog w) ⟨.builtin "claim.caller" {}, none, none, [], none⟩ t
      (Sem.finPost (model prog w) ⟨.builtin "claim.caller" {}, none, none, [], none⟩ fun r s' => R r s' ∧ leftWithCleanup s'.gens = false)
      (fun e _ s' => R (.error e) s' ∧ leftWithCleanup s'.gens = false) default s := by
    refine Sem.wp_mono _ _ t (fun fin p' s' h' => ?_) (fun _ _ _ h' => h') default s (h.run _ default caller_in caller_calm)
    obtain ⟨f, rfl, hf⟩ := h'
    exact hf
  obtain ⟨n, r, s₁, s₂, hs, hn, hfo, hR⟩ := wp_halts_full (M := model prog w) (R := fun r s' => R r s') hreg h0
  exact ⟨n, r, s₂, s₁, hn, hs, hfo, hR⟩

/-- what the walk has to show of the def that the law calls, in calm contexts only -/
abbrev CalmWalk (q : Program) (loose : List Str) (XP : (Str → Option Value) → Heap → Prop) (YP : World → Heap → Prop) (r : RowW) (d : DefRec) (kwd : List (Str × Expr)) : Prop :=
  ∀ (w : World) (s₀ s₁ : Shared) (mg mb : Str → Option Value), Ground q loose r.records XP w s₀ mg mb s₁.heap → YP w s₁.heap → ∀ (a : Addr) (o : Obj) (pm cd doc dV kV : Value), s₁.heap.get? a = some o →
    o.data = .func { docDef d.name d.params d.body d.scope pm cd doc with defaults := dV, kwdefaults := kV } → s₁.heap.CodeRec cd d.name → Dflts mg s₁.heap d.params kwd dV kV → mg d.name = some (.ref a) → s₁.gens = #[] →
    ∀ (args : List WData) (vals : List Value) (as : List Addr), r.claim.pre args = true → WData.layableAll args = true → ReadsAllW r.records (classAt s₀.heap) s₁.heap vals args as → WellAll w.params s₁.heap vals args → (∀ a ∈ as, (a == sysModules) = false) →
      calmCode (model r.prog w) callerA (.call (.ref a) ⟨vals, []⟩) (GoodWG r.claim (classAt s₀.heap) (ExcName.means s₀.heap) args s₁) s₁

theorem holds_calm {r : OpenRow} {q : Program} {loose : List Str} {Xt : Shared → Bool} {XP : (Str → Option Value) → Heap → Prop} {α : Type} {Yf : Shared → α} {Ya : World → α} {YP : World → Heap → Prop} {d : DefRec} {kwd : List (Str × Expr)} {N : Nat}
    (left : LeftO r.prog q loose Xt Yf Ya N) (hY : ∀ w s, Yf s = Ya w → YP w s.heap) (hYk : ∀ w h h', YP w h → (∀ b o, h.get? b = some o → h'.get? b = some o) → YP w h')
    (hX : ∀ s, Xt s = true → XP (s.heap.nsMap mainGlobals) s.heap) (hXk : ∀ mg h h', XP mg h → (∀ b o, h.get? b = some o → h'.get? b = some o) → XP mg h')
    (hdef : defOf q r.name = some (d, kwd)) (hp : r.prog.theDef r.name = some (d.params, d.body, d.scope)) (hk : kwWritten? d.params.kwonlyargs d.params.kw_defaults = some kwd) (hRf : ∀ s, Xt s = true → RecFacts r.records s.heap) (hwr : (!r.writes || r.records.isEmpty) = true)
    (k1 : r.wellSaid = true) (ok : (chainsOk q && opensWell r.prog && (frees r.toRowW && r.within.isEmpty)) = true) (hb : r.prog.bare) (hw : r.toRowW.promised)
    (call : CalmWalk q loose XP YP r.toRowW d kwd) : r.Holds := by
  obtain ⟨ok, k5⟩ := Bool.and_eq_true_iff.mp ok
  obtain ⟨hch, o1⟩ := Bool.and_eq_true_iff.mp ok
  obtain ⟨k5, k6⟩ := Bool.and_eq_true_iff.mp k5
  obtain ⟨hsame, hu, ha, hap, hm⟩ := frees_parts k5
  have hwi : r.toRowW.claim.within = [] := List.isEmpty_iff.mp k6
  have hi := ident_freeW hu ha hap
  refine ⟨k1, hw, ⟨hb, o1, by show r.makers.map _ = []; rw [hm]; rfl⟩, hw.witness, fun w => ⟨(left.behind hX hch w).1, fun s' hs' => ?_⟩⟩
  obtain ⟨s₀, hf, hg0, s, hT, hz, hgens, hg, G00, y⟩ := (left.behind (XP := fun mg h => XP mg h ∧ RecFacts r.records h) (fun s hs => ⟨hX s hs, hRf s hs⟩) hch w).2 s' hs'
  have G0 : Ground q loose [] XP w s (s.heap.nsMap mainGlobals) (s.heap.nsMap builtinsNs) s.heap := ⟨G00.T, G00.B, G00.D, G00.TE, G00.TD, G00.W, G00.X.1, G00.cls, G00.has, G00.apart, G00.once, G00.K⟩
  have RF := G00.X.2
  have hgens : s.gens = #[] := Array.eq_empty_of_size_eq_zero (beq_iff_eq.mp hgens)
  have G : Ground q loose r.records XP w s _ _ s.heap := RF.ground G0
  refine ⟨s₀, hf, hg0, s, hT, fun n hn => ?_, RF.1, RF.2.1, fun args hpre hlay ord hord => ?_⟩
  · obtain rfl : n = r.name := by split at hn <;> simp_all
    exact pinned_of_view hg G0 hdef hp hk
  obtain ⟨⟨vs, s₁⟩, hlaid⟩ := Option.isSome_iff_exists.mp (layAllW_isSome (P := w.params) (ord := ord) G.has args r.args s (pre_splitW hpre).1)
  have keeps := layAllW_keeps _ _ _ hlaid
  have hal := layAllW_rest _ _ _ hlaid
  obtain ⟨as, hrd, hin, hold⟩ := reads_layAllW hord _ _ _ hlaid hlay s₁.heap (fun _ _ e => e)
  have L : Laid r.records w s s₁ args vs as := ⟨⟨ord, hord, hlaid⟩, hrd, hin, hold, keeps, hal.1.trans hgens, hal.2.2.1⟩
  have G₁ := G.keeps hXk keeps
  obtain ⟨a, o, pm, cd, doc, dV, kV, h1, h2, h3, h4, h5⟩ := G₁.fn hdef
  have hc := call w s s₁ _ _ G₁ (hYk _ _ _ (hY w s y) keeps) a o pm cd doc dV kV h2 h3 h4 h5 (defOf_name hdef ▸ h1) L.gens args vs as hpre hlay L.reads L.well (L.low G.low)
  obtain ⟨k, res, s', s'', hrun, hsched, hfo, hcase, hos, hkp⟩ := ends_calm (prog := r.prog) (w := w) (s := s₁)
    (t := do match ← nsGet mainNs r.name with
      | some f => do ret (← PySem.call f vs)
      | none => unsupported "claim.caller:no-such-global")
    (R := fun res s' => r.toRowW.claim.Ends s args vs s₁ res s' ∧ s'.os = s.os ∧ (r.writes = true → namesKept r.prog r.keeps s.heap s'.heap ∧ ∀ x ∈ r.records, ∀ a, classAt s.heap x.1 = some a → recordClass s'.heap a x.1 (x.2.map (·.1)) = true))
    (Shared.asleep_of_life hal.2.2.2 hz) (by
      refine calm_any (wpAny_nsGet G₁.T.g ?_)
      rw [h1]
      refine calm_bind (calm_call (calmCode_mono hc fun res s' g => ?_))
      have z := g.laid (c := r.toRowW.claim) hsame hwi hi L
      have kp : r.writes = true → namesKept r.prog r.keeps s.heap s'.heap ∧ ∀ x ∈ r.records, ∀ a, classAt s.heap x.1 = some a → recordClass s'.heap a x.1 (x.2.map (·.1)) = true :=
        fun q => ⟨namesKept_of hT hg r.keeps keeps g.2.1.old, noTable hwr q⟩
      rcases g.1 with ⟨v, _, _, rfl, _⟩ | ⟨e, _, _, rfl, _⟩
      · exact calm_pure ⟨_, rfl, ⟨z.1, z.2.1, kp⟩, leftWithCleanup_false_of_bare z.2.2⟩
      · exact ⟨⟨z.1, z.2.1, kp⟩, leftWithCleanup_false_of_bare z.2.2⟩)
  obtain ⟨eh, _, _, eo, _⟩ := Shared.forget_eq hfo
  have hcase := hcase.congr eh
  rw [← eh] at hkp
  rw [← eo] at hos
  have hlife : s'.heap.life = s.heap.life := (runN_life _ _ _ hrun).trans hal.2.2.2
  refine ⟨vs, s₁, hlaid, k, _, s', hsched, ?_, (fun _ i x hx => by rw [hgens] at hx; simp at hx), hkp, by rw [hlife], Shared.rest_eq hos⟩
  rcases hcase with ⟨v, rfl, d1, d2, d3, d4, d5⟩ | ⟨e, ob, cls, rfl, d1, d2, d3, d4, d5⟩
  · exact .inl ⟨v, rfl, d1, d2, d3, fun b o y _ => d4 b o y, d5⟩
  · exact .inr ⟨e, ob, cls, rfl, d1, d2, d3, d4, fun b o y _ => d5 b o y⟩
end Mine
end
section
open PySem PySem.W PyProof.Rows
namespace Mine
/-- the kit's head tactic names its lemma; inside this namespace that name means the calm one -/
abbrev PySem.W.holds_open := @holds_calm
set_option maxRecDepth 100000 in
set_option maxHeartbeats 8000000 in
open_top hd for PySem.Challenge.rw_zn0002_01
end Mine
end
section
open PySem PySem.W PyProof.Rows PySem.Spec PySem.Calls
open Sem (wp)
set_option maxRecDepth 100000
namespace Mine

theorem no_guard {l : List (Code × Pos)} (h : guardsOf l = []) : ∀ x ∈ l, x.1.isGuard = false := by
  intro x hx
  cases hg : x.1.isGuard with
  | false => rfl
  | true =>
    have : x.1 ∈ guardsOf l := by
      unfold guardsOf
      exact List.mem_filter.mpr ⟨List.mem_map_of_mem hx, hg⟩
    rw [h] at this; cases this

section
variable {M : Model} {A : Around} {E : Value → Shared → Prop} {s : Shared}
theorem calm_exported {self : Value} {Q : Bool → Shared → Prop} (hg : A.guards = some []) (h : Q false s) : calmTree M A (Builtin.Bytes.exported self) Q E s := ⟨fun Γ p hΓ hC => by
  have gs : guardsOf ((Γ.code, p) :: Γ.below) = [] := by rw [guardsOf_cons]; exact hΓ.2.2.2.1 [] hg
  have ng := no_guard gs
  have nd : ∀ x ∈ (Γ.code, p) :: Γ.below, decCode x.1 = false := fun x hx => by
    rcases List.mem_cons.mp hx with e | e
    · subst e; exact hC.1
    · exact hC.2 x e
  unfold Builtin.Bytes.exported
  show Q (List.any ((Γ.code, p) :: Γ.below) _) s
  rw [List.any_eq_false.mpr]
  · exact h
  · intro x hx
    have h1 := ng x hx
    have h2 := nd x hx
    obtain ⟨c, q⟩ := x
    simp only at h1 h2
    split
    case h_6 =>
      rename_i heq
      cases heq
      simp only [decCode] at h2
      rw [h2, Bool.and_false]
      exact Bool.false_ne_true
    case h_7 => exact Bool.false_ne_true
    all_goals
      rename_i heq
      cases heq
      simp only [Code.isGuard] at h1
      exact absurd h1 (by decide +kernel)⟩
end

section
variable {prog : Program} {w : World} {A : Around} {E : Value → Shared → Prop} {s : Shared} {R : Result → Shared → Prop}

abbrev calmFin (M : Model) (A : Around) (R : Result → Shared → Prop) (fin : Fin) (s' : Shared) : Prop :=
  match fin with | .done f => R (.ok f) s' | .again c' => c'.quiet = true ∧ decCode c' = false ∧ calmCode M A c' R s'

theorem calmCode_builtin {id : String} {args : Args} {b : Builtin} (hb : entryFor table id = some b)
    (h : calmTree (model prog w) (A.under (.builtin id args)) (b args) (calmFin (model prog w) A R) (fun e s' => R (.error e) s') s) :
    calmCode (model prog w) A (.builtin id args) R s := by
  refine calmCode_of_tree ?_
  show calmTree _ _ (match entryFor table id with | some b => b args | none => unsupported ((withoutEnding? id "#data").getD id)) _ _ s
  rw [hb]; exact h

theorem calmCode_call_builtin {id : String} {args : Args} {b : Builtin} (hq : plainId id = true) (hd : Builtin.Bytes.decodersThatHold.contains id = false) (hb : entryFor table id = some b)
    (h : wpAny (model prog w) A.in1 (checkBuiltinCall id args) (fun _ s₁ => calmTree (model prog w) A.in1 (b args) (calmFin (model prog w) A R) (fun e s' => R (.error e) s') s₁)
      (fun e s' => R (.error e) s') s) : calmCode (model prog w) A (.call (.builtin id) args) R s := by
  refine calmCode_of_tree ?_
  show calmTree _ A.in1 (do checkBuiltinCall id args; again (.builtin id args)) _ _ s
  refine calm_any (wpAny_mono h (fun _ s₁ h₁ => calm_pure ⟨plainId_quiet hq args, hd, calmCode_builtin hb ?_⟩) fun _ _ x => x)
  rw [Around.under_plainId hq args]
  exact h₁

theorem calm_slot {self : Value} {T : String} {name : Str} {id : String} {args : List Value} {kw : List (Str × Value)}
    {Q : Option Value → Shared → Prop} (hT : s.TypeIs self T) (h : Slot T name id)
    (hc : calmTree (model prog w) A (call (.builtin id) (self :: args) kw) (fun v => Q (some v)) E s) : calmTree (model prog w) A (callSpecial? self name args kw) Q E s := by
  simp only [callSpecial?]
  refine calm_any (wpAny_specialOf hT h.lookup ?_)
  simp only [h.bind]
  exact calm_holding (calm_any (wpAny_pure (calm_bind (calm_mono hc (fun v s' h' => calm_pure h') fun _ _ h' => h'))))

theorem calm_callType {T newId initId : String} {Bi : Builtin} {args : List Value} {Q Q₁ : Value → Shared → Prop} (ft : TypeCalled T newId initId)
    (hct : checkTypeCall T ⟨args, []⟩ = pure ()) (entryI : entryFor table initId = some Bi) (hdi : Builtin.Bytes.decodersThatHold.contains initId = false)
    (hnew : codeAny (model prog w) A.in1 (.call (.builtin newId) ⟨.type T :: args, []⟩) (wants Q₁ E) s)
    (hnext : ∀ obj s₁, Q₁ obj s₁ → s₁.TypeIs obj T ∧ argsOk initId ⟨obj :: args, []⟩ ∧
      calmTree (model prog w) A.in1.in1 (Bi ⟨obj :: args, []⟩)
        (fun fin s' => match fin with | .done f => wants (fun r s₂ => r = .none ∧ Q obj s₂) E (.ok f) s' | .again c' => False)
        (fun e s' => wants (fun r s₂ => r = .none ∧ Q obj s₂) E (.error e) s') s₁) :
    calmTree (model prog w) A (call (.type T) args) Q E s := by
  obtain ⟨c, tl, hmro⟩ := ft.mro
  have hmade := ft.made
  have hsub := ft.sub
  refine calm_call (calmCode_of_tree ?_)
  show calmTree _ A.in1 (callAny (.type T) _) _ _ _
  refine calm_pure ⟨Code.quiet_builtin _ (by decide +kernel), by show Builtin.Bytes.decodersThatHold.contains "type.__call__" = false; decide +kernel, calmCode_builtin F.entry_type_call ?_⟩
  rw [Around.under_plain (weight_type_call_type T args []) rfl]
  have h1 := ft.notType
  have h2 := ft.canCreate
  unfold Builtin.«type.__call__»
  simp only [h1, h2, hct, hmro, hmade, Bool.false_eq_true, if_false, pure_bind, List.isEmpty_cons]
  refine calm_any (wpAny_holding (wpAny_call (codeAny_mono hnew fun r s₁ hr => ?_)))
  cases r with
  | error e => exact hr
  | ok fl =>
    cases fl with
    | ret obj =>
      obtain ⟨hT, hok, hsi⟩ := hnext _ _ hr
      refine calm_any (wpAny_isInstance hT hsub ?_)
      simp only [Bool.not_true, Bool.false_eq_true, if_false]
      refine calm_bind (calm_holding (calm_slot hT ft.init (calm_call (calmCode_mono (R := wants (fun r s₂ => r = .none ∧ Q obj s₂) E)
        (calmCode_call_builtin ft.init.plain hdi entryI (ft.init.check _ _ _ _ _ _ _ _ hT hok (calm_mono hsi (fun fin s' h' => ?_) fun _ _ x => x))) fun r₂ s₂ hr₂ => ?_))))
      · cases fin with
        | done f => exact h'
        | again c' => exact h'.elim
      · cases r₂ with
        | error e => exact hr₂
        | ok fl₂ =>
          cases fl₂ with
          | ret r =>
            obtain ⟨rfl, hq⟩ := hr₂
            exact calm_pure hq
          | _ => exact hr₂.elim
    | _ => exact hr.elim
end
end Mine
end
section
open PySem PySem.W PyProof.Rows PySem.Spec PySem.Calls
open Sem (wp)
set_option maxRecDepth 100000
namespace Mine

theorem ba_mro : mroOf (.type "bytearray") = pure [.type "bytearray", .type "object"] := by rw [mroOf_type]; kernel_rfl
theorem ba_lookup_new : typeLookup (.type "bytearray") "__new__" = pure (some (.builtin "bytearray.__new__")) := by rw [typeLookup_type, builtinLookup_eq_fast]; kernel_rfl
theorem ba_slot_init : Slot "bytearray" "__init__" "bytearray.__init__" :=
  .of (owner := "bytearray") (n := "__init__") (by rw [typeLookup_type, builtinLookup_eq_fast]; kernel_rfl) (by decide +kernel) (by decide +kernel) (by decide +kernel)
    (by first | exact .inl (by decide +kernel) | exact .inr (by decide +kernel)) (by rw [isSubtype_type]; kernel_rfl)
theorem ba_called : TypeCalled "bytearray" "bytearray.__new__" "bytearray.__init__" :=
  ⟨by decide +kernel, by decide +kernel, ⟨_, _, ba_mro⟩, madeBy_type ba_mro ba_lookup_new (by decide +kernel), by decide +kernel, by rw [isSubtype_type]; kernel_rfl, ba_slot_init⟩
theorem ba_typeCall (a : Value) : checkTypeCall "bytearray" ⟨[a], []⟩ = pure () := by kernel_rfl
theorem ba_newCall (a : Value) : checkBuiltinCall "bytearray.__new__" ⟨[.type "bytearray", a], []⟩ = pure () := by kernel_rfl
theorem ba_entry_new : entryFor table "bytearray.__new__" = some Builtin.«list.__new__» := entryFor_alias (id' := "list.__new__") (by rw [fastTable_eq_tree]; kernel_rfl) (by first | rfl | decide +kernel) (by decide +kernel) (by rw [fastTable_eq_tree]; kernel_rfl)
theorem ba_entry_init : entryFor table "bytearray.__init__" = some Builtin.«bytearray.__init__» := entryFor_of_tree (by kernel_rfl)
theorem ba_plain_new : plainId "bytearray.__new__" = true := by decide +kernel
theorem ba_sub : isSubtype (.type "bytearray") (.type "bytearray") = pure true := by rw [isSubtype_type]; kernel_rfl
theorem ba_bind (v : Value) : Builtin.Bytes.bindOptional "bytearray.__init__" "bytearray" ["source", "encoding", "errors"] [v] [] = pure [some v, none, none] := by kernel_rfl
theorem ba_init_ok (obj : Value) (i : Int) (t : Tok) : argsOk "bytearray.__init__" ⟨[obj, .int i t], []⟩ := by
  first | exact .inl (by rfl) | exact .inr (by rfl) | (unfold argsOk; trivial) | (unfold argsOk; decide +kernel)
theorem ba_nodec : Builtin.Bytes.decodersThatHold.contains "bytearray.__init__" = false := by decide +kernel

theorem ba_lookup_release : typeLookup (.type "bytearray") "__release_buffer__" = pure (some (.builtin "bytearray.__release_buffer__")) := by rw [typeLookup_type, builtinLookup_eq_fast]; kernel_rfl
theorem ba_release_id : (do
    if (!("bytearray.__release_buffer__".endsWith ("." ++ "__release_buffer__"))) = true then return false
    isInstance (.ref a) (.type ("bytearray.__release_buffer__".dropRight ("__release_buffer__".length + 1))) : Sem Bool) = isInstance (.ref a) (.type "bytearray") := by
  have h1 : ("bytearray.__release_buffer__".endsWith ("." ++ "__release_buffer__")) = true := by decide +kernel
  have h2 : "bytearray.__release_buffer__".dropRight ("__release_buffer__".length + 1) = "bytearray" := by decide +kernel
  rw [h1, h2]; rfl
theorem ba_lookup_index : typeLookup (.type "int") "__index__" = pure (some (.builtin "int.__index__")) := by rw [typeLookup_type, builtinLookup_eq_fast]; kernel_rfl

abbrev baObj (b : Array UInt8) : Obj := { cls := .type "bytearray", data := .bytearray b }

section
variable {prog : Program} {w : World} {A : Around} {E : Value → Shared → Prop} {s : Shared}
theorem ba_new (a : Value) {Q₁ : Value → Shared → Prop} (h : Q₁ (.ref s.heap.objs.size) { s with heap := s.heap.push (baObj #[]) }) :
    codeAny (model prog w) A (.call (.builtin "bytearray.__new__") ⟨[.type "bytearray", a], []⟩) (wants Q₁ E) s := by
  refine codeAny_of_tree ?_
  show wpAny _ A.in1 (do checkBuiltinCall "bytearray.__new__" ⟨[.type "bytearray", a], []⟩; again (.builtin "bytearray.__new__" ⟨[.type "bytearray", a], []⟩)) _ _ s
  refine wpAny_bind (wpAny_of_eq (ba_newCall a) (wpAny_pure ⟨plainId_quiet ba_plain_new _, codeAny_builtin_stack ba_entry_new rfl fun p st => ?_⟩))
  rw [Around.under_plainId ba_plain_new _]
  have hsub := ba_sub
  obtain ⟨hp, g, d, tk, os⟩ := s
  simp only [split_bytearray, List.headD_cons]
  wp_walk
  exact h

theorem ba_release {a : Addr} {b : Array UInt8} (ho : s.heap.get? a = some (baObj b)) {Q : Bool → Shared → Prop} (h : Q false s) : wpAny (model prog w) A (Builtin.Bytes.ownRelease (.ref a)) Q E s := by
  have hT : s.TypeIs (.ref a) "bytearray" := ⟨_, ho, rfl⟩
  have hsub := ba_sub
  unfold Builtin.Bytes.ownRelease Builtin.Bytes.slotIsOwn
  refine wpAny_bind (wpAny_bind (wpAny_specialOf hT ba_lookup_release ?_))
  simp only [ba_release_id]
  refine wpAny_isInstance hT hsub ?_
  exact wpAny_pure h

theorem ba_write {a : Addr} {b : Array UInt8} {f : Array UInt8 → Array UInt8} {Q : Unit → Shared → Prop} (ho : s.heap.get? a = some (baObj b)) (hz : (f b).size ≤ 1000)
    (h : ∀ h', Heap.SameBut a s.heap h' → h'.get? a = some (baObj (f b)) → Q () { s with heap := h' }) : wpAny (model prog w) A (Builtin.Bytes.write (.ref a) f) Q E s := by
  show wpAny _ _ (updateBytearray a f) _ _ _
  unfold updateBytearray
  refine wpAny_bind (wpAny_load ho ?_)
  show wpAny _ _ (update a (Obj.mapBytearray f) >>= fun _ => lookBehind a) _ _ _
  refine wpAny_bind (wpAny_update ho ?_)
  have hS : (s.heap.update a (Obj.mapBytearray f)).get? a = some (baObj (f b)) := Heap.get?_update_self (Obj.mapBytearray f) ho rfl
  refine wpAny_lookBehind hS ?_ (h _ (Heap.SameBut.update ..) hS)
  show (if (f b).size > sizeLine then some "bytearray:memory" else none) = none
  rw [if_neg]
  unfold sizeLine
  omega

theorem ba_init {i : Int} {t : Tok} {a : Addr} (hg : A.guards = some []) (ho : s.heap.get? a = some (baObj #[])) (h0 : 0 < i) (h1 : i < 1000) {Q : Value → Shared → Prop}
    (h : ∀ h', Heap.SameBut a s.heap h' → h'.get? a = some (baObj (Array.replicate i.toNat 0)) → Q (.ref a) { s with heap := h' }) :
    calmTree (model prog w) A (Builtin.«bytearray.__init__» ⟨[.ref a, .int i t], []⟩)
        (fun fin s' => match fin with | .done f => wants (fun r s₂ => r = .none ∧ Q (.ref a) s₂) E (.ok f) s' | .again c' => False)
        (fun e s' => wants (fun r s₂ => r = .none ∧ Q (.ref a) s₂) E (.error e) s') s := by
  unfold Builtin.«bytearray.__init__»
  simp only [ba_bind, pure_bind]
  refine calm_any (ba_release ho ?_)
  simp only [Bool.false_eq_true, if_false]
  refine calm_any (wpAny_of_eq (a := ()) rfl ?_)
  refine calm_any (wpAny_of_eq (a := ()) rfl ?_)
  refine calm_bind (calm_bind (calm_exported hg ?_))
  refine calm_of (wpAny_bind (m := Builtin.Bytes.exportsOf (Value.ref a)) ?_)
  unfold Builtin.Bytes.exportsOf
  refine wpAny_bind (wpAny_load ho (wpAny_pure (wpAny_pure ?_)))
  simp only [gt_iff_lt, Nat.lt_irrefl, decide_false, Bool.false_eq_true, if_false]
  refine calm_of (wpAny_bind (ba_write ho (by simp) fun h₁ k₁ e₁ => ?_))
  have hT : ∀ s : Shared, s.TypeIs (.int i t) "int" := fun s => rfl
  refine wpAny_bind (wpAny_of_eq (a := none) rfl ?_)
  simp only [Option.isSome_none, Bool.false_eq_true, if_false]
  refine wpAny_bind (wpAny_pure ?_)
  refine wpAny_bind (wpAny_specialOf (hT _) ba_lookup_index ?_)
  simp only [Option.isSome_some, if_true]
  refine wpAny_bind (wpAny_attempt (wpAny_of_eq (a := i) rfl ?_))
  have g1 : (!Builtin.Bytes.fitsIndex i) = false := by
    unfold Builtin.Bytes.fitsIndex; simp; omega
  have g2 : ¬ (i < 0) := by omega
  have g3 : (i == 2 ^ 63 - 1) = false := by simp; omega
  have g4 : Builtin.Bytes.tooLong i.toNat = false := by unfold Builtin.Bytes.tooLong sizeLine; simp; omega
  simp only [g1, g2, g3, g4, h0, Bool.false_eq_true, if_false, gt_iff_lt, if_true]
  refine wpAny_bind (wpAny_rule ?_)
  refine wpAny_bind (ba_write e₁ (by simp; omega) fun h₂ k₂ e₂ => ?_)
  exact wpAny_pure ⟨rfl, h h₂ (k₁.trans k₂) e₂⟩

theorem calm_bytearray {i : Int} {t : Tok} (hg : A.guards = some []) (h0 : 0 < i) (h1 : i < 1000) {Q : Value → Shared → Prop}
    (h : ∀ h', (∀ b o, s.heap.get? b = some o → h'.get? b = some o) → h'.get? s.heap.objs.size = some (baObj (Array.replicate i.toNat 0)) → Q (.ref s.heap.objs.size) { s with heap := h' }) :
    calmTree (model prog w) A (call (.type "bytearray") [.int i t]) Q E s := by
  refine calm_callType (Q₁ := fun obj s₁ => obj = .ref s.heap.objs.size ∧ s₁ = { s with heap := s.heap.push (baObj #[]) }) ba_called (ba_typeCall _) ba_entry_init ba_nodec
    (ba_new _ ⟨rfl, rfl⟩) fun obj s₁ h₁ => ?_
  obtain ⟨rfl, rfl⟩ := h₁
  have ho : (s.heap.push (baObj #[])).get? s.heap.objs.size = some (baObj #[]) := Heap.get?_push_size _ rfl
  have ho' : ({ s with heap := s.heap.push (baObj #[]) } : Shared).heap.get? s.heap.objs.size = some (baObj #[]) := ho
  refine ⟨⟨_, ho, rfl⟩, ba_init_ok _ _ _, ba_init (A := A.in1.in1) (s := { s with heap := s.heap.push (baObj #[]) }) (a := s.heap.objs.size) hg ho' h0 h1 fun h' k e => h h' (fun b o eb => ?_) e⟩
  exact (k.2 b (Nat.ne_of_lt (Heap.lt_size eb))).trans (Heap.get?_push_of_some _ eb)

theorem calm_bytearray_K {i : Int} {t : Tok} {h₀ : Heap} {L : Addr} {m : Str → Option Value} {news : List (Addr × Obj)} (F : Fr h₀ L s.heap m) (N : News h₀ L s.heap news)
    (hg : A.guards = some []) (h0 : 0 < i) (h1 : i < 1000) {Q : Value → Shared → Prop}
    (h : ∀ a h', Fr h₀ L h' m → News h₀ L h' ((a, baObj (Array.replicate i.toNat 0)) :: news) → (∀ p ∈ news, p.1 < a) → Q (.ref a) { s with heap := h' }) :
    calmTree (model prog w) A (call (.type "bytearray") [.int i t]) Q E s := by
  refine calm_bytearray hg h0 h1 fun h' k e => ?_
  have hnew : h₀.get? s.heap.objs.size = none := by
    cases hq : h₀.get? s.heap.objs.size with
    | none => rfl
    | some o => exact absurd (Heap.lt_size (F.keep _ o hq)) (Nat.lt_irrefl _)
  refine h s.heap.objs.size h' ?_ ?_ fun p hp => Heap.lt_size (N p hp).1
  · obtain ⟨oL, es, ep, hL, r1, r2, r3⟩ := F.ns
    exact ⟨⟨oL, es, ep, k _ _ hL, r1, r2, r3⟩, fun b o eb => k _ _ (F.keep b o eb), F.above⟩
  · intro p hp
    rcases List.mem_cons.mp hp with e' | e'
    · subst e'
      exact ⟨e, Nat.ne_of_gt F.ns.lt, hnew⟩
    · exact ⟨k _ _ (N p e').1, (N p e').2⟩
end
end Mine
end
section
open PySem PySem.W PyProof.Rows PySem.Spec PySem.Calls
open Sem (wp)
set_option maxRecDepth 100000
namespace Mine

section
variable {M : Model} {A : Around} {E : Value → Shared → Prop} {s : Shared} {env : Env}
theorem calm_keep {α : Type} {vs : List Value} {m : Sem α} {Q : α → Shared → Prop} (h : calmTree M A m Q E s) : calmTree M A (m.keep vs) Q E s :=
  ⟨fun Γ p hΓ hC => by rw [Sem.wp_keep]; exact h.run Γ p hΓ hC⟩

theorem calm_ite {α : Type} {c : Prop} [Decidable c] {a b : Sem α} {Q : α → Shared → Prop} (ha : calmTree M A a Q E s) (hb : calmTree M A b Q E s) : calmTree M A (if c then a else b) Q E s := by
  split
  · exact ha
  · exact hb

theorem calm_operate {vs : List Value} {m : Sem Value} {Q : Value → Shared → Prop} (h : calmTree M A m Q E s) : calmTree M A (operate vs m) Q E s :=
  ⟨fun Γ p hΓ hC => by rw [Sem.wp_operate]; exact h.run Γ p hΓ hC⟩

theorem calm_tail {t : Sem Value} {Q : Value → Shared → Prop} (h : calmTree M A t Q E s) : calmTree M A (t >>= fun r => holding [r] point >>= fun _ => pure r) Q E s :=
  calm_bind (calm_mono h (fun r s₂ hr => calm_of (wpAny_bind (wpAny_holding (wpAny_point (wpAny_pure hr))))) fun _ _ x => x)

/-- a plain call by name of a def of the text, one argument or more -/
theorem calm_callFn {id : Str} {p pos : Pos} {e : Expr} {rest : List Expr} {a : Addr} {Q : Value → Shared → Prop}
    (h : wpAny M A (eval (.Name id p) env) (fun f s₁ => f = .ref a ∧ wpAny M A (spliced (backTo pos (starEach (e :: rest) env)))
      (fun vs s₂ => (∃ o fd, s₂.heap.get? a = some o ∧ o.data = .func fd) ∧ calmTree M A (call (.ref a) vs) Q E s₂) E s₁) E s)
    (he : starEach (e :: rest) env = (false, eval e env) :: starEach rest env := by rfl) :
    calmTree M A (eval (.Call (.Name id p) (e :: rest) [] pos) env) Q E s := by
  rw [arm_eval_Call_Name']
  refine calm_any (wpAny_mono h (fun f s₁ h₁ => ?_) fun _ _ x => x)
  obtain ⟨rfl, h₁⟩ := h₁
  rw [he] at h₁ ⊢
  show calmTree M A (callWith pos (.ref a) [] ((false, _) :: _) []) Q E s₁
  unfold callWith
  refine calm_any (wpAny_holding (evalArgs_plain (wpAny_mono h₁ (fun vs s₂ h₂ => ?_) fun _ _ x => x)))
  refine calm_any (wpAny_standAt ?_)
  obtain ⟨⟨o, fd, ho, hd⟩, h₂⟩ := h₂
  simp only [List.nil_append]
  refine calm_any (m := keeperOf (.ref a)) ?_
  unfold keeperOf
  refine wpAny_bind (wpAny_load ho ?_)
  rw [hd]
  refine wpAny_pure ?_
  generalize ((List.any _ _ || List.any _ _ : Bool)) = b
  cases b with
  | true => exact calm_tail (calm_keep h₂)
  | false =>
    exact calm_ite (calm_tail h₂) (calm_tail (calm_keep h₂))

/-- a call by name of a built-in type with one argument or more -/
theorem calm_callTy {T : String} {id : Str} {p pos : Pos} {e : Expr} {rest : List Expr} {Q : Value → Shared → Prop}
    (h : wpAny M A (eval (.Name id p) env) (fun f s₁ => f = .type T ∧ wpAny M A (spliced (backTo pos (starEach (e :: rest) env)))
      (fun vs s₂ => calmTree M A (call (.type T) vs) Q E s₂) E s₁) E s)
    (he : starEach (e :: rest) env = (false, eval e env) :: starEach rest env := by rfl)
    (hplain : (backTo pos (starEach rest env)).any (·.1) = false := by rfl) :
    calmTree M A (eval (.Call (.Name id p) (e :: rest) [] pos) env) Q E s := by
  rw [arm_eval_Call_Name']
  refine calm_any (wpAny_mono h (fun f s₁ h₁ => ?_) fun _ _ x => x)
  obtain ⟨rfl, h₁⟩ := h₁
  have hp : (backTo pos (starEach (e :: rest) env)).any (·.1) = false := by
    rw [he]
    show (false || (backTo pos (starEach rest env)).any (·.1)) = false
    rw [hplain]; rfl
  rw [he] at h₁ hp ⊢
  show calmTree M A (callWith pos (.type T) [] (backTo pos ((false, eval e env) :: starEach rest env)) []) Q E s₁
  unfold callWith
  refine calm_any (wpAny_holding (evalArgs_plain (wpAny_mono h₁ (fun vs s₂ h₂ => ?_) fun _ _ x => x)))
  refine calm_any (wpAny_standAt ?_)
  simp only [List.nil_append, hp, List.any_nil, Bool.or_false]
  refine calm_any (wpAny_pure ?_)
  exact calm_tail h₂
end
end Mine
end
section
open PySem PySem.W PyProof.Rows PySem.Spec PySem.Calls
open Sem (wp)
set_option maxRecDepth 100000
namespace Mine

abbrev Nope : Value → Shared → Prop := fun _ _ => False
abbrev onlyRet (R : Value → Shared → Prop) (r : Result) (s' : Shared) : Prop := match r with | .ok (.ret v) => R v s' | _ => False

section
variable {prog : Program} {w : World} {A₀ A : Around} {s : Shared} {base h₀ : Heap} {outer : List Env} {L : Addr} {m mg mb : Str → Option Value} {news : List (Addr × Obj)} {K : Frag} {p : Program} {loose : List Str} {mean : ExcName → Option Value}
  {R : Result → Shared → Prop} {name qual : Str} {params : Arguments} {body : List Stmt} {scope : Scope} {dV kV doc pm cdv ct oc : Value} {an od : Option Addr} {osl : Array (Option Value)} {f : Addr} {args : Args} {binds : List (Str × Value)} {env : Env}

/-- entering a def of the text whose scope has no cell -/
theorem calm_def (B : Below A₀ base outer h₀) (F : Fr h₀ L s.heap m) (X₀ : K.In h₀) (N : News h₀ L s.heap news) (T : Top p loose mean mg mb h₀) (hA : A.frames = some (env :: outer)) (hf : env.frame = some L) (hke : env.scope.kind = .function)
    (ho : K.lookup f = some ⟨oc, od, .func (fnOf name qual params body scope dV kV doc pm an cdv ct), osl⟩) (hcd : codeIn K cdv qual = true) (hroom : A.depth < recursionLimit)
    (hbind : BindsTo s (fnOf name qual params body scope dV kV doc pm an cdv ct) args binds) (hloc : ∀ y ∈ binds, scope.names.lookup y.1 = some .local)
    (h : ∀ g L' h₁, Fr h₀ L g m → Fr g L' h₁ (fun y => binds.reverse.lookup y) → News g L' h₁ news → Below A base (env :: outer) g → K.In g → Top p loose mean mg mb g → (∀ p ∈ news, p.1 < L') →
      calmTree (model prog w) (A.deeper (envOf qual scope L' f cdv)) (execs body (envOf qual scope L' f cdv))
        (fun fl s' => LeaveK h₀ L m g R (match fl with | .ret v => v | _ => .none) s') Nope
        { s with heap := h₁, toks := s.toks + binds.length })
    (hcell : ∀ x ∈ scope.names, x.2 ≠ .cell) (hco : scope.isCoroutine = false) (hgen : scope.isGenerator = false) (hk : scope.kind = .function) : calmCode (model prog w) A (.call (.ref f) args) R s := by
  obtain ⟨FG, BG, st, lv⟩ := groundX (R := R) B F N hA hf hke
  refine calmCode_call_function hroom ((X₀.keeps F.keep) _ _ ho) rfl hco hgen rfl (codeRec_of (X₀.keeps F.keep) hcd) (hbind _ _ _ _ ?_)
  refine wpAny_newFunctionEnv hcell hloc (fun h₁ hns hsb => ⟨(T.nolimit.keeps F.keep).fresh _ hsb, calmCode_func ?_⟩) hk
  have hk₁ : ∀ b o, s.heap.get? b = some o → h₁.get? b = some o := fun b o e => hsb.extBut b o (Nat.ne_of_lt (Heap.lt_size e)) (Heap.get?_push_of_some _ e)
  exact calm_mono (h _ s.heap.objs.size h₁ FG ⟨hns, fun b o e => hk₁ b o (of_hideAll _ e), Nat.le_of_eq (hideAll_size _ _)⟩
    (fun p hp => ⟨hk₁ _ _ (N p hp).1, Nat.ne_of_lt (Heap.lt_size (N p hp).1), hideAll_none _ (List.mem_map_of_mem hp)⟩) BG (X₀.keeps st) (T.keeps st) (fun p hp => Heap.lt_size (N p hp).1)) (fun fl s' hl => lv _ _ hl) fun _ _ y => y.elim

/-- entering a def of the text that has cells -/
theorem calm_defC (B : Below A₀ base outer h₀) (F : Fr h₀ L s.heap m) (X₀ : K.In h₀) (N : News h₀ L s.heap news) (T : Top p loose mean mg mb h₀) (hA : A.frames = some (env :: outer)) (hf : env.frame = some L) (hke : env.scope.kind = .function)
    (ho : s.heap.get? f = some ⟨oc, od, .func (fnOf name qual params body scope dV kV doc pm an cdv ct), osl⟩) (hcd : s.heap.CodeRec cdv qual) (hroom : A.depth < recursionLimit)
    (hbind : BindsTo s (fnOf name qual params body scope dV kV doc pm an cdv ct) args binds) (hkind : (binds.all fun y => scope.names.lookup y.1 == some .local || scope.names.lookup y.1 == some .cell) = true)
    (hnd : ((cellsFrom 0 scope.names []).map (·.1)).Nodup)
    (h : ∀ g L' h₁ tk cells, Fr h₀ L g m → Fr g L' h₁ (bindL (envOfC qual scope L' f cdv).kindOf binds fun _ => none) → News g L' h₁ (cells ++ news) →
      CellsAre (bindC (envOfC qual scope L' f cdv).kindOf binds fun _ => none) (cellsFrom (L' + 1) scope.names []) cells → Below A base (env :: outer) g → K.In g → Top p loose mean mg mb g → (∀ p ∈ news, p.1 < L') →
      calmTree (model prog w) (A.deeper (envOfC qual scope L' f cdv)) (execs body (envOfC qual scope L' f cdv))
        (fun fl s' => LeaveK h₀ L m g R (match fl with | .ret v => v | _ => .none) s') Nope
        { s with heap := h₁, toks := tk })
    (hco : scope.isCoroutine = false) (hgen : scope.isGenerator = false) (hk : scope.kind = .function) : calmCode (model prog w) A (.call (.ref f) args) R s := by
  obtain ⟨FG, BG, st, lv⟩ := groundX (R := R) B F N hA hf hke
  refine calmCode_call_function hroom ho rfl hco hgen rfl hcd (hbind _ _ _ _ ?_)
  refine wpAny_newFunctionEnv_cells hk (kindsX hkind _) fun env' he s' x => ?_
  subst he
  refine ⟨(T.nolimit.keeps F.keep).keeps x.toInCall.keep, calmCode_func ?_⟩
  obtain ⟨h₁, tk, rfl, _⟩ := x.done
  have hk₁ := x.toInCall.keep
  obtain ⟨cells, NC, Y⟩ := Cl.news (h₀ := s.heap) (Nat.le_refl _) fun n c hm => ⟨x.cell n c (lookup_of_mem_nodup (cellsFrom_names scope.names 0 (s.heap.objs.size + 1) [] [] rfl ▸ hnd) hm), x.above n c hm⟩
  refine calm_mono (h _ s.heap.objs.size h₁ tk cells FG ⟨x.toInCall.ns, fun b o e => hk₁ b o (of_hideAll _ e), Nat.le_of_eq (hideAll_size _ _)⟩ (fun p hp => ?_) Y BG (X₀.keeps st) (T.keeps st) (fun p hp => Heap.lt_size (N p hp).1)) (fun fl s' hl => lv _ _ hl) fun _ _ y => y.elim
  rcases List.mem_append.mp hp with hp | hp
  · refine ⟨(NC p hp).1, (NC p hp).2.1, ?_⟩
    cases q : (hideAll s.heap (news.map (·.1))).get? p.1 with
    | none => rfl
    | some o => have := of_hideAll _ q; rw [(NC p hp).2.2] at this; cases this
  · exact ⟨hk₁ _ _ (N p hp).1, Nat.ne_of_lt (Heap.lt_size (N p hp).1), hideAll_none _ (List.mem_map_of_mem hp)⟩
end

section
variable {prog : Program} {w : World} {A : Around} {E : Value → Shared → Prop} {s : Shared} {env : Env}
theorem calm_For0 {target iter : Expr} {body orelse : List Stmt} {pos : Pos} {Q : Flow → Shared → Prop}
    (h : wpAny (model prog w) A (eval iter env) (fun x s₁ => wpAny (model prog w) A (pyIter x) (fun it s₂ =>
      calmCode (model prog w) A (.forLoop target it body orelse env) (fun r s' => match r with | .ok f => Q f s' | .error _ => False) s₂) Nope s₁) Nope s)
    (hs : ∀ x, foldedSetIterable iter env x = pure x := by intro _; rfl) :
    calmTree (model prog w) A (exec (.For target iter body orelse pos) env) Q E s := by
  refine calm_For (wpAny_mono h (fun x s₁ h₁ => wpAny_mono h₁ (fun it s₂ h₂ => calmCode_mono h₂ fun r s' hr => ?_) fun _ _ x => x.elim) fun _ _ x => x.elim) hs
  cases r with
  | ok f => exact hr
  | error e => exact hr.elim

theorem calm_turn {R : Result → Shared → Prop} {target : Expr} {it : Value} {body orelse : List Stmt}
    (h : wpAny (model prog w) A (pyNext it) (fun r s₁ => match r with
      | none => wpAny (model prog w) A (execs orelse env) (fun f s₃ => R (.ok f) s₃) Nope s₁
      | some v => wpAny (model prog w) A (assign target env v) (fun _ s₂ => calmTree (model prog w) A (execs body env) (fun f s₃ => match f with
          | .next | .cont => calmCode (model prog w) A (.forLoop target it body orelse env) R s₃
          | .brk => R (.ok .next) s₃
          | .ret v => R (.ok (.ret v)) s₃) Nope s₂) Nope s₁) Nope s)
    (ht : ∀ v, letOwnedTupleGo target it v = pure () := by intro _; rfl) : calmCode (model prog w) A (.forLoop target it body orelse env) R s := by
  refine calmCode_of_tree ?_
  show calmTree _ A ((forTurn target it body orelse env).onRaise (fun x => do noteFrame x env; theTreesLotGoes x)) _ _ s
  refine calm_onRaise ?_
  simp only [forTurn]
  refine calm_any (wpAny_standAt (calm_any (wpAny_onRaise (wpAny_mono h (fun r s₁ h₁ => ?_) fun _ _ h' => h'.elim))))
  cases r with
  | none => exact calm_pure ⟨rfl, rfl, calmCode_of (codeAny_block (wpAny_mono h₁ (fun _ _ x => x) fun _ _ x => x.elim))⟩
  | some v =>
    refine calm_any (wpAny_of_eq (ht v) ?_)
    refine calm_any (wpAny_mono h₁ (fun _ s₂ h₂ => calm_bind (calm_mono h₂ (fun f s₃ h₃ => ?_) fun _ _ h' => h'.elim)) fun _ _ h' => h'.elim)
    cases f with
    | next => exact calm_pure ⟨rfl, rfl, h₃⟩
    | cont => exact calm_pure ⟨rfl, rfl, h₃⟩
    | brk => exact calm_pure h₃
    | ret v => exact calm_pure h₃
end
end Mine
end
section
open PySem PySem.W PyProof.Rows PySem.Spec PySem.Calls
open Sem (wp)
set_option maxRecDepth 100000
namespace Mine

theorem ba_slot_setitem : Slot "bytearray" "__setitem__" "bytearray.__setitem__" :=
  .of (owner := "bytearray") (n := "__setitem__") (by rw [typeLookup_type, builtinLookup_eq_fast]; kernel_rfl) (by decide +kernel) (by decide +kernel) (by decide +kernel)
    (by first | exact .inl (by decide +kernel) | exact .inr (by decide +kernel)) (by rw [isSubtype_type]; kernel_rfl)
theorem ba_entry_setitem : entryFor table "bytearray.__setitem__" = some Builtin.«bytearray.__setitem__» := entryFor_of_tree (by kernel_rfl)
theorem own_bytearray : Manifest.owners.lookup (String.ofList ['y', 'a', 'r', 'r', 'a', 'e', 't', 'y', 'b'].reverse) = some Manifest.sig_bytearray := by kernel_rfl
theorem ba_args_setitem (a b c : Value) : argsOk "bytearray.__setitem__" ⟨[a, b, c], []⟩ := by unfold argsOk; rw [signature?_of (id := "bytearray.__setitem__") (n := ['_', '_', 'm', 'e', 't', 'i', 't', 'e', 's', '_', '_']) (o := ['y', 'a', 'r', 'r', 'a', 'e', 't', 'y', 'b']) (by kernel_rfl) own_bytearray]; kernel_rfl

abbrev itObj (x left step : Int) : Obj := { cls := .type "range_iterator", data := .fields #[rawInt x, rawInt left, rawInt step] }

section
variable {prog : Program} {w : World} {A : Around} {E : Value → Shared → Prop} {s : Shared} {h₀ : Heap} {L : Addr} {m : Str → Option Value} {news news' : List (Addr × Obj)}

theorem ba_setItem {a : Addr} {b : Array UInt8} {k n : Int} {t u : Tok} {Q : Unit → Shared → Prop} (ho : s.heap.get? a = some (baObj b)) (hz : b.size ≤ 1000) (h0 : 0 ≤ k) (hk : k < b.size) (n0 : 0 ≤ n) (n1 : n < 256)
    (h : ∀ h', Heap.SameBut a s.heap h' → h'.get? a = some (baObj (b.setIfInBounds k.toNat n.toNat.toUInt8)) → Q () { s with heap := h' }) :
    wpAny (model prog w) A (setItem (.ref a) (.int k t) (.int n u)) Q E s := by
  have hT : s.TypeIs (.ref a) "bytearray" := ⟨_, ho, rfl⟩
  have hI : s.TypeIs (.int k t) "int" := rfl
  unfold setItem
  try with_reducible refine wpAny_holding ?_
  first | refine wpAny_bind (wpAny_pure ?_) | skip
  refine wpAny_bind (wpAny_sequenceKey hT (by decide) ?_)
  refine wpAny_bind (wpAny_callSpecial?_slot (name := Str.ofString "__setitem__") hT ba_slot_setitem
    (wpAny_call_entry ba_slot_setitem hT ba_entry_setitem ?_ (ba_args_setitem _ _ _)))
  unfold Builtin.«bytearray.__setitem__» Builtin.Bytes.subscript?
  have f1 : (!Builtin.Bytes.fitsIndex k) = false := by
    unfold Builtin.Bytes.fitsIndex; simp; omega
  have f2 : seqIndex? k b.size = some k.toNat := by
    unfold seqIndex?
    have g : ¬ k < 0 := by omega
    simp [g, h0, hk]
  have f3 : (decide (n < 0) || decide (n ≥ 256)) = false := by simp; omega
  simp only [List.isEmpty_nil, Bool.not_true, Bool.false_eq_true, if_false]
  refine wpAny_bind (wpAny_bind (wpAny_specialOf hI ba_lookup_index ?_))
  simp only [Option.isNone_some, Bool.false_eq_true, if_false]
  refine wpAny_bind (wpAny_of_eq (a := k) rfl ?_)
  simp only [f1, Bool.false_eq_true, if_false]
  refine wpAny_pure ?_
  dsimp only
  refine wpAny_bind ?_
  unfold Builtin.Bytes.byteValue
  refine wpAny_bind (wpAny_of_eq (a := n) rfl ?_)
  simp only [f3, Bool.false_eq_true, if_false]
  refine wpAny_pure ?_
  refine wpAny_bind ?_
  unfold Builtin.Bytes.payload Builtin.Bytes.payload?
  refine wpAny_bind (wpAny_bind (wpAny_load ho ?_))
  refine wpAny_pure (wpAny_pure ?_)
  simp only [f2]
  refine wpAny_bind (ba_write ho (by simpa using hz) fun h' k' e' => ?_)
  first
    | exact wpAny_pure ⟨_, rfl, wpAny_pure (h h' k' e')⟩
    | exact wpAny_pure (h h' k' e')

theorem ba_setItem_K {a : Addr} {b : Array UInt8} {k n : Int} {t u : Tok} {Q : Unit → Shared → Prop} (F : Fr h₀ L s.heap m) (N : News h₀ L s.heap news)
    (U : Upd a (baObj b) (baObj (b.setIfInBounds k.toNat n.toNat.toUInt8)) news news') (hz : b.size ≤ 1000) (h0 : 0 ≤ k) (hk : k < b.size) (n0 : 0 ≤ n) (n1 : n < 256)
    (h : ∀ h', Fr h₀ L h' m → News h₀ L h' news' → Q () { s with heap := h' }) :
    wpAny (model prog w) A (setItem (.ref a) (.int k t) (.int n u)) Q E s := by
  obtain ⟨pre, post, rfl, rfl, g1, g2⟩ := U.split
  have z := N (a, baObj b) (List.mem_append.mpr (.inr (.head _)))
  exact ba_setItem z.1 hz h0 hk n0 n1 fun h' hs ho' => h h' (F.change hs z.2.1 z.2.2) (news_set N g1 g2 hs ho')

theorem pyIter_range_K {r : Addr} {a b c n : Int} {t u v : Tok} {Q : Value → Shared → Prop} (hr : IsRange s.heap r a b c t u v) (F : Fr h₀ L s.heap m) (N : News h₀ L s.heap news)
    (hsmall : Builtin.Range.small a b c = true) (hn : Builtin.Range.rangeSize a b c = n)
    (h : ∀ I h', Fr h₀ L h' m → News h₀ L h' ((I, itObj a n c) :: news) → (∀ p ∈ news, p.1 < I) → Q (.ref I) { s with heap := h' }) : wpAny (model prog w) A (pyIter (.ref r)) Q E s := by
  subst hn
  refine wpAny_pyIter_range hr hsmall (h _ _ (F.push _) ?_ fun p hp => Heap.lt_size (N p hp).1)
  intro p hp
  rcases List.mem_cons.mp hp with e | e
  · subst e
    refine ⟨Heap.get?_push_size _ rfl, Nat.ne_of_gt F.ns.lt, ?_⟩
    cases hq : h₀.get? s.heap.objs.size with
    | none => rfl
    | some o => exact absurd (Heap.lt_size (F.keep _ o hq)) (Nat.lt_irrefl _)
  · exact ⟨Heap.get?_push_of_some _ (N p e).1, (N p e).2⟩

theorem pyNext_item_K {I : Addr} {x left step : Int} {Q : Option Value → Shared → Prop} (F : Fr h₀ L s.heap m) (N : News h₀ L s.heap news) (hl : 0 < left)
    (U : Upd I (itObj x left step) (itObj (x + step) (left - 1) step) news news')
    (h : ∀ h' t, Fr h₀ L h' m → News h₀ L h' news' → Q (some (.int x t)) { s with heap := h', toks := t + 1 }) : wpAny (model prog w) A (pyNext (.ref I)) Q E s := by
  obtain ⟨pre, post, rfl, rfl, g1, g2⟩ := U.split
  have z := N (I, itObj x left step) (List.mem_append.mpr (.inr (.head _)))
  exact wpAny_pyNext_range_item z.1 hl fun h' e hs => h h' s.toks (F.change hs z.2.1 z.2.2) (news_set N g1 g2 hs e)

theorem pyNext_end_K {I : Addr} {x left step : Int} {Q : Option Value → Shared → Prop} (hh : A.handled = none) (F : Fr h₀ L s.heap m) (N : News h₀ L s.heap ((I, itObj x left step) :: news)) (hl : left ≤ 0) (hI : ∀ p ∈ news, p.1 < I)
    (h : ∀ h', Fr h₀ L h' m → News h₀ L h' news → Q none { s with heap := h' }) : wpAny (model prog w) A (pyNext (.ref I)) Q E s := by
  have z := N (I, itObj x left step) (.head _)
  refine wpAny_pyNext_range_end hh z.1 hl fun h' e => ?_
  obtain ⟨oL, es, ep, hL, r1, r2, r3⟩ := F.ns
  refine h h' ⟨⟨oL, es, ep, e L _ (Ne.symm z.2.1) hL, r1, r2, r3⟩, fun b o eb => e b o (fun q => ?_) (F.keep b o eb), F.above⟩ fun p hp => ⟨e p.1 p.2 (Nat.ne_of_lt (hI p hp)) (N p (.tail _ hp)).1, (N p (.tail _ hp)).2⟩
  rw [q, z.2.2] at eb
  cases eb
end
end Mine
end
section
open PySem PySem.W PyProof.Rows PySem.Spec PySem.Calls
open Sem (wp)
set_option maxRecDepth 100000
namespace Mine
theorem ba_no_bytes : typeLookup (.type "bytearray") "__bytes__" = pure none := by rw [typeLookup_type, builtinLookup_eq_fast]; kernel_rfl
theorem ba_no_index : typeLookup (.type "bytearray") "__index__" = pure none := by rw [typeLookup_type, builtinLookup_eq_fast]; kernel_rfl
theorem ba_lookup_buffer : typeLookup (.type "bytearray") "__buffer__" = pure (some (.builtin "bytearray.__buffer__")) := by rw [typeLookup_type, builtinLookup_eq_fast]; kernel_rfl
theorem ba_buffer_id {a : Addr} : (do
    if (!("bytearray.__buffer__".endsWith ("." ++ "__buffer__"))) = true then return false
    isInstance (.ref a) (.type ("bytearray.__buffer__".dropRight ("__buffer__".length + 1))) : Sem Bool) = isInstance (.ref a) (.type "bytearray") := by
  have h1 : ("bytearray.__buffer__".endsWith ("." ++ "__buffer__")) = true := by decide +kernel
  have h2 : "bytearray.__buffer__".dropRight ("__buffer__".length + 1) = "bytearray" := by decide +kernel
  rw [h1, h2]; rfl

section
variable {prog : Program} {w : World} {A : Around} {E : Value → Shared → Prop} {s : Shared} {h₀ : Heap} {L : Addr} {m : Str → Option Value} {news news' : List (Addr × Obj)}
theorem ba_ownBuffer {a : Addr} {b : Array UInt8} (ho : s.heap.get? a = some (baObj b)) {Q : Bool → Shared → Prop} (h : Q true s) : wpAny (model prog w) A (Builtin.Bytes.slotIsOwn (.ref a) "__buffer__") Q E s := by
  have hT : s.TypeIs (.ref a) "bytearray" := ⟨_, ho, rfl⟩
  have hsub := ba_sub
  unfold Builtin.Bytes.slotIsOwn
  refine wpAny_bind (wpAny_specialOf hT ba_lookup_buffer ?_)
  simp only [ba_buffer_id]
  exact wpAny_isInstance hT hsub h

theorem ba_buffer {a : Addr} {b : Array UInt8} {id : String} (ho : s.heap.get? a = some (baObj b)) {Q : Option (Array UInt8) → Shared → Prop} (h : Q (some b) s) : wpAny (model prog w) A (Builtin.Bytes.buffer? id (.ref a) true) Q E s := by
  have hT : s.TypeIs (.ref a) "bytearray" := ⟨_, ho, rfl⟩
  unfold Builtin.Bytes.buffer?
  refine wpAny_bind (wpAny_specialOf hT ba_lookup_buffer ?_)
  dsimp only
  refine wpAny_bind (ba_ownBuffer ho ?_)
  simp only [Bool.not_true, Bool.false_eq_true, if_false]
  refine wpAny_bind (wpAny_specialOf hT ba_lookup_buffer ?_)
  try dsimp only
  refine wpAny_bind (ba_release ho ?_)
  simp only [Bool.false_eq_true, if_false]
  refine wpAny_bind ?_
  unfold Builtin.Bytes.payload Builtin.Bytes.payload?
  refine wpAny_bind (wpAny_bind (wpAny_load ho ?_))
  exact wpAny_pure (wpAny_pure (wpAny_pure h))

theorem ba_bytes_new {a : Addr} {b : Array UInt8} {Q : Value → Shared → Prop} (ho : s.heap.get? a = some (baObj b)) (hz : b.size ≤ 1000) (hQ : Q (.bytes b s.toks) { s with toks := s.toks + 1 }) :
    codeAny (model prog w) A (.call (.builtin "bytes.__new__") ⟨[.type "bytes", .ref a], []⟩) (wants Q E) s := by
  refine codeAny_of_tree ?_
  show wpAny _ A.in1 (do checkBuiltinCall "bytes.__new__" ⟨[.type "bytes", .ref a], []⟩; again (.builtin "bytes.__new__" ⟨[.type "bytes", .ref a], []⟩)) _ _ s
  refine wpAny_bind (wpAny_of_eq (F.bm_newCall _) (wpAny_pure ⟨plainId_quiet F.bm_plain _, codeAny_builtin F.bm_entry ?_⟩))
  rw [Around.under_plainId F.bm_plain _]
  have hT : s.TypeIs (.ref a) "bytearray" := ⟨_, ho, rfl⟩
  unfold Builtin.«bytes.__new__»
  refine wpAny_bind (wpAny_of_eq (a := true) rfl ?_)
  refine bm_if_false rfl ?_
  refine wpAny_bind (wpAny_of_eq F.bm_sub ?_)
  refine bm_if_false rfl ?_
  refine wpAny_bind (wpAny_of_eq (F.bm_bind _) ?_)
  refine wpAny_bind (wpAny_of_eq (a := ()) rfl ?_)
  refine wpAny_bind (wpAny_of_eq (a := ()) rfl ?_)
  refine bm_if_false rfl ?_
  refine wpAny_bind (wpAny_specialOf hT ba_no_bytes ?_)
  refine wpAny_bind (wpAny_bind ?_)
  show wpAny _ _ (load a >>= _) _ _ _
  refine wpAny_bind (wpAny_load ho ?_)
  refine wpAny_pure (wpAny_pure ?_)
  refine bm_if_false rfl ?_
  refine wpAny_bind (wpAny_specialOf hT ba_no_index ?_)
  refine bm_if_true rfl ?_
  first
    | show wpAny _ _ (Builtin.Bytes.buffer? "bytes.__new__" (.ref a) true >>= _) _ _ _
    | (refine wpAny_bind ?_; show wpAny _ _ (Builtin.Bytes.buffer? "bytes.__new__" (.ref a) true >>= _) _ _ _)
  refine wpAny_bind (ba_buffer ho ?_)
  dsimp only
  refine wpAny_bind (wpAny_rule ?_)
  refine wpAny_bind (wpAny_mkBytes ?_ (by unfold sizeLine; omega))
  show wpAny _ _ (if (Value.type "bytes" == Value.type "bytes") = true then _ else _) _ _ _
  refine bm_if_true (by decide) ?_
  first
    | exact wpAny_pure hQ
    | exact wpAny_bind (wpAny_pure (wpAny_pure hQ))

theorem call_bytes_ba {a : Addr} {b : Array UInt8} {Q : Value → Shared → Prop} (ho : s.heap.get? a = some (baObj b)) (hz : b.size ≤ 1000) (hQ : ∀ t, Q (.bytes b t) { s with toks := t + 1 }) :
    wpAny (model prog w) A (call (.type "bytes") [.ref a]) Q E s := by
  refine callType_codes (Q₁ := fun obj s₁ => s₁.TypeIs obj "bytes" ∧ Q obj s₁) F.bm_called (F.bm_typeCall _) F.entry_object_init
    (ba_bytes_new ho hz ⟨PySem.W.typeIs_bytes _ _ _, hQ _⟩) fun obj s₁ h₁ => ?_
  exact ⟨h₁.1, F.args_object_init_2 obj _, object_init_meets F.bm_called.init.lookup F.bm_called.made (by decide) prog w A.in1 _ s₁ ⟨h₁.1, rfl, h₁.2⟩⟩
end
end Mine
end
section
open PySem PySem.W PyProof.Rows PySem.Spec PySem.Calls
namespace Mine
def labL (kind : Int) : List UInt8 := if kind = 0 then [] else if kind = 1 then [34, 40, 34] else if kind = 2 then [34, 92, 34, 41, 34] else [34, 40, 92, 92, 34]
def replyL (step kind : Int) : List UInt8 := List.replicate step.toNat 40 ++ (labL kind ++ List.replicate (-step).toNat 41)
def replyB (step kind : Int) : Array UInt8 := (replyL step kind).toArray
theorem endB {h₀ h' : Heap} {L : Addr} {m : Str → Option Value} {news news' : List (Addr × Obj)} {s : Shared} {Q : Value → Shared → Prop} {t : Tok} {tk' : Nat} {x y : Array UInt8}
    (hret : ∀ (t : Tok) (h' : Heap) (tk' : Nat), Fr h₀ L h' m → News h₀ L h' news → Q (.bytes x t) { s with heap := h', toks := tk' })
    (e : y = x) (F : Fr h₀ L h' m) (N : News h₀ L h' news') (hs : ∀ p ∈ news, p ∈ news') : Q (.bytes y t) { s with heap := h', toks := tk' } := by
  subst e
  exact hret t h' tk' F (fun p hp => N p (hs p hp))
theorem flat_rep (n : Nat) (c : UInt8) : (List.replicate n [c]).flatten = List.replicate n c := by
  induction n with
  | zero => rfl
  | succ n ih => simp [List.replicate_succ, ih]
theorem flat_len (n : Nat) (c : UInt8) : (List.replicate n [c]).flatten.toArray.size = n := by
  rw [flat_rep]; simp
theorem reply_eq (step : Int) (l : List UInt8) : (List.replicate (if 0 > step then 0 else step).toNat [(40 : UInt8)]).flatten.toArray ++ l.toArray ++ (List.replicate (if 0 > -step then 0 else -step).toNat [(41 : UInt8)]).flatten.toArray
    = (List.replicate step.toNat 40 ++ (l ++ List.replicate (-step).toNat 41)).toArray := by
  have e1 : (if 0 > step then 0 else step).toNat = step.toNat := by split <;> omega
  have e2 : (if 0 > -step then 0 else -step).toNat = (-step).toNat := by split <;> omega
  rw [e1, e2, flat_rep, flat_rep]
  simp
set_option maxRecDepth 100000 in
set_option maxHeartbeats 8000000 in
theorem reply_sum {w : World} {p : Program} {loose : List Str} {mean : ExcName → Option Value} {mg mb : Str → Option Value}
    (step kind : Int) (ts tk : Tok) (h1 : -11 ≤ step) (h2 : step ≤ 13) (k0 : 0 ≤ kind) (k4 : kind < 4) (news : List (Addr × Obj)) :
    CbClaim PySem.Challenge.rw_zn0002_01.row.prog w (hd.heap_39 w.params) p loose mean mg mb 96 news [] True [.int step ts, .int kind tk] (fun t => .bytes (replyB step kind) t) := by
  w_top off
  k_fill
  have hk : kind = 0 ∨ kind = 1 ∨ kind = 2 ∨ kind = 3 := by omega
  clear k0 k4
  dsimp only [CbClaim, CbLists, CbRet]
  intros
  rename_i hret
  have cbI : CbIn 96 := CbIn.mk
  refine wpAny_call ?_
  rcases hk with rfl | rfl | rfl | rfl
  all_goals (
    k_dflt cell_enter
    (repeat' (first | (k_unfold; (try dsimp only)) | (k_end; wrow_close) | ((with_reducible show wpAny _ _ (eval (Expr.Name _ _) (compEnvC _ _ _ _)) _ _ _); (first | (with_reducible ((name_kind "globalImplicit"); k_dflt (refine LCgL.ld_global (by k_asm) (by k_asm) (by k_asm) (by k_is) ?_))) | (with_reducible ((name_kind "local"); k_dflt (refine LCgL.ld_own (by k_asm) (by k_mem) (by assumption) (by assumption) ?_))) | (with_reducible (k_dflt (refine kcf_cell (by k_asm) (by rfl) (by k_mem) (by k_asm) ?_))))) | ((with_reducible show wpAny _ _ (callWith _ (Value.builtin _) (_ :: _) _ _) _ _ _); (first | (with_reducible (refine callWith_method1 ?_)) | (refine callWith_method1 ?_))) | ((with_reducible show wpAny _ _ (eval (Expr.Name _ _) _) _ _ _); (first | (with_reducible ((name_kind "local"); k_dflt (refine' nameX_L ?xFq6 ?xvq6 ?_ ?xaq6 ?xbq6; (case xaq6 => rfl); (case xbq6 => rfl); (case xFq6 => k_asm); (case xvq6 => rfl); k_whole))) | (with_reducible ((name_kind "globalImplicit"); k_dflt (refine' nameX_K ?yFq7 ?yXq7 ?yTq7 ?yeq7 ?_ ?yaq7 ?ybq7; (case yaq7 => rfl); (case ybq7 => rfl); (case yFq7 => k_asm); (case yXq7 => k_asm); (case yTq7 => k_asm); (case yeq7 => k_is); k_whole))))) | ((with_reducible show wpAny _ _ (callWith _ (Value.ref _) _ _ _) _ _ _); (with_reducible (k_dflt (refine' callWith_K ?zXq8 ?zkq8 ?_; (case zXq8 => k_asm); (case zkq8 => k_is); k_whole)))) | ((with_reducible show wpAny _ _ (binaryOp Operator.Add (Value.bytes _ _) (Value.bytes _ _)) _ _ _); (with_reducible (((with_reducible show wpAny _ _ (binaryOp Operator.Add (Value.bytes _ _) (Value.bytes _ _)) _ _ _); (refine KBy.add_bytes (by (simp only [flat_rep, Array.size_append, List.size_toArray, List.length_replicate, List.length_cons, List.length_nil]; (repeat' split) <;> omega)) ?_); intro _ _)))) | walk1 | ((fail_if_success k_end); dsimp only) | (leave1; walk_say "STEP leave1"; (try dsimp only)) | fail "no step")))
  all_goals (refine' endB hret ?e ?F ?N ?S; (case F => k_asm); (case N => k_asm); (case S => kcj_all); (case e => exact reply_eq step _))
end Mine
end
section
open PySem PySem.W PyProof.Rows PySem.Spec PySem.Calls
namespace Mine
open PySem.Builtin PySem.Builtin.Re
def drv : Nat → Sre.M → Option Sre.M
  | 0, _ => none
  | n + 1, m => if (m.runFor 4).outcome.isSome then some (m.runFor 4) else drv n (m.runFor 4)
/-- what the machine finds: none: it does not end in time; some none: nothing; some (start, end) -/
def found (code text : Array Nat) (groups start : Nat) (must : Bool) : Option (Option (Nat × Nat)) :=
  match drv 1000 (Sre.forSearch code text groups start text.size must) with
  | some m => (match m.outcome with
    | some .matched => some (some (m.start, m.handed))
    | some .failed => some none
    | _ => none)
  | none => none
section
variable {M : Model} {A : Around} {E : Value → Shared → Prop} {s : Shared}
theorem wp_drive {Q : Sre.M → Shared → Prop} {m' : Sre.M} (h : Q m' s) : ∀ (n N : Nat) (m : Sre.M), n ≤ N → drv n m = some m' → wpAny M A (reDrive N m) Q E s
  | 0, _, _, _, e => by cases e
  | n + 1, 0, _, hn, _ => by omega
  | n + 1, N + 1, m, hn, e => by
    unfold reDrive
    unfold drv at e
    show wpAny M A (if (m.runFor 4).outcome.isSome = true then pure (m.runFor 4) else (rule "sre.turn" >>= fun _ => reDrive N (m.runFor 4))) Q E s
    by_cases c : (m.runFor 4).outcome.isSome = true
    · rw [if_pos c] at e ⊢
      cases e
      exact wpAny_pure h
    · rw [if_neg c] at e ⊢
      exact wpAny_bind (wpAny_rule (wp_drive h n N _ (by omega) e))
theorem wp_rules {Q : PUnit → Shared → Prop} (c : Nat → Bool) (tag : Nat → String) (h : Q ⟨⟩ s) : ∀ l : List Nat,
    wpAny M A (forIn l PUnit.unit fun i _ => (if c i = true then (rule (tag i) >>= fun _ => pure (ForInStep.yield PUnit.unit)) else pure (ForInStep.yield PUnit.unit) : Sem (ForInStep PUnit))) Q E s
  | [] => wpAny_pure h
  | i :: l => by
    rw [List.forIn_cons]
    by_cases q : c i = true
    · simp only [q, if_true]
      exact wpAny_bind (wpAny_bind (wpAny_rule (wpAny_pure (wp_rules c tag h l))))
    · simp only [q]
      exact wpAny_bind (wpAny_pure (wp_rules c tag h l))
theorem wp_end {Q : Option Sre.M → Shared → Prop} {m m' : Sre.M} (n : Nat) (e : drv n m = some m') (hn : n ≤ 2 ^ 64)
    (h : wpAny M A (match m'.outcome with | some .matched => pure (some m') | some .failed => pure none | some (.stuck why) => unsupported s!"_sre:{why}" | none => unsupported "internal:sre:no-outcome") Q E s) :
    wpAny M A (reRunToEnd m) Q E s := by
  unfold reRunToEnd
  refine wpAny_bind (wp_drive ?_ n _ m hn e)
  refine wpAny_bind ?_
  exact wp_rules (fun i => m'.seen.has i) (fun i => Sre.names.getD i "") h _
theorem wp_none {Q : Option Sre.M → Shared → Prop} {t : ReTarget} {start : Nat} {must : Bool} (hl : t.lim = t.text.size) (e : found t.code t.text t.groups start must = some none) (h : Q none s) :
    wpAny M A (reNextFound t start must) Q E s := by
  unfold reNextFound
  rw [hl]
  unfold found at e
  split at e
  · rename_i m hm
    refine wp_end 1000 hm (by decide) ?_
    split at e
    · cases e
    · rename_i ho
      rw [ho]
      exact wpAny_pure h
    · cases e
  · cases e
theorem wp_some {Q : Option Sre.M → Shared → Prop} {t : ReTarget} {start p q : Nat} {must : Bool} (hl : t.lim = t.text.size) (e : found t.code t.text t.groups start must = some (some (p, q)))
    (h : ∀ m : Sre.M, m.start = p → m.handed = q → Q (some m) s) : wpAny M A (reNextFound t start must) Q E s := by
  unfold reNextFound
  rw [hl]
  unfold found at e
  split at e
  · rename_i m hm
    refine wp_end 1000 hm (by decide) ?_
    split at e
    · rename_i ho
      rw [ho]
      injection e with e
      injection e with e
      injection e with e1 e2
      exact wpAny_pure (h m e1 e2)
    · cases e
    · cases e
  · cases e
end
theorem slot_sub : Slot "re.Pattern" "sub" "re.Pattern.sub" :=
  .of (owner := "re.Pattern") (n := "sub") (by rw [typeLookup_type, builtinLookup_eq_fast]; kernel_rfl) (by decide +kernel) (by decide +kernel) (by decide +kernel)
    (by first | exact .inl (by decide +kernel) | exact .inr (by decide +kernel)) (by rw [isSubtype_type]; kernel_rfl)
theorem slot_search : Slot "re.Pattern" "search" "re.Pattern.search" :=
  .of (owner := "re.Pattern") (n := "search") (by rw [typeLookup_type, builtinLookup_eq_fast]; kernel_rfl) (by decide +kernel) (by decide +kernel) (by decide +kernel)
    (by first | exact .inl (by decide +kernel) | exact .inr (by decide +kernel)) (by rw [isSubtype_type]; kernel_rfl)
theorem slot_group : Slot "re.Match" "group" "re.Match.group" :=
  .of (owner := "re.Match") (n := "group") (by rw [typeLookup_type, builtinLookup_eq_fast]; kernel_rfl) (by decide +kernel) (by decide +kernel) (by decide +kernel)
    (by first | exact .inl (by decide +kernel) | exact .inr (by decide +kernel)) (by rw [isSubtype_type]; kernel_rfl)
theorem type_sub : typeOf (.builtin "re.Pattern.sub") = pure (.type "method_descriptor") := by show builtinType _ = _; rw [builtinType_eq_fast]; kernel_rfl
theorem type_search : typeOf (.builtin "re.Pattern.search") = pure (.type "method_descriptor") := by show builtinType _ = _; rw [builtinType_eq_fast]; kernel_rfl
theorem type_group : typeOf (.builtin "re.Match.group") = pure (.type "method_descriptor") := by show builtinType _ = _; rw [builtinType_eq_fast]; kernel_rfl
theorem plain_pattern_look : typeLookup (.type "re.Pattern") "__getattribute__" = typeLookup (.type "object") "__getattribute__" := by rw [typeLookup_type, typeLookup_type, builtinLookup_eq_fast]; kernel_rfl
theorem plain_pattern : PlainAttrs "re.Pattern" := by
  obtain ⟨g, hg, hc⟩ := F.plainAttrs_object.ga
  exact ⟨⟨g, plain_pattern_look.trans hg, hc⟩, by rw [typeLookup_type, builtinLookup_eq_fast]; kernel_rfl⟩
theorem plain_match_look : typeLookup (.type "re.Match") "__getattribute__" = typeLookup (.type "object") "__getattribute__" := by rw [typeLookup_type, typeLookup_type, builtinLookup_eq_fast]; kernel_rfl
theorem plain_match : PlainAttrs "re.Match" := by
  obtain ⟨g, hg, hc⟩ := F.plainAttrs_object.ga
  exact ⟨⟨g, plain_match_look.trans hg, hc⟩, by rw [typeLookup_type, builtinLookup_eq_fast]; kernel_rfl⟩
theorem entry_sub : entryFor table "re.Pattern.sub" = some Builtin.«re.Pattern.sub» := entryFor_of_tree (by kernel_rfl)
theorem entry_sub_loop : entryFor table "re.Pattern.sub.loop" = some Builtin.«re.Pattern.sub.loop» := entryFor_of_tree (by kernel_rfl)
theorem entry_search : entryFor table "re.Pattern.search" = some Builtin.«re.Pattern.search» := entryFor_of_tree (by kernel_rfl)
theorem entry_group : entryFor table "re.Match.group" = some Builtin.«re.Match.group» := entryFor_of_tree (by kernel_rfl)
theorem own_pattern : Manifest.owners.lookup (String.ofList ['n', 'r', 'e', 't', 't', 'a', 'P', '.', 'e', 'r'].reverse) = some Manifest.sig_re_Pattern := by kernel_rfl
theorem own_match : Manifest.owners.lookup (String.ofList ['h', 'c', 't', 'a', 'M', '.', 'e', 'r'].reverse) = some Manifest.sig_re_Match := by kernel_rfl
theorem args_sub (a b c : Value) : argsOk "re.Pattern.sub" ⟨[a, b, c], []⟩ := by unfold argsOk; rw [signature?_of (id := "re.Pattern.sub") (n := ['b', 'u', 's']) (o := ['n', 'r', 'e', 't', 't', 'a', 'P', '.', 'e', 'r']) (by kernel_rfl) own_pattern]; kernel_rfl
theorem args_search (a b : Value) : argsOk "re.Pattern.search" ⟨[a, b], []⟩ := by unfold argsOk; rw [signature?_of (id := "re.Pattern.search") (n := ['h', 'c', 'r', 'a', 'e', 's']) (o := ['n', 'r', 'e', 't', 't', 'a', 'P', '.', 'e', 'r']) (by kernel_rfl) own_pattern]; kernel_rfl
theorem args_group (a b : Value) : argsOk "re.Match.group" ⟨[a, b], []⟩ := by unfold argsOk; rw [signature?_of (id := "re.Match.group") (n := ['p', 'u', 'o', 'r', 'g']) (o := ['h', 'c', 't', 'a', 'M', '.', 'e', 'r']) (by kernel_rfl) own_match]; kernel_rfl
theorem plain_sub_loop : plainId "re.Pattern.sub.loop" = true := by decide +kernel
end Mine
end
section
open PySem PySem.W PyProof.Rows PySem.Spec PySem.Calls
set_option maxRecDepth 100000
namespace Mine
open PySem.Builtin PySem.Builtin.Re
theorem no_call : typeLookup (.type "bytes") "__call__" = pure none := by rw [typeLookup_type, builtinLookup_eq_fast]; kernel_rfl
theorem no_call_str : typeLookup (.type "str") "__call__" = pure none := by rw [typeLookup_type, builtinLookup_eq_fast]; kernel_rfl
def tgt (P : Addr) (string : Value) (code : Array Nat) (text : Array Nat) (kind groups : Nat) : ReTarget :=
  { pattern := .ref P, string, code, text, kind, groups, pos := 0, lim := text.size }
/-- a pattern that stands in the heap -/
structure Pat (h : Heap) (P C : Addr) (code : Array Nat) (groups kind : Nat) : Prop where
  pat : ∃ v f x y, h.get? P = some { cls := .type "re.Pattern", data := .fields #[v, f, .int (groups : Int) 0, x, y, .ref C, .int (kind : Int) 0] }
  tab : ∃ vs, h.get? C = some { cls := .type "tuple", data := .seq vs } ∧ (vs.map reRawOf).map (·.toNat) = code
theorem Pat.keeps {h h' : Heap} {P C : Addr} {code : Array Nat} {groups kind : Nat} (x : Pat h P C code groups kind) (k : ∀ b o, h.get? b = some o → h'.get? b = some o) : Pat h' P C code groups kind :=
  let ⟨v, f, x1, y, e⟩ := x.pat
  let ⟨vs, e2, e3⟩ := x.tab
  ⟨⟨v, f, x1, y, k _ _ e⟩, ⟨vs, k _ _ e2, e3⟩⟩
section
variable {prog : Program} {w : World} {A : Around} {E : Value → Shared → Prop} {s : Shared}
theorem wp_target_bytes {Q : ReTarget → Shared → Prop} {P C : Addr} {code : Array Nat} {groups : Nat} {b : Array UInt8} {t : Tok} (hp : Pat s.heap P C code groups 1)
    (h : Q (tgt P (.bytes b t) code (b.map (·.toNat)) 1 groups) s) : wpAny (model prog w) A (reWholeTarget (.ref P) (.bytes b t)) Q E s := by
  obtain ⟨⟨v, f, x, y, e⟩, vs, e2, e3⟩ := hp
  unfold reWholeTarget
  refine wpAny_bind (wpAny_fieldsOf e rfl ?_)
  refine wpAny_bind ?_
  unfold reTextOf
  refine wpAny_bind (wpAny_of_eq (a := none) rfl ?_)
  dsimp only
  refine wpAny_bind (wpAny_of_eq KBy.quiet_eq ?_)
  refine wpAny_pure ?_
  dsimp only
  refine wpAny_ite (KBy.ite_no Bool.false_ne_true ?_)
  refine wpAny_ite (KBy.ite_no Bool.false_ne_true ?_)
  refine wpAny_bind ?_
  unfold reNoCollectionInside
  rw [if_pos (by decide)]
  refine wpAny_bind (wpAny_of_eq KBy.isInstance_eq ?_)
  rw [if_neg (by decide)]
  refine wpAny_pure ?_
  refine wpAny_bind ?_
  unfold reRawItems
  refine wpAny_bind ?_
  unfold seqItems?
  refine wpAny_bind (wpAny_load e2 ?_)
  refine wpAny_pure ?_
  refine wpAny_pure ?_
  refine wpAny_pure ?_
  subst e3
  exact h
abbrev emptyList : Obj := { cls := .type "list", data := .seq #[] }
theorem named3 (P : Value) (a b : Value) : reNamed "re.Pattern.sub" "sub" ["repl", "string", "count"] 2 [a, b] [] = pure [some a, some b, none] := by kernel_rfl
theorem wp_sub_bytes {Q : PySem.Fin → Shared → Prop} {P C : Addr} {code : Array Nat} {groups : Nat} {r b : Array UInt8} {tr t : Tok} (hp : Pat s.heap P C code groups 1) (hr : r.contains 92 = false)
    (h : Q (.again (.builtin "re.Pattern.sub.loop" ⟨[.ref P, .bytes b t, .bytes r tr, rawInt 0, rawInt 0, rawInt 0, rawInt 0, rawInt 0, .bool false, .ref s.heap.objs.size, .bool false], []⟩)) { s with heap := s.heap.push emptyList }) :
    wpAny (model prog w) A (Builtin.«re.Pattern.sub» ⟨[.ref P, .bytes r tr, .bytes b t], []⟩) Q E s := by
  unfold Builtin.«re.Pattern.sub»
  unfold reSubstitute
  refine wpAny_bind (wpAny_of_eq (named3 (.ref P) _ _) ?_)
  dsimp only
  refine wpAny_bind (wpAny_of_eq (a := (0 : Int)) rfl ?_)
  refine wpAny_bind (wpAny_specialOf (T := "bytes") (typeIs_bytes _ _ _) no_call ?_)
  refine wpAny_ite (KBy.ite_no Bool.false_ne_true ?_)
  refine wpAny_bind (wpAny_of_eq (a := none) rfl ?_)
  dsimp only
  refine wpAny_bind (wpAny_of_eq KBy.quiet_eq ?_)
  dsimp only
  refine wpAny_bind (wpAny_pure ?_)
  refine wpAny_ite (KBy.ite_no Bool.false_ne_true ?_)
  rw [hr]
  refine wpAny_ite (KBc.ite_yes rfl ?_)
  refine wpAny_bind (wpAny_pure ?_)
  dsimp only
  refine wpAny_bind (wpAny_holding (wp_target_bytes hp ?_))
  refine wpAny_ite (KBy.ite_no Bool.false_ne_true ?_)
  refine wpAny_bind (wpAny_newList ?_ (Nat.zero_le _))
  exact wpAny_pure h
/-- the list at l holds xs -/
abbrev ListAt (h : Heap) (l : Addr) (xs : Array Value) : Prop := ∃ n, h.get? l = some { cls := .type "list", data := .seq xs n }
abbrev KeepBut (l : Addr) (h h' : Heap) : Prop := ∀ a o, a ≠ l → h.get? a = some o → h'.get? a = some o
theorem wp_push {Q : Unit → Shared → Prop} {l : Addr} {xs : Array Value} {v : Value} (hl : ListAt s.heap l xs) (hx : xs.size ≤ 1000)
    (h : ∀ h', KeepBut l s.heap h' → ListAt h' l (xs.push v) → Q () { s with heap := h' }) : wpAny (model prog w) A (updateSeq l (·.push v)) Q E s := by
  obtain ⟨n, hl⟩ := hl
  refine wpAny_updateSeq hl rfl (h _ (fun a o ha e => ?_) ⟨_, Heap.get?_update_self _ hl rfl⟩) (by rw [sizeLine_eq]; omega) (by rw [sizeLine_eq]; simp; omega)
  rw [Heap.get?_update_other _ _ (Ne.symm ha)]
  exact e
def cutB (b : Array UInt8) (i j : Nat) : Array UInt8 := ((b.map (·.toNat)).extract i j).map (·.toUInt8)
theorem wp_slice {Q : Value → Shared → Prop} {b : Array UInt8} {i j : Nat} (hb : b.size ≤ 16777216) (h : Q (.bytes (cutB b i j) s.toks) { s with toks := s.toks + 1 }) :
    wpAny (model prog w) A (reSlice (b.map (·.toNat)) 1 i j) Q E s := by
  unfold reSlice
  refine wpAny_ite (KBy.ite_no Bool.false_ne_true ?_)
  refine wpAny_mkBytes h ?_
  simp only [Array.size_map, Array.size_extract]
  rw [sizeLine_eq]
  omega
theorem wp_literal {Q : Unit → Shared → Prop} {r : Array UInt8} {tr : Tok} (h : Q () s) : wpAny (model prog w) A (reLiteralCannotBeTurned (.bytes r tr)) Q E s := by
  unfold reLiteralCannotBeTurned
  refine wpAny_bind (wpAny_of_eq (a := none) rfl ?_)
  refine wpAny_ite (KBc.ite_yes rfl ?_)
  refine wpAny_bind (wpAny_of_eq KBy.isInstance_eq ?_)
  refine wpAny_ite (KBy.ite_no Bool.false_ne_true ?_)
  exact wpAny_pure h
theorem loop_some {R : Result → Shared → Prop} {P C l : Addr} {code : Array Nat} {groups st dn p q m : Nat} {must : Bool} {r b : Array UInt8} {tr t : Tok} {xs : Array Value}
    (hp : Pat s.heap P C code groups 1) (hP : P ≠ l) (hC : C ≠ l) (hl : ListAt s.heap l xs) (hx : xs.size ≤ 900) (hb : b.size ≤ 16777216)
    (hf : found code (b.map (·.toNat)) groups st must = some (some (p, q)))
    (h : ∀ h' k tk, KeepBut l s.heap h' → ListAt h' l ((if dn < p then xs.push (.bytes (cutB b dn p) tk) else xs).push (.bytes r tr)) →
      codeAny (model prog w) A (.builtin "re.Pattern.sub.loop" ⟨[.ref P, .bytes b t, .bytes r tr, rawInt 0, rawInt 0, rawInt ((m : Int) + 1), rawInt q, rawInt q, .bool (q == p), .ref l, .bool false], []⟩) R { s with heap := h', toks := k }) :
    codeAny (model prog w) A (.builtin "re.Pattern.sub.loop" ⟨[.ref P, .bytes b t, .bytes r tr, rawInt 0, rawInt 0, rawInt m, rawInt dn, rawInt st, .bool must, .ref l, .bool false], []⟩) R s := by
  refine codeAny_builtin entry_sub_loop ?_
  rw [Around.under_plainId plain_sub_loop _]
  unfold Builtin.«re.Pattern.sub.loop»
  dsimp only [rawInt]
  refine wpAny_bind (wp_target_bytes hp ?_)
  dsimp only [tgt]
  refine wpAny_ite (KBc.ite_yes rfl ?_)
  refine wpAny_bind (wp_literal ?_)
  refine wpAny_bind (wpAny_ite (KBy.ite_no Bool.false_ne_true (wp_some rfl hf ?_)))
  intro m' e1 e2
  dsimp only
  rw [e1, e2]
  by_cases c : dn < p
  · simp only [if_pos c] at h
    refine wpAny_ite (KBc.ite_yes c ?_)
    refine wpAny_bind (wp_slice hb ?_)
    refine wpAny_bind (wp_push hl (by omega) fun h1 k1 l1 => ?_)
    refine wpAny_ite (KBc.ite_yes rfl ?_)
    refine wpAny_bind (wpAny_pure ?_)
    refine wpAny_ite (KBc.ite_yes rfl ?_)
    refine wpAny_bind (wp_push l1 (by simp; omega) fun h2 k2 l2 => ?_)
    refine wpAny_pure ⟨plainId_quiet plain_sub_loop _, h h2 _ s.toks ?_ l2⟩
    exact fun a o ha e => k2 a o ha (k1 a o ha e)
  · simp only [if_neg c] at h
    refine wpAny_ite (KBy.ite_no c ?_)
    refine wpAny_ite (KBc.ite_yes rfl ?_)
    refine wpAny_bind (wpAny_pure ?_)
    refine wpAny_ite (KBc.ite_yes rfl ?_)
    refine wpAny_bind (wp_push hl (by omega) fun h2 k2 l2 => ?_)
    exact wpAny_pure ⟨plainId_quiet plain_sub_loop _, h h2 _ s.toks k2 l2⟩
theorem loop_none {R : Result → Shared → Prop} {P C l : Addr} {code : Array Nat} {groups st dn m : Nat} {must : Bool} {r b : Array UInt8} {tr t : Tok} {xs : Array Value}
    (hp : Pat s.heap P C code groups 1) (hl : ListAt s.heap l xs) (hx : xs.size ≤ 900) (hb : b.size ≤ 16777216)
    (hf : found code (b.map (·.toNat)) groups st must = some none)
    (h : ∀ h' k tk tj, KeepBut l s.heap h' → ListAt h' l (if dn < b.size then xs.push (.bytes (cutB b dn b.size) tk) else xs) →
      if (if dn < b.size then xs.push (.bytes (cutB b dn b.size) tk) else xs).isEmpty = true then R (.ok (.ret (.bytes #[] tj))) { s with heap := h', toks := k }
      else wpAny (model prog w) A.in1 (call (.builtin "bytes.join") [.bytes #[] tj, .ref l]) (fun v s' => R (.ok (.ret v)) s') (fun e s' => R (.error e) s') { s with heap := h', toks := k }) :
    codeAny (model prog w) A (.builtin "re.Pattern.sub.loop" ⟨[.ref P, .bytes b t, .bytes r tr, rawInt 0, rawInt 0, rawInt m, rawInt dn, rawInt st, .bool must, .ref l, .bool false], []⟩) R s := by
  refine codeAny_builtin entry_sub_loop ?_
  rw [Around.under_plainId plain_sub_loop _]
  unfold Builtin.«re.Pattern.sub.loop»
  dsimp only [rawInt]
  refine wpAny_bind (wp_target_bytes hp ?_)
  dsimp only [tgt]
  refine wpAny_ite (KBc.ite_yes rfl ?_)
  refine wpAny_bind (wp_literal ?_)
  refine wpAny_bind (wpAny_ite (KBy.ite_no Bool.false_ne_true (wp_none rfl hf ?_)))
  dsimp only
  have tail : ∀ (s' : Shared) (ys : Array Value), ListAt s'.heap l ys →
      (∀ tj k, if ys.isEmpty = true then R (.ok (.ret (.bytes #[] tj))) { s' with toks := k }
        else wpAny (model prog w) A.in1 (call (.builtin "bytes.join") [.bytes #[] tj, .ref l]) (fun v s' => R (.ok (.ret v)) s') (fun e s' => R (.error e) s') { s' with toks := k }) →
      wpAny (model prog w) A.in1 (do
            let joiner ← reSlice (Array.map (fun x => x.toNat) b) 1 0 0
            let __do_lift ← seqItems? (Value.ref l)
            if (__do_lift.getD #[]).isEmpty = true then do
                let text ← pure joiner
                if false = true then do
                    let __do_lift ←
                      holding [text] do
                          let __do_lift ← mkInt (m : Int)
                          newTuple [text, __do_lift]
                    ret __do_lift
                  else ret text
              else do
                let text ←
                  call (Value.builtin (if (1 == 0) = true then "str.join" else "bytes.join")) [joiner, Value.ref l]
                if false = true then do
                    let __do_lift ←
                      holding [text] do
                          let __do_lift ← mkInt (m : Int)
                          newTuple [text, __do_lift]
                    ret __do_lift
                  else ret text) (fun fin s' =>
      match fin with
      | Fin.done f => R (Except.ok f) s'
      | Fin.again c' => c'.quiet = true ∧ codeAny (model prog w) A c' R s')
    (fun e s' => R (Except.error e) s') s' := by
    intro s' ys hys hh
    have e0 : cutB b 0 0 = #[] := by simp [cutB]
    refine wpAny_bind (wp_slice hb ?_)
    rw [e0]
    obtain ⟨n, hys⟩ := hys
    refine wpAny_bind (wpAny_seqItems hys rfl ?_)
    have hh := hh s'.toks (s'.toks + 1)
    refine wpAny_ite ?_
    show if ys.isEmpty = true then _ else _
    by_cases c : ys.isEmpty = true
    · rw [if_pos c] at hh ⊢
      refine wpAny_bind (wpAny_pure ?_)
      exact wpAny_ite (KBy.ite_no Bool.false_ne_true (wpAny_pure hh))
    · rw [if_neg c] at hh ⊢
      refine wpAny_bind ?_
      refine wpAny_mono hh (fun v s2 hv => ?_) fun _ _ e => e
      exact wpAny_ite (KBy.ite_no Bool.false_ne_true (wpAny_pure hv))
  by_cases c : dn < b.size
  · simp only [if_pos c] at h
    have c' : (dn : Int).toNat < (b.map (·.toNat)).size := by simpa using c
    refine wpAny_ite (KBc.ite_yes c' ?_)
    have es : (b.map (·.toNat)).size = b.size := by simp
    rw [es]
    refine wpAny_bind (wp_slice hb ?_)
    refine wpAny_bind (wp_push hl (by omega) fun h1 k1 l1 => ?_)
    exact tail _ _ l1 fun tj k => h h1 k _ tj k1 l1
  · simp only [if_neg c] at h
    have c' : ¬ (dn : Int).toNat < (b.map (·.toNat)).size := by simpa using c
    refine wpAny_ite (KBy.ite_no c' ?_)
    exact tail _ _ hl fun tj k => h s.heap k 0 tj (fun _ _ _ e => e) hl
theorem take_eq {id : String} {b : Array UInt8} {t : Tok} : Bytes.takeBufferQuiet? id (.bytes b t) 0 = pure (some (b, none)) := by
  unfold Bytes.takeBufferQuiet? Bytes.takeBuffer?
  rw [KBy.special_eq KBy.look_buffer, KBy.own_buffer]
  have e : Bytes.buffer? id (.bytes b t) (full := ((0 : Int) == Bytes.fullReadOnly)) = pure (some b) := KBy.buffer_eq
  rw [e]
  kernel_rfl
theorem slot_bjoin : Slot "bytes" "join" "bytes.join" :=
  .of (owner := "bytes") (n := "join") (by rw [typeLookup_type, builtinLookup_eq_fast]; kernel_rfl) (by decide +kernel) (by decide +kernel) (by decide +kernel)
    (by first | exact .inl (by decide +kernel) | exact .inr (by decide +kernel)) (by rw [isSubtype_type]; kernel_rfl)
theorem entry_bjoin : entryFor table "bytes.join" = some Builtin.«bytes.join» := by first | exact entryFor_of_tree (by kernel_rfl) | exact entryFor_of_fast (by kernel_rfl)
theorem args_bjoin (a b : Value) : argsOk "bytes.join" ⟨[a, b], []⟩ := by unfold argsOk; rw [signature?_of (id := "bytes.join") (n := ['n', 'i', 'o', 'j']) (o := ['s', 'e', 't', 'y', 'b']) (by kernel_rfl) FB.owner_bytes]; kernel_rfl
theorem meets_join1 {x : Array UInt8} {tx tj : Tok} {l : Addr} :
    Meets (Builtin.«bytes.join» ⟨[.bytes #[] tj, .ref l], []⟩) (fun _ R s => ListAt s.heap l #[.bytes x tx] ∧ R (.ok (.ret (.bytes x tx))) s) := by
  refine .of_wp fun prog w A R s hS => ?_
  obtain ⟨⟨n, hl⟩, h⟩ := hS
  unfold Builtin.«bytes.join» Bytes.joinM
  refine wpAny_bind (wpAny_of_eq (a := (Value.bytes #[] tj, Value.ref l)) rfl ?_)
  dsimp only
  refine wpAny_ite (KBc.ite_yes rfl ?_)
  refine wpAny_bind ?_
  unfold Bytes.joinItems
  refine wpAny_bind (wpAny_typeOf (T := "list") ⟨_, hl, rfl⟩ ?_)
  refine wpAny_ite (KBc.ite_yes (by decide +kernel) (wpAny_pure ?_))
  refine wpAny_bind (wpAny_seqItems hl rfl ?_)
  dsimp only
  refine wpAny_ite (KBc.ite_yes rfl ?_)
  refine wpAny_bind (wpAny_typeOf (typeIs_bytes _ _ _) ?_)
  refine wpAny_ite (KBc.ite_yes (by decide +kernel) ?_)
  exact wpAny_bind (wpAny_rule (wpAny_pure ⟨_, rfl, h⟩))
theorem forIn2 {β : Type} (b : β) (f : Nat → β → Sem (ForInStep β)) : forIn [:2] b f = (f 0 b >>= fun r => match r with | .done b => pure b | .yield b => f 1 b >>= fun r => match r with | .done b => pure b | .yield b => pure b) := by
  rw [Std.Legacy.Range.forIn_eq_forIn_range']
  show forIn (List.range' 0 2 1) b f = _
  show forIn [0, 1] b f = _
  rw [List.forIn_cons]
  rfl
theorem meets_join2 {x y : Array UInt8} {tx ty tj : Tok} {l : Addr} (hz : x.size + y.size ≤ 16777216) :
    Meets (Builtin.«bytes.join» ⟨[.bytes #[] tj, .ref l], []⟩) (fun _ R s => ListAt s.heap l #[.bytes x tx, .bytes y ty] ∧ ∀ t k, R (.ok (.ret (.bytes (x ++ y) t))) { s with toks := k }) := by
  refine .of_wp fun prog w A R s hS => ?_
  obtain ⟨⟨n, hl⟩, h⟩ := hS
  unfold Builtin.«bytes.join» Bytes.joinM
  refine wpAny_bind (wpAny_of_eq (a := (Value.bytes #[] tj, Value.ref l)) rfl ?_)
  dsimp only
  refine wpAny_ite (KBc.ite_yes rfl ?_)
  refine wpAny_bind ?_
  unfold Bytes.joinItems
  refine wpAny_bind (wpAny_typeOf (T := "list") ⟨_, hl, rfl⟩ ?_)
  refine wpAny_ite (KBc.ite_yes (by decide +kernel) (wpAny_pure ?_))
  refine wpAny_bind (wpAny_seqItems hl rfl ?_)
  dsimp only
  refine wpAny_ite (KBc.ite_yes rfl ?_)
  show wpAny _ _ (forIn [:2] _ _ >>= _) _ _ _
  rw [forIn2]
  refine wpAny_bind (wpAny_bind ?_)
  refine wpAny_bind (wpAny_seqItems hl rfl ?_)
  dsimp only
  refine wpAny_ite (KBy.ite_no Bool.false_ne_true ?_)
  refine wpAny_bind (wpAny_holding (wpAny_of_eq take_eq ?_))
  dsimp only
  refine wpAny_bind (wpAny_seqItems hl rfl ?_)
  dsimp only
  refine wpAny_ite (KBy.ite_no Bool.false_ne_true ?_)
  refine wpAny_pure ?_
  dsimp only
  refine wpAny_bind ?_
  refine wpAny_bind (wpAny_seqItems hl rfl ?_)
  dsimp only
  refine wpAny_ite (KBy.ite_no Bool.false_ne_true ?_)
  refine wpAny_bind (wpAny_holding (wpAny_of_eq take_eq ?_))
  dsimp only
  refine wpAny_bind (wpAny_seqItems hl rfl ?_)
  dsimp only
  refine wpAny_ite (KBy.ite_no Bool.false_ne_true ?_)
  refine wpAny_pure ?_
  dsimp only
  refine wpAny_pure ?_
  dsimp only
  refine wpAny_bind (wpAny_of_eq (a := (#[] : Array UInt8)) rfl ?_)
  have e1 : Bytes.joined #[] (((#[] : Array (Array UInt8)).push x).push y).toList = x ++ y := by simp [Bytes.joined]
  rw [e1]
  refine wpAny_ite (KBy.ite_no (ne_true_of_eq_false (KBy.tooLong_not ?_)) ?_)
  · simp; omega
  refine wpAny_bind (wpAny_mkBytes ?_ (by rw [sizeLine_eq]; simp; omega))
  refine wpAny_bind (wpAny_holding (wpAny_point ?_))
  refine wpAny_bind ?_
  unfold Bytes.joinLetGo
  dsimp only [List.nil_append, List.cons_append]
  refine wpAny_bind (wpAny_letGo ?_)
  unfold Bytes.joinLetGo
  refine wpAny_bind (wpAny_letGo ?_)
  unfold Bytes.joinLetGo
  refine wpAny_pure ?_
  exact wpAny_pure ⟨_, rfl, h _ _⟩
end
end Mine
end
section
open PySem PySem.W PyProof.Rows PySem.Spec PySem.Calls
set_option maxRecDepth 100000
namespace Mine
open PySem.Builtin PySem.Builtin.Re
def SubGives (code : Array Nat) (groups : Nat) (b d : Array UInt8) : Prop :=
  (found code (b.map (·.toNat)) groups 0 false = some none ∧ d = (if 0 < b.size then cutB b 0 b.size else #[]))
  ∨ ∃ p q, found code (b.map (·.toNat)) groups 0 false = some (some (p, q)) ∧ found code (b.map (·.toNat)) groups q (q == p) = some none ∧ (p = 0 ∨ b.size ≤ q)
      ∧ d = (if 0 < p then cutB b 0 p else if q < b.size then cutB b q b.size else #[])
theorem cutB_size (b : Array UInt8) (i j : Nat) : (cutB b i j).size ≤ b.size := by
  simp only [cutB, Array.size_map, Array.size_extract]
  omega
section
variable {prog : Program} {w : World} {A : Around} {E : Value → Shared → Prop} {s : Shared}
theorem join_one {Q : Value → Shared → Prop} {x : Array UInt8} {tx tj : Tok} {l : Addr} (hl : ListAt s.heap l #[.bytes x tx]) (h : Q (.bytes x tx) s) :
    wpAny (model prog w) A (call (.builtin "bytes.join") [.bytes #[] tj, .ref l]) Q E s :=
  call_meets slot_bjoin (typeIs_bytes _ _ _) entry_bjoin (args_bjoin _ _) meets_join1 ⟨hl, h⟩
theorem join_two {Q : Value → Shared → Prop} {x y : Array UInt8} {tx ty tj : Tok} {l : Addr} (hz : x.size + y.size ≤ 16777216) (hl : ListAt s.heap l #[.bytes x tx, .bytes y ty])
    (h : ∀ t k, Q (.bytes (x ++ y) t) { s with toks := k }) : wpAny (model prog w) A (call (.builtin "bytes.join") [.bytes #[] tj, .ref l]) Q E s :=
  call_meets slot_bjoin (typeIs_bytes _ _ _) entry_bjoin (args_bjoin _ _) (meets_join2 hz) ⟨hl, h⟩
theorem call_sub_bytes {Q : Value → Shared → Prop} {P C : Addr} {code : Array Nat} {groups : Nat} {b d : Array UInt8} {tr t : Tok} (hp : Pat s.heap P C code groups 1) (hb : b.size ≤ 16777216)
    (hd : SubGives code groups b d) (h : ∀ h' k t', (∀ a o, s.heap.get? a = some o → h'.get? a = some o) → Q (.bytes d t') { s with heap := h', toks := k }) :
    wpAny (model prog w) A (call (.builtin "re.Pattern.sub") [.ref P, .bytes #[] tr, .bytes b t]) Q E s := by
  obtain ⟨⟨v1, f1, x1, y1, eP⟩, vs, eC, ec⟩ := id hp
  have hT : s.TypeIs (.ref P) "re.Pattern" := ⟨_, eP, rfl⟩
  refine wpAny_call (codeAny_call_builtin slot_sub.plain entry_sub (slot_sub.check _ _ _ _ _ _ _ _ hT (args_sub _ _ _) ?_))
  refine wp_sub_bytes hp (by simp) ⟨plainId_quiet plain_sub_loop _, ?_⟩
  have lP : P ≠ s.heap.objs.size := Nat.ne_of_lt (Heap.lt_size eP)
  have lC : C ≠ s.heap.objs.size := Nat.ne_of_lt (Heap.lt_size eC)
  have keep0 : ∀ a o, s.heap.get? a = some o → (s.heap.push emptyList).get? a = some o := fun a o e => Heap.get?_push_of_some _ e
  have keepL : ∀ h', KeepBut s.heap.objs.size (s.heap.push emptyList) h' → ∀ a o, s.heap.get? a = some o → h'.get? a = some o :=
    fun h' k a o e => k a o (Nat.ne_of_lt (Heap.lt_size e)) (keep0 a o e)
  have hp0 : Pat (s.heap.push emptyList) P C code groups 1 := hp.keeps keep0
  have hl0 : ListAt (s.heap.push emptyList) s.heap.objs.size #[] := ⟨0, Heap.get?_push_size _ rfl⟩
  rcases hd with ⟨hf, rfl⟩ | ⟨p, q, hf, hg, hpq, rfl⟩
  · refine loop_none (s := { s with heap := s.heap.push emptyList }) (m := 0) (dn := 0) (st := 0) hp0 hl0 (by decide) hb hf ?_
    intro h' k tk tj hk hl
    by_cases c : 0 < b.size
    · simp only [if_pos c] at hl ⊢ h
      refine KBy.ite_no (by simp) ?_
      exact join_one hl (h h' k tk (keepL h' hk))
    · simp only [if_neg c] at hl ⊢ h
      exact KBc.ite_yes rfl (h h' k tj (keepL h' hk))
  · refine loop_some (s := { s with heap := s.heap.push emptyList }) (m := 0) (dn := 0) (st := 0) hp0 lP lC hl0 (by decide) hb hf ?_
    intro h1 k1 tk1 hk1 hl1
    have hk1' := keepL h1 hk1
    refine loop_none (s := { s with heap := h1, toks := k1 }) (m := 1) (dn := q) (st := q) (hp.keeps hk1') hl1 (by split <;> simp) hb hg ?_
    intro h' k tk tj hk hl
    have hkA : ∀ a o, s.heap.get? a = some o → h'.get? a = some o := fun a o e => hk a o (Nat.ne_of_lt (Heap.lt_size e)) (hk1' a o e)
    by_cases c : 0 < p
    · have c2 : ¬ q < b.size := by omega
      simp only [if_pos c, if_neg c2] at hl ⊢ h
      refine KBy.ite_no (by simp) ?_
      refine join_two (s := { s with heap := h', toks := k }) (by have := cutB_size b 0 p; simp; omega) hl fun t2 k2 => ?_
      have := h h' k2 t2 hkA
      rw [Array.append_empty]
      exact this
    · simp only [if_neg c] at hl ⊢ h
      by_cases c2 : q < b.size
      · simp only [if_pos c2] at hl ⊢ h
        refine KBy.ite_no (by simp) ?_
        refine join_two (s := { s with heap := h', toks := k }) (by have := cutB_size b q b.size; simp; omega) hl fun t2 k2 => ?_
        have := h h' k2 t2 hkA
        rw [Array.empty_append]
        exact this
      · simp only [if_neg c2] at hl ⊢ h
        refine KBy.ite_no (by simp) ?_
        exact join_one hl (h h' k tr hkA)
end
end Mine
end
section
open PySem PySem.W PyProof.Rows PySem.Spec PySem.Calls
set_option maxRecDepth 100000
namespace Mine
open PySem.Builtin PySem.Builtin.Re
def codeQ : Array Nat := #[14, 8, 1, 2, 4294967295, 1, 1, 34, 0, 16, 34, 28, 22, 0, 4294967295, 7, 11, 13, 7, 21, 16, 34, 16, 92, 0, 15, 8, 6, 16, 92, 2, 15, 2, 0, 1, 16, 34, 1]
def stripB (step : Int) : Array UInt8 := (List.replicate step.toNat (40 : UInt8) ++ List.replicate (-step).toNat 41).toArray
def subB (code : Array Nat) (groups : Nat) (b d : Array UInt8) : Bool :=
  match found code (b.map (·.toNat)) groups 0 false with
  | some none => d == (if 0 < b.size then cutB b 0 b.size else #[])
  | some (some (p, q)) => (match found code (b.map (·.toNat)) groups q (q == p) with | some none => true | _ => false) && (p == 0 || decide (b.size ≤ q))
      && d == (if 0 < p then cutB b 0 p else if q < b.size then cutB b q b.size else #[])
  | none => false
theorem subB_gives {code : Array Nat} {groups : Nat} {b d : Array UInt8} (h : subB code groups b d = true) : SubGives code groups b d := by
  unfold subB at h
  split at h
  · rename_i e
    exact .inl ⟨e, eq_of_beq h⟩
  · rename_i p q e
    rw [Bool.and_eq_true, Bool.and_eq_true] at h
    obtain ⟨⟨h1, h2⟩, h3⟩ := h
    refine .inr ⟨p, q, e, ?_, ?_, eq_of_beq h3⟩
    · split at h1
      · assumption
      · cases h1
    · simpa using h2
  · cases h
theorem sub_0 : ∀ k : Fin 4, subB codeQ 0 (replyB (-11) (k.val : Int)) (stripB (-11)) = true := by decide +kernel
theorem sub_1 : ∀ k : Fin 4, subB codeQ 0 (replyB (-10) (k.val : Int)) (stripB (-10)) = true := by decide +kernel
theorem sub_2 : ∀ k : Fin 4, subB codeQ 0 (replyB (-9) (k.val : Int)) (stripB (-9)) = true := by decide +kernel
theorem sub_3 : ∀ k : Fin 4, subB codeQ 0 (replyB (-8) (k.val : Int)) (stripB (-8)) = true := by decide +kernel
theorem sub_4 : ∀ k : Fin 4, subB codeQ 0 (replyB (-7) (k.val : Int)) (stripB (-7)) = true := by decide +kernel
theorem sub_5 : ∀ k : Fin 4, subB codeQ 0 (replyB (-6) (k.val : Int)) (stripB (-6)) = true := by decide +kernel
theorem sub_6 : ∀ k : Fin 4, subB codeQ 0 (replyB (-5) (k.val : Int)) (stripB (-5)) = true := by decide +kernel
theorem sub_7 : ∀ k : Fin 4, subB codeQ 0 (replyB (-4) (k.val : Int)) (stripB (-4)) = true := by decide +kernel
theorem sub_8 : ∀ k : Fin 4, subB codeQ 0 (replyB (-3) (k.val : Int)) (stripB (-3)) = true := by decide +kernel
theorem sub_9 : ∀ k : Fin 4, subB codeQ 0 (replyB (-2) (k.val : Int)) (stripB (-2)) = true := by decide +kernel
theorem sub_10 : ∀ k : Fin 4, subB codeQ 0 (replyB (-1) (k.val : Int)) (stripB (-1)) = true := by decide +kernel
theorem sub_11 : ∀ k : Fin 4, subB codeQ 0 (replyB (0) (k.val : Int)) (stripB (0)) = true := by decide +kernel
theorem sub_12 : ∀ k : Fin 4, subB codeQ 0 (replyB (1) (k.val : Int)) (stripB (1)) = true := by decide +kernel
theorem sub_13 : ∀ k : Fin 4, subB codeQ 0 (replyB (2) (k.val : Int)) (stripB (2)) = true := by decide +kernel
theorem sub_14 : ∀ k : Fin 4, subB codeQ 0 (replyB (3) (k.val : Int)) (stripB (3)) = true := by decide +kernel
theorem sub_15 : ∀ k : Fin 4, subB codeQ 0 (replyB (4) (k.val : Int)) (stripB (4)) = true := by decide +kernel
theorem sub_16 : ∀ k : Fin 4, subB codeQ 0 (replyB (5) (k.val : Int)) (stripB (5)) = true := by decide +kernel
theorem sub_17 : ∀ k : Fin 4, subB codeQ 0 (replyB (6) (k.val : Int)) (stripB (6)) = true := by decide +kernel
theorem sub_18 : ∀ k : Fin 4, subB codeQ 0 (replyB (7) (k.val : Int)) (stripB (7)) = true := by decide +kernel
theorem sub_19 : ∀ k : Fin 4, subB codeQ 0 (replyB (8) (k.val : Int)) (stripB (8)) = true := by decide +kernel
theorem sub_20 : ∀ k : Fin 4, subB codeQ 0 (replyB (9) (k.val : Int)) (stripB (9)) = true := by decide +kernel
theorem sub_21 : ∀ k : Fin 4, subB codeQ 0 (replyB (10) (k.val : Int)) (stripB (10)) = true := by decide +kernel
theorem sub_22 : ∀ k : Fin 4, subB codeQ 0 (replyB (11) (k.val : Int)) (stripB (11)) = true := by decide +kernel
theorem sub_23 : ∀ k : Fin 4, subB codeQ 0 (replyB (12) (k.val : Int)) (stripB (12)) = true := by decide +kernel
theorem sub_24 : ∀ k : Fin 4, subB codeQ 0 (replyB (13) (k.val : Int)) (stripB (13)) = true := by decide +kernel
theorem sub_all (i : Nat) (hi : i < 25) (k : Fin 4) : subB codeQ 0 (replyB ((i : Int) - 11) (k.val : Int)) (stripB ((i : Int) - 11)) = true := by
    match i, hi with
    | 0, _ => exact sub_0 k
    | 1, _ => exact sub_1 k
    | 2, _ => exact sub_2 k
    | 3, _ => exact sub_3 k
    | 4, _ => exact sub_4 k
    | 5, _ => exact sub_5 k
    | 6, _ => exact sub_6 k
    | 7, _ => exact sub_7 k
    | 8, _ => exact sub_8 k
    | 9, _ => exact sub_9 k
    | 10, _ => exact sub_10 k
    | 11, _ => exact sub_11 k
    | 12, _ => exact sub_12 k
    | 13, _ => exact sub_13 k
    | 14, _ => exact sub_14 k
    | 15, _ => exact sub_15 k
    | 16, _ => exact sub_16 k
    | 17, _ => exact sub_17 k
    | 18, _ => exact sub_18 k
    | 19, _ => exact sub_19 k
    | 20, _ => exact sub_20 k
    | 21, _ => exact sub_21 k
    | 22, _ => exact sub_22 k
    | 23, _ => exact sub_23 k
    | 24, _ => exact sub_24 k
    | n + 25, h => omega
theorem sub_reply {step kind : Int} (h1 : -11 ≤ step) (h2 : step ≤ 13) (k0 : 0 ≤ kind) (k4 : kind < 4) : SubGives codeQ 0 (replyB step kind) (stripB step) := by
  have h := sub_all (step + 11).toNat (by omega) ⟨kind.toNat, by omega⟩
  have e1 : (((step + 11).toNat : Nat) : Int) - 11 = step := by omega
  have e2 : ((kind.toNat : Nat) : Int) = kind := by omega
  dsimp only at h
  rw [e1, e2] at h
  exact subB_gives h
theorem reply_size {step kind : Int} (h1 : -11 ≤ step) (h2 : step ≤ 13) : (replyB step kind).size ≤ 16777216 := by
  have : (labL kind).length ≤ 5 := by unfold labL; (repeat' split) <;> decide
  simp only [replyB, replyL, List.size_toArray, List.length_append, List.length_replicate]
  omega
theorem pat_quoted {w : World} {h : Heap} (X : (hd.heap_39 w.params).In h) : Pat h 36 35 codeQ 0 1 :=
  ⟨⟨.bytes #[34, 40, 63, 58, 91, 94, 34, 92, 92, 93, 124, 92, 92, 46, 41, 42, 43, 34] 285, .int 0 326, .none, .none, X 36 _ (by kernel_rfl)⟩, ⟨codeQ.map fun (n : Nat) => Value.int (n : Int) 0, X 35 _ (by kernel_rfl), by kernel_rfl⟩⟩
end Mine
end
section
open PySem PySem.W PyProof.Rows PySem.Spec PySem.Calls
set_option maxRecDepth 100000
namespace Mine
open PySem.Builtin PySem.Builtin.Re
theorem slot_bcount : Slot "bytes" "count" "bytes.count" :=
  .of (owner := "bytes") (n := "count") (by rw [typeLookup_type, builtinLookup_eq_fast]; kernel_rfl) (by decide +kernel) (by decide +kernel) (by decide +kernel)
    (by first | exact .inl (by decide +kernel) | exact .inr (by decide +kernel)) (by rw [isSubtype_type]; kernel_rfl)
theorem type_bcount : typeOf (.builtin "bytes.count") = pure (.type "method_descriptor") := by show builtinType _ = _; rw [builtinType_eq_fast]; kernel_rfl
theorem entry_bcount : entryFor table "bytes.count" = some Builtin.«bytes.count» := by first | exact entryFor_of_tree (by kernel_rfl) | exact entryFor_of_fast (by kernel_rfl)
theorem args_bcount (a b : Value) : argsOk "bytes.count" ⟨[a, b], []⟩ := by unfold argsOk; rw [signature?_of (id := "bytes.count") (n := ['t', 'n', 'u', 'o', 'c']) (o := ['s', 'e', 't', 'y', 'b']) (by kernel_rfl) FB.owner_bytes]; kernel_rfl
def cnt (b : Array UInt8) (c : UInt8) : Nat := if b.size < 1 then 0 else (Bytes.occurrences b #[c] 0 b.size).length
theorem meets_count {b : Array UInt8} {c : UInt8} {t u : Tok} :
    Meets (Builtin.«bytes.count» ⟨[.bytes b t, .bytes #[c] u], []⟩) (fun _ R s => R (.ok (.ret (.int (cnt b c) s.toks))) { s with toks := s.toks + 1 }) := by
  refine .of_wp fun prog w A R s h => ?_
  unfold Builtin.«bytes.count» Bytes.countM
  refine wpAny_bind ?_
  unfold Bytes.searchArgs
  refine wpAny_bind (wpAny_of_eq (a := (Value.bytes b t, [Value.bytes #[c] u])) rfl ?_)
  dsimp only
  refine wpAny_bind (wpAny_of_eq (a := none) rfl ?_)
  refine wpAny_bind (wpAny_of_eq (a := none) rfl ?_)
  refine wpAny_bind (wpAny_of_eq KBy.buffer_eq ?_)
  refine wpAny_bind (wpAny_pure ?_)
  refine wpAny_bind (wpAny_of_eq (a := b) rfl ?_)
  refine wpAny_pure ?_
  have e1 : (Bytes.window b.size none none) = (0, (b.size : Int)) := by
    simp only [Bytes.window, Option.getD_none]
    rw [if_neg (by omega), if_neg (by omega)]
    simp
  rw [e1]
  dsimp only
  unfold cnt at h
  by_cases q : b.size < 1
  · rw [if_pos q] at h
    have q' : (b.size : Int) - 0 < ((#[c] : Array UInt8).size : Nat) := by simp; omega
    rw [if_pos q']
    exact wpAny_bind (wpAny_mkInt (wpAny_pure ⟨_, rfl, h⟩))
  · rw [if_neg q] at h
    have q' : ¬ (b.size : Int) - 0 < ((#[c] : Array UInt8).size : Nat) := by simp; omega
    rw [if_neg q']
    dsimp only
    refine wpAny_ite (KBy.ite_no (by simp) ?_)
    exact wpAny_bind (wpAny_mkInt (wpAny_pure ⟨_, rfl, h⟩))
section
variable {prog : Program} {w : World} {A : Around} {E : Value → Shared → Prop} {s : Shared}
theorem call_count {Q : Value → Shared → Prop} {b : Array UInt8} {c : UInt8} {t u : Tok} (h : Q (.int (cnt b c) s.toks) { s with toks := s.toks + 1 }) :
    wpAny (model prog w) A (call (.builtin "bytes.count") [.bytes b t, .bytes #[c] u]) Q E s :=
  call_meets slot_bcount (typeIs_bytes _ _ _) entry_bcount (args_bcount _ _) meets_count h
theorem method_count {M : Model} {b : Array UInt8} {t : Tok} {pl : Sem Bool} {Q : Value × List Value → Shared → Prop} (h : Q (.builtin "bytes.count", [.bytes b t]) s) : wpAny M A (getMethod (.bytes b t) "count" pl) Q E s := by
  with_reducible exact KBd.method_of (.bytes b t) (typeIs_bytes _ _ _) slot_bcount type_bcount KBd.noRef h
theorem method_pat {M : Model} {P C : Addr} {code : Array Nat} {groups kind : Nat} {pl : Sem Bool} {Q : Value × List Value → Shared → Prop} (hp : Pat s.heap P C code groups kind) (h : Q (.builtin "re.Pattern.sub", [.ref P]) s) :
    wpAny M A (getMethod (.ref P) "sub" pl) Q E s := by
  obtain ⟨⟨v1, f1, x1, y1, eP⟩, _⟩ := hp
  refine getMethod_builtin (T := "re.Pattern") ⟨_, eP, rfl⟩ plain_pattern slot_sub type_sub (fun a ea => ?_) h
  cases ea
  exact ⟨_, eP, rfl⟩
theorem method_search {M : Model} {P C : Addr} {code : Array Nat} {groups kind : Nat} {pl : Sem Bool} {Q : Value × List Value → Shared → Prop} (hp : Pat s.heap P C code groups kind) (h : Q (.builtin "re.Pattern.search", [.ref P]) s) :
    wpAny M A (getMethod (.ref P) "search" pl) Q E s := by
  obtain ⟨⟨v1, f1, x1, y1, eP⟩, _⟩ := hp
  refine getMethod_builtin (T := "re.Pattern") ⟨_, eP, rfl⟩ plain_pattern slot_search type_search (fun a ea => ?_) h
  cases ea
  exact ⟨_, eP, rfl⟩
end
end Mine
end
section
open PySem PySem.W PyProof.Rows PySem.Spec PySem.Calls
namespace Mine
theorem endI {h₀ h' : Heap} {L : Addr} {m : Str → Option Value} {news news' : List (Addr × Obj)} {s : Shared} {Q : Value → Shared → Prop} {t : Tok} {tk' : Nat} {x y : Int}
    (hret : ∀ (t : Tok) (h' : Heap) (tk' : Nat), Fr h₀ L h' m → News h₀ L h' news → Q (.int x t) { s with heap := h', toks := tk' })
    (e : y = x) (F : Fr h₀ L h' m) (N : News h₀ L h' news') (hs : ∀ p ∈ news, p ∈ news') : Q (.int y t) { s with heap := h', toks := tk' } := by
  subst e
  exact hret t h' tk' F (fun p hp => N p (hs p hp))
section
variable {prog : Program} {w : World} {A : Around} {E : Value → Shared → Prop} {s : Shared} {h₀ : Heap} {L : Addr} {m : Str → Option Value} {news : List (Addr × Obj)}
theorem sub_K {Q : Value → Shared → Prop} {P C : Addr} {code : Array Nat} {groups : Nat} {b d : Array UInt8} {tr t : Tok} (F : Fr h₀ L s.heap m) (N : News h₀ L s.heap news) (hp : Pat s.heap P C code groups 1) (hb : b.size ≤ 16777216)
    (hd : SubGives code groups b d) (h : ∀ h' k t', Fr h₀ L h' m → News h₀ L h' news → Q (.bytes d t') { s with heap := h', toks := k }) :
    wpAny (model prog w) A (call (.builtin "re.Pattern.sub") [.ref P, .bytes #[] tr, .bytes b t]) Q E s :=
  call_sub_bytes hp hb hd fun h' k t' hk => h h' k t' (F.keeps hk) (News.keepsAll N hk)
end
theorem cnt_all : ∀ i : Fin 25, (cnt (stripB ((i.val : Int) - 11)) 40 : Int) - (cnt (stripB ((i.val : Int) - 11)) 41 : Int) = (i.val : Int) - 11 := by decide +kernel
theorem cnt_strip {step : Int} (h1 : -11 ≤ step) (h2 : step ≤ 13) : (cnt (stripB step) 40 : Int) - (cnt (stripB step) 41 : Int) = step := by
  have h := cnt_all ⟨(step + 11).toNat, by omega⟩
  have e1 : (((step + 11).toNat : Nat) : Int) - 11 = step := by omega
  dsimp only at h
  rw [e1] at h
  exact h
set_option maxRecDepth 100000 in
set_option maxHeartbeats 8000000 in
theorem paren_sum {w : World} {p : Program} {loose : List Str} {mean : ExcName → Option Value} {mg mb : Str → Option Value}
    (step kind d : Int) (ts tk : Tok) (h1 : -11 ≤ step) (h2 : step ≤ 13) (k0 : 0 ≤ kind) (k4 : kind < 4) (news : List (Addr × Obj)) :
    CbClaim PySem.Challenge.rw_zn0002_01.row.prog w (hd.heap_39 w.params) p loose mean mg mb 44 news [] True [.bytes (replyB step kind) ts, .int d tk] (fun t => .int (d + step) t) := by
  w_top off
  k_fill
  dsimp only [CbClaim, CbLists, CbRet]
  intros
  rename_i hret
  have cbI : CbIn 44 := CbIn.mk
  refine wpAny_call ?_
  k_dflt ((refine' code_def ?k1q9 ?k2q9 ?k3q9 ?k4q9 ?k5q9 ?kAq9 ?kFq9 ?kKq9 ?k6q9 ?k7q9 ?k8q9 ?k9q9 ?kBq9 ?_ ?c2q9 ?c3q9 ?c4q9 ?c5q9; (case kAq9 => exact rfl); (case kFq9 => exact rfl); (case kKq9 => assumption); (case k1q9 => k_asm); (case k2q9 => k_asm); (case k3q9 => k_asm); (case k4q9 => k_asm); (case k5q9 => k_asm); (case k6q9 => k_is); (case k7q9 => k_is); (case k8q9 => ktr_room); (case k9q9 => first | exact BindsTo.of_eq rfl | exact binds_K (by k_in) rfl (by k_is) rfl rfl rfl); (case c5q9 => decide); (case kBq9 => exact locs rfl); (case c2q9 => exact rfl); (case c3q9 => exact rfl); (case c4q9 => exact rfl); k_whole; intro g' L' h' FG' F' N' B' X' T'; (try dsimp only); (try k_lift B'); (try k_fold)))
  (repeat' (first | (k_unfold; (try dsimp only)) | (k_end; wrow_close) | ((with_reducible show wpAny _ _ (eval (Expr.Name _ _) (compEnvC _ _ _ _)) _ _ _); (first | (with_reducible ((name_kind "globalImplicit"); k_dflt (refine LCgL.ld_global (by k_asm) (by k_asm) (by k_asm) (by k_is) ?_))) | (with_reducible ((name_kind "local"); k_dflt (refine LCgL.ld_own (by k_asm) (by k_mem) (by assumption) (by assumption) ?_))) | (with_reducible (k_dflt (refine kcf_cell (by k_asm) (by rfl) (by k_mem) (by k_asm) ?_))))) | ((with_reducible show wpAny _ _ (callWith _ (Value.builtin _) (_ :: _) _ _) _ _ _); (first | (with_reducible (refine callWith_method1 ?_)) | (refine callWith_method1 ?_))) | ((with_reducible show wpAny _ _ (eval (Expr.Name _ _) _) _ _ _); (first | (with_reducible ((name_kind "local"); k_dflt (refine' nameX_L ?xFq18 ?xvq18 ?_ ?xaq18 ?xbq18; (case xaq18 => rfl); (case xbq18 => rfl); (case xFq18 => k_asm); (case xvq18 => rfl); k_whole))) | (with_reducible ((name_kind "globalImplicit"); k_dflt (refine' nameX_K ?yFq19 ?yXq19 ?yTq19 ?yeq19 ?_ ?yaq19 ?ybq19; (case yaq19 => rfl); (case ybq19 => rfl); (case yFq19 => k_asm); (case yXq19 => k_asm); (case yTq19 => k_asm); (case yeq19 => k_is); k_whole))))) | ((with_reducible show wpAny _ _ (callWith _ (Value.ref _) _ _ _) _ _ _); (with_reducible (k_dflt (refine' callWith_K ?zXq20 ?zkq20 ?_; (case zXq20 => k_asm); (case zkq20 => k_is); k_whole)))) | ((with_reducible show wpAny _ _ (call (Value.builtin "bytes.count") _) _ _ _); (with_reducible ((refine call_count ?_)))) | ((with_reducible show wpAny _ _ (call (Value.builtin "re.Pattern.sub") _) _ _ _); (with_reducible ((k_dflt (refine' sub_K ?Fq12 ?Nq12 (pat_quoted (by k_in)) (reply_size (by assumption) (by assumption)) (sub_reply (by assumption) (by assumption) (by assumption) (by assumption)) ?_; (case Fq12 => k_asm); (case Nq12 => k_asm); k_whole); intro h' k' t' F' N'; (try k_sweep))))) | ((with_reducible show wpAny _ _ (getMethod (Value.bytes _ _) _ _) _ _ _); (with_reducible (((with_reducible show wpAny _ _ (getMethod (Value.bytes _ _) (PySem.Str.ofString "count") _) _ _ _); (refine method_count ?_))))) | ((with_reducible show wpAny _ _ (getMethod (Value.ref _) _ _) _ _ _); (with_reducible (((with_reducible show wpAny _ _ (getMethod (Value.ref _) (PySem.Str.ofString "sub") _) _ _ _); (refine method_pat (pat_quoted (by k_in)) ?_))))) | walk1 | ((fail_if_success k_end); dsimp only) | (leave1; walk_say "STEP leave1"; (try dsimp only)) | fail "no step"))
  all_goals (refine' endI hret ?e ?F ?N ?S; (case F => k_asm); (case N => k_asm); (case S => kcj_all); (case e => have := cnt_strip h1 h2; omega))
end Mine
end
section
open PySem PySem.W PyProof.Rows PySem.Spec PySem.Calls
namespace Mine
abbrev zSign (dress : Int) : Str := [Str.ofString "", Str.ofString "+"].getD (dress.fmod 2).toNat Str.empty
abbrev zEnd (dress : Int) : Str := [Str.ofString "", Str.ofString "00", Str.ofString ":00", Str.ofString ":"].getD (dress.fmod 4).toNat Str.empty
abbrev zHours (step : Int) : Str := Str.ofString (toString (if step < 0 then -step else step))
abbrev zLong (step : Int) : Str := Txt.slice (Str.ofString "0" ++ Str.ofString (toString (if step < 0 then -step else step))) (some (-2)) none
def zoneS (step dress : Int) : Str :=
  if step = 0 ∧ dress.fmod 4 = 0 then Str.ofString "GMT" else
  if step < 0 then (if 3 < dress then Str.ofString "-" ++ zLong step ++ zEnd dress else Str.ofString "-" ++ zHours step ++ zEnd dress)
  else (if 3 < dress then zSign dress ++ zLong step ++ zEnd dress else zSign dress ++ zHours step ++ zEnd dress)
theorem z_gmt {step dress : Int} (h1 : step = 0) (h2 : dress.fmod 4 = 0) : Str.ofString "GMT" = zoneS step dress := by
  unfold zoneS; rw [if_pos ⟨h1, h2⟩]
theorem z_nl {step dress : Int} (h1 : step < 0) (h2 : 3 < dress) : Str.ofString "-" ++ zLong step ++ zEnd dress = zoneS step dress := by
  unfold zoneS; rw [if_neg (fun h => by omega), if_pos h1, if_pos h2]
theorem z_ns {step dress : Int} (h1 : step < 0) (h2 : ¬ 3 < dress) : Str.ofString "-" ++ zHours step ++ zEnd dress = zoneS step dress := by
  unfold zoneS; rw [if_neg (fun h => by omega), if_pos h1, if_neg h2]
theorem z_pl {step dress : Int} (h0 : ¬ (step = 0 ∧ dress.fmod 4 = 0)) (h1 : ¬ step < 0) (h2 : 3 < dress) : zSign dress ++ zLong step ++ zEnd dress = zoneS step dress := by
  unfold zoneS; rw [if_neg h0, if_neg h1, if_pos h2]
theorem z_ps {step dress : Int} (h0 : ¬ (step = 0 ∧ dress.fmod 4 = 0)) (h1 : ¬ step < 0) (h2 : ¬ 3 < dress) : zSign dress ++ zHours step ++ zEnd dress = zoneS step dress := by
  unfold zoneS; rw [if_neg h0, if_neg h1, if_neg h2]
theorem len_app {x y : Str} {n k : Nat} (hx : x.length ≤ n) (hy : y.length ≤ k) : (x ++ y).length ≤ n + k := by
  rw [Str.length_append]; omega
theorem len_getD {ws : List Str} {n i : Nat} (h : ∀ x ∈ ws, x.length ≤ n) : (ws.getD i Str.empty).length ≤ n := by
  rw [List.getD_eq_getElem?_getD]
  cases e : ws[i]? with
  | none => exact Nat.zero_le _
  | some x => exact h x (List.mem_of_getElem? e)
theorem len_lit {n : Nat} {x : String} (h : (Str.ofString x).length ≤ n) : (Str.ofString x).length ≤ n := h
theorem len_all : ∀ i : Fin 25, (Str.ofString (toString (if ((i.val : Int) - 11) < 0 then -((i.val : Int) - 11) else ((i.val : Int) - 11)))).length ≤ 2 := by decide +kernel
theorem len_abs {step : Int} (h1 : -11 ≤ step) (h2 : step ≤ 13) : (Str.ofString (toString (if step < 0 then -step else step))).length ≤ 2 := by
  have h := len_all ⟨(step + 11).toNat, by omega⟩
  have e1 : (((step + 11).toNat : Nat) : Int) - 11 = step := by omega
  dsimp only at h
  rw [e1] at h
  exact h
theorem add_small {prog : Program} {w : World} {A : Around} {E : Value → Shared → Prop} {s : Shared} {x y : Str} {t u : Tok} {n k : Nat} {Q : Value → Shared → Prop} (hx : x.length ≤ n) (hy : y.length ≤ k) (hn : n + k ≤ 1000)
    (h : ∀ t' tk, Q (.str (x ++ y) t') { s with toks := tk }) : wpAny (model prog w) A (binaryOp .Add (.str x t) (.str y u)) Q E s :=
  PyProof.Rows.add_str h (by rw [sizeLine_eq]; omega)
theorem endS {h₀ h' : Heap} {L : Addr} {m : Str → Option Value} {news news' : List (Addr × Obj)} {s : Shared} {Q : Value → Shared → Prop} {t : Tok} {tk' : Nat} {x y : Str}
    (hret : ∀ (t : Tok) (h' : Heap) (tk' : Nat), Fr h₀ L h' m → News h₀ L h' news → Q (.str x t) { s with heap := h', toks := tk' })
    (e : y = x) (F : Fr h₀ L h' m) (N : News h₀ L h' news') (hs : ∀ p ∈ news, p ∈ news') : Q (.str y t) { s with heap := h', toks := tk' } := by
  subst e
  exact hret t h' tk' F (fun p hp => N p (hs p hp))
theorem len_slice {step : Int} (h : (Str.ofString (toString (if step < 0 then -step else step))).length ≤ 2) :
    (Txt.slice (Str.ofString "0" ++ Str.ofString (toString (if step < 0 then -step else step))) (some (-2)) none).length ≤ 3 := by
  refine Nat.le_trans (Txt.slice_le _ _ _) ?_
  have e : (Str.ofString "0").length = 1 := by decide
  rw [Str.length_append, e]
  omega
set_option maxRecDepth 100000 in
set_option maxHeartbeats 8000000 in
theorem zone_sum {w : World} {p : Program} {loose : List Str} {mean : ExcName → Option Value} {mg mb : Str → Option Value}
    (step dress : Int) (ts td : Tok) (h1 : -11 ≤ step) (h2 : step ≤ 13) (k0 : 0 ≤ dress) (k8 : dress < 8) (news : List (Addr × Obj)) :
    CbClaim PySem.Challenge.rw_zn0002_01.row.prog w (hd.heap_39 w.params) p loose mean mg mb 103 news [] True [.int step ts, .int dress td] (fun t => .str (zoneS step dress) t) := by
  w_top off
  (k_with "table" => skip)
  k_fill
  dsimp only [CbClaim, CbLists, CbRet]
  intros
  rename_i hret
  have cbI : CbIn 103 := CbIn.mk
  have b1 := len_abs h1 h2
  have b2 := len_slice b1
  have b3 : (([Str.ofString "", Str.ofString "+"] : List Str).getD (dress.fmod 2).toNat Str.empty).length ≤ 4 := len_getD (by decide +kernel)
  have b4 : (([Str.ofString "", Str.ofString "00", Str.ofString ":00", Str.ofString ":"] : List Str).getD (dress.fmod 4).toNat Str.empty).length ≤ 4 := len_getD (by decide +kernel)
  have b5 : (Str.ofString "0").length = 1 := by decide
  have b6 : (Str.ofString "-").length = 1 := by decide
  refine wpAny_call ?_
  k_dflt cell_enter
  (repeat' (first | (k_unfold; (try dsimp only)) | (k_end; wrow_close) | ((with_reducible show wpAny _ _ (eval (Expr.Name _ _) (compEnvC _ _ _ _)) _ _ _); (first | (with_reducible ((name_kind "globalImplicit"); k_dflt (refine LCgL.ld_global (by k_asm) (by k_asm) (by k_asm) (by k_is) ?_))) | (with_reducible ((name_kind "local"); k_dflt (refine LCgL.ld_own (by k_asm) (by k_mem) (by assumption) (by assumption) ?_))) | (with_reducible (k_dflt (refine kcf_cell (by k_asm) (by rfl) (by k_mem) (by k_asm) ?_))))) | ((with_reducible show wpAny _ _ (callWith _ (Value.builtin _) (_ :: _) _ _) _ _ _); (first | (with_reducible (refine callWith_method1 ?_)) | (refine callWith_method1 ?_))) | ((with_reducible show wpAny _ _ (eval (Expr.Name _ _) _) _ _ _); (first | (with_reducible ((name_kind "local"); k_dflt (refine' nameX_L ?xFq26 ?xvq26 ?_ ?xaq26 ?xbq26; (case xaq26 => rfl); (case xbq26 => rfl); (case xFq26 => k_asm); (case xvq26 => rfl); k_whole))) | (with_reducible ((name_kind "globalImplicit"); k_dflt (refine' nameX_K ?yFq27 ?yXq27 ?yTq27 ?yeq27 ?_ ?yaq27 ?ybq27; (case yaq27 => rfl); (case ybq27 => rfl); (case yFq27 => k_asm); (case yXq27 => k_asm); (case yTq27 => k_asm); (case yeq27 => k_is); k_whole))))) | ((with_reducible show wpAny _ _ (callWith _ (Value.ref _) _ _ _) _ _ _); (with_reducible (k_dflt (refine' callWith_K ?zXq28 ?zkq28 ?_; (case zXq28 => k_asm); (case zkq28 => k_is); k_whole)))) | ((with_reducible show wpAny _ _ (binaryOp Operator.Add (Value.str _ _) (Value.str _ _)) _ _ _); (with_reducible (((refine PyProof.Rows.add_str ?_ (by (simp only [Str.length_append, sizeLine_eq]; omega))); intro _ _)))) | walk1 | ((fail_if_success k_end); dsimp only) | (leave1; walk_say "STEP leave1"; (try dsimp only)) | fail "no step"))
  all_goals (refine' endS hret ?e ?F ?N ?S; (case F => k_asm); (case N => k_asm); (case S => kcj_all); (case e => first
    | ((have q1 : step < 0 := by omega); (have q2 : 3 < dress := by omega); exact z_nl q1 q2)
    | ((have q1 : step < 0 := by omega); (have q2 : ¬ 3 < dress := by omega); exact z_ns q1 q2)
    | ((have q0 : step = 0 := by omega); (have q1 : dress.fmod 4 = 0 := by omega); exact z_gmt q0 q1)
    | ((have q0 : ¬ (step = 0 ∧ dress.fmod 4 = 0) := by omega); (have q1 : ¬ step < 0 := by omega); (have q2 : 3 < dress := by omega); exact z_pl q0 q1 q2)
    | ((have q0 : ¬ (step = 0 ∧ dress.fmod 4 = 0) := by omega); (have q1 : ¬ step < 0 := by omega); (have q2 : ¬ 3 < dress := by omega); exact z_ps q0 q1 q2)))
end Mine
end
section
open PySem PySem.W PyProof.Rows PySem.Spec PySem.Calls
set_option maxRecDepth 100000
namespace Mine
open PySem.Builtin PySem.Builtin.Re
/-- the ints of a match: its start, its end, and two for each group -/
def spansOf (groups : Nat) (m : Sre.M) : List Int :=
  (m.start : Int) :: (m.handed : Int) :: (List.range groups).flatMap fun g =>
    match if ((2 * g + 1 : Nat) : Int) ≤ m.lastmark then (m.marks.getD (2 * g) none, m.marks.getD (2 * g + 1) none) else (none, none) with
    | (some b, some e) => [(b : Int), (e : Int)]
    | _ => [-1, -1]
def spansBad (groups : Nat) (m : Sre.M) : Bool :=
  (List.range groups).any (fun g => match m.marks.getD (2 * g) none, m.marks.getD (2 * g + 1) none with | some b, some e => ((2 * g + 1 : Nat) : Int) ≤ m.lastmark && e < b | _, _ => false)
/-- what a search tells: the match's ints -/
def foundS (code text : Array Nat) (groups : Nat) : Option (Option (List Int)) :=
  match drv 1000 (Sre.forSearch code text groups 0 text.size false) with
  | some m => (match m.outcome with
    | some .matched => if spansBad groups m then none else some (some (spansOf groups m))
    | some .failed => some none
    | _ => none)
  | none => none
abbrev matchObj (P : Addr) (tz : Str) (tt : Tok) (lim : Nat) (li : Int) (q : Addr) : Obj := { cls := .type "re.Match", data := .fields #[.str tz tt, .ref P, .int 0 0, .int (lim : Int) 0, .int li 0, .ref q] }
abbrev spanObj (sp : List Int) : Obj := { cls := .type "tuple", data := .seq (sp.map rawInt).toArray }
section
variable {prog : Program} {w : World} {A : Around} {E : Value → Shared → Prop} {s : Shared}
theorem named_search (P v : Value) : reNamed "re.Pattern.search" "search" ["string", "pos", "endpos"] 1 [v] [] = pure [some v, none, none] := by kernel_rfl
theorem spans_raw (groups : Nat) (m : Sre.M) (f : Nat → List Value) (hf : ∀ g, f g =
    match if ((2 * g + 1 : Nat) : Int) ≤ m.lastmark then (m.marks.getD (2 * g) none, m.marks.getD (2 * g + 1) none) else (none, none) with
    | (some b, some e) => [rawInt b, rawInt e]
    | _ => [rawInt (-1), rawInt (-1)]) : ((rawInt m.start :: rawInt m.handed :: (List.range groups).flatMap f) : List Value) = (spansOf groups m).map rawInt := by
  unfold spansOf
  rw [List.map_cons, List.map_cons, List.map_flatMap]
  congr 3
  funext g
  rw [hf]
  split <;> rfl
theorem wp_search {Q : PySem.Fin → Shared → Prop} {P C : Addr} {code : Array Nat} {groups : Nat} {tz : Str} {tt : Tok} {sp : List Int} (hp : Pat s.heap P C code groups 0)
    (hf : foundS code tz.cps groups = some (some sp)) (hsp : sp.length ≤ 1000) (hz : tz.cps.size ≤ 1000)
    (h : ∀ li, Q (.done (.ret (.ref (s.heap.push (spanObj sp)).objs.size))) { s with heap := (s.heap.push (spanObj sp)).push (matchObj P tz tt tz.cps.size li s.heap.objs.size) }) :
    wpAny (model prog w) A (Builtin.«re.Pattern.search» ⟨[.ref P, .str tz tt], []⟩) Q E s := by
  obtain ⟨⟨v, f, x, y, e⟩, vs, e2, e3⟩ := hp
  unfold Builtin.«re.Pattern.search»
  refine wpAny_bind ?_
  unfold reTarget
  refine wpAny_bind (wpAny_of_eq (named_search (.ref P) _) ?_)
  dsimp only
  refine wpAny_bind (wpAny_of_eq (a := (0 : Int)) rfl ?_)
  refine wpAny_bind (wpAny_of_eq (a := ((2 : Int) ^ 63 - 1)) rfl ?_)
  refine wpAny_bind (wpAny_fieldsOf e rfl ?_)
  refine wpAny_bind (wpAny_of_eq (a := (tz.cps, 0)) rfl ?_)
  dsimp only
  refine wpAny_ite (KBy.ite_no Bool.false_ne_true ?_)
  refine wpAny_ite (KBy.ite_no Bool.false_ne_true ?_)
  refine wpAny_bind (wpAny_of_eq (a := ()) rfl ?_)
  refine wpAny_bind ?_
  unfold reRawItems
  refine wpAny_bind (wpAny_seqItems e2 rfl ?_)
  refine wpAny_pure ?_
  refine wpAny_pure ?_
  have el : Min.min ((2 : Int) ^ 63 - 1).toNat tz.cps.size = tz.cps.size := by
    have : tz.cps.size ≤ 1000 := hz
    omega
  have e0 : Min.min (Int.toNat 0) tz.cps.size = 0 := Nat.min_eq_left (Nat.zero_le _)
  dsimp only [Option.getD_some]
  rw [el, e0, e3]
  have eg : reRawNat (#[v, f, Value.int (groups : Int) 0, x, y, Value.ref C, Value.int ((0 : Nat) : Int) 0].getD 2 Value.none) = groups := rfl
  rw [eg]
  unfold reAnswer
  show wpAny _ _ (reRunToEnd (Sre.forSearch code tz.cps groups 0 tz.cps.size false) >>= _) _ _ _
  unfold foundS at hf
  split at hf
  · rename_i m hm
    split at hf
    · rename_i ho
      split at hf
      · cases hf
      · rename_i hbad
        injection hf with hf
        injection hf with hf
        refine wpAny_bind (wp_end 1000 hm (by decide) ?_)
        rw [ho]
        refine wpAny_pure ?_
        dsimp only
        refine wpAny_bind ?_
        unfold reNewMatch
        have hb2 : spansBad groups m = false := by simpa using hbad
        unfold spansBad at hb2
        refine wpAny_ite (KBy.ite_no (ne_true_of_eq_false hb2) ?_)
        show wpAny _ _ (newTuple _ >>= _) _ _ _
        rw [spans_raw groups m, hf]
        rotate_left 1
        · intro g
          rfl
        refine wpAny_bind (wpAny_newTuple ?_ (by rw [sizeLine_eq, List.length_map]; omega))
        unfold newFields
        refine wpAny_newObj_type ?_ (by show 6 ≤ sizeLine + 2; rw [sizeLine_eq]; decide)
        exact wpAny_pure (h _)
    · cases hf
    · cases hf
  · cases hf
theorem search_K {Q : Value → Shared → Prop} {P C L : Addr} {h₀ : Heap} {m : Str → Option Value} {news : List (Addr × Obj)} {code : Array Nat} {groups : Nat} {tz : Str} {tt : Tok} {sp : List Int} (F : Fr h₀ L s.heap m) (N : News h₀ L s.heap news) (hp : Pat s.heap P C code groups 0)
    (hf : foundS code tz.cps groups = some (some sp)) (hsp : sp.length ≤ 1000) (hz : tz.cps.size ≤ 1000)
    (h : ∀ q1 q2 h' li, Fr h₀ L h' m → News h₀ L h' ((q2, matchObj P tz tt tz.cps.size li q1) :: (q1, spanObj sp) :: news) → (∀ p ∈ news, p.1 < q1) → q1 < q2 → Q (.ref q2) { s with heap := h' }) :
    wpAny (model prog w) A (call (.builtin "re.Pattern.search") [.ref P, .str tz tt]) Q E s := by
  obtain ⟨⟨v1, f1, x1, y1, eP⟩, vs, eC, ec⟩ := id hp
  have hT : s.TypeIs (.ref P) "re.Pattern" := ⟨_, eP, rfl⟩
  refine wpAny_call (codeAny_call_builtin slot_search.plain entry_search (slot_search.check _ _ _ _ _ _ _ _ hT (args_search _ _) ?_))
  refine wp_search hp hf hsp hz fun li => ?_
  have F1 := F.push (spanObj sp)
  have N1 := N.push F (spanObj sp) rfl
  refine h _ _ _ li (F1.push _) (N1.push F1 _ rfl) (fun p hp => Heap.lt_size (N p hp).1) ?_
  rw [Heap.size_push]
  exact Nat.lt_succ_self _
def grp (tz : Str) (sp : List Int) (g : Nat) : Option Str :=
  if sp.getD (2 * g) (-1) < 0 || sp.getD (2 * g + 1) (-1) < 0 then none else some ⟨tz.cps.extract (sp.getD (2 * g) (-1)).toNat (sp.getD (2 * g + 1) (-1)).toNat⟩
theorem wp_group {Q : PySem.Fin → Shared → Prop} {P q q1 : Addr} {tz : Str} {tt u : Tok} {lim : Nat} {li : Int} {sp : List Int} {g : Nat} (hq : s.heap.get? q = some (matchObj P tz tt lim li q1)) (hq1 : s.heap.get? q1 = some (spanObj sp))
    (hg : 2 * g < sp.length) (hz : tz.cps.size ≤ 1000)
    (h : match grp tz sp g with | none => Q (.done (.ret .none)) s | some x => Q (.done (.ret (.str x s.toks))) { s with toks := s.toks + 1 }) :
    wpAny (model prog w) A (Builtin.«re.Match.group» ⟨[.ref q, .int (g : Int) u], []⟩) Q E s := by
  unfold Builtin.«re.Match.group»
  refine wpAny_bind (wpAny_of_eq (a := ()) rfl ?_)
  dsimp only
  refine wpAny_bind ?_
  unfold reFound
  refine wpAny_bind (wpAny_fieldsOf hq rfl ?_)
  refine wpAny_bind ?_
  unfold reRawItems
  refine wpAny_bind (wpAny_seqItems hq1 rfl ?_)
  refine wpAny_pure ?_
  refine wpAny_pure ?_
  have e1 : Array.map reRawOf ((some (sp.map rawInt).toArray).getD #[]) = sp.toArray := by
    simp [reRawOf, rawInt, Function.comp_def]
  rw [e1]
  refine wpAny_bind ?_
  unfold reGroupNumber
  refine wpAny_bind (wpAny_of_eq (a := some (g : Int)) rfl ?_)
  refine wpAny_ite (KBc.ite_yes rfl ?_)
  refine wpAny_bind (wpAny_of_eq (a := (g : Int)) rfl ?_)
  refine wpAny_ite (KBy.ite_no (by simp; omega) ?_)
  refine wpAny_pure ?_
  refine wpAny_bind ?_
  unfold reGroupText
  dsimp only
  have e2 : ∀ i, sp.toArray.getD i (-1) = sp.getD i (-1) := fun i => by simp
  have e3 : (g : Int).toNat = g := rfl
  rw [e3, e2, e2]
  unfold grp at h
  by_cases c : (sp.getD (2 * g) (-1) < 0 || sp.getD (2 * g + 1) (-1) < 0) = true
  · rw [if_pos c] at h
    refine wpAny_ite (KBc.ite_yes (by simpa using c) ?_)
    exact wpAny_pure (wpAny_pure h)
  · rw [if_neg c] at h
    refine wpAny_ite (KBy.ite_no (by simpa using c) ?_)
    refine wpAny_bind (wpAny_of_eq (a := (tz.cps, 0)) rfl ?_)
    unfold reSlice
    refine wpAny_ite (KBc.ite_yes rfl ?_)
    refine wpAny_mkStr (wpAny_pure h) ?_
    rw [sizeLine_eq]
    show (tz.cps.extract _ _).size ≤ _
    rw [Array.size_extract]
    omega
theorem group_K {Q : Value → Shared → Prop} {P q q1 L : Addr} {h₀ : Heap} {news : List (Addr × Obj)} {tz : Str} {tt u : Tok} {lim : Nat} {li : Int} {sp : List Int} {g : Nat} (N : News h₀ L s.heap news) (m1 : (q, matchObj P tz tt lim li q1) ∈ news) (m2 : (q1, spanObj sp) ∈ news)
    (hg : 2 * g < sp.length) (hz : tz.cps.size ≤ 1000)
    (h : match grp tz sp g with | none => Q .none s | some x => Q (.str x s.toks) { s with toks := s.toks + 1 }) :
    wpAny (model prog w) A (call (.builtin "re.Match.group") [.ref q, .int (g : Int) u]) Q E s := by
  have hq := (N _ m1).1
  have hq1 := (N _ m2).1
  have hT : s.TypeIs (.ref q) "re.Match" := ⟨_, hq, rfl⟩
  refine wpAny_call (codeAny_call_builtin slot_group.plain entry_group (slot_group.check _ _ _ _ _ _ _ _ hT (args_group _ _) ?_))
  refine wp_group hq hq1 hg hz ?_
  cases e : grp tz sp g with
  | none => rw [e] at h; exact h
  | some x => rw [e] at h; exact h
theorem group_none {Q : Value → Shared → Prop} {P q q1 L : Addr} {h₀ : Heap} {news : List (Addr × Obj)} {tz : Str} {tt u : Tok} {lim : Nat} {li : Int} {sp : List Int} {g : Nat} (N : News h₀ L s.heap news) (m1 : (q, matchObj P tz tt lim li q1) ∈ news) (m2 : (q1, spanObj sp) ∈ news)
    (hg : 2 * g < sp.length) (hz : tz.cps.size ≤ 1000) (e : grp tz sp g = none) (h : Q .none s) :
    wpAny (model prog w) A (call (.builtin "re.Match.group") [.ref q, .int (g : Int) u]) Q E s := group_K N m1 m2 hg hz (by rw [e]; exact h)
theorem group_some {Q : Value → Shared → Prop} {P q q1 L : Addr} {h₀ : Heap} {news : List (Addr × Obj)} {tz : Str} {tt u : Tok} {lim : Nat} {li : Int} {sp : List Int} {g : Nat} {x : Str} (N : News h₀ L s.heap news) (m1 : (q, matchObj P tz tt lim li q1) ∈ news) (m2 : (q1, spanObj sp) ∈ news)
    (hg : 2 * g < sp.length) (hz : tz.cps.size ≤ 1000) (e : grp tz sp g = some x) (h : Q (.str x s.toks) { s with toks := s.toks + 1 }) :
    wpAny (model prog w) A (call (.builtin "re.Match.group") [.ref q, .int (g : Int) u]) Q E s := group_K N m1 m2 hg hz (by rw [e]; exact h)
theorem method_group {M : Model} {P q q1 L : Addr} {h₀ : Heap} {news : List (Addr × Obj)} {tz : Str} {tt : Tok} {lim : Nat} {li : Int} {pl : Sem Bool} {Q : Value × List Value → Shared → Prop} (N : News h₀ L s.heap news) (m1 : (q, matchObj P tz tt lim li q1) ∈ news)
    (h : Q (.builtin "re.Match.group", [.ref q]) s) : wpAny M A (getMethod (.ref q) "group" pl) Q E s := by
  have hq := (N _ m1).1
  refine getMethod_builtin (T := "re.Match") ⟨_, hq, rfl⟩ plain_match slot_group type_group (fun a ea => ?_) h
  cases ea
  exact ⟨_, hq, rfl⟩
end
end Mine
end
section
open PySem PySem.W PyProof.Rows PySem.Spec PySem.Calls
set_option maxRecDepth 100000
namespace Mine
open PySem.Builtin PySem.Builtin.Re
def codeZ : Array Nat := #[14, 4, 0, 1, 6, 6, 0, 23, 14, 0, 1, 17, 0, 13, 6, 16, 45, 16, 43, 0, 17, 1, 18, 17, 2, 13, 4, 8, 0, 0, 24, 9, 0, 1, 13, 4, 8, 0, 0, 1, 17, 3, 24, 6, 0, 1, 16, 58, 1, 23, 17, 0, 1, 17, 4, 13, 4, 8, 0, 0, 13, 4, 8, 0, 0, 17, 5, 18, 6, 5, 1]
def zoneB (step dress : Int) : Bool :=
  (step == 0 && dress.fmod 4 == 0 && zoneS step dress == Str.ofString "GMT") ||
  (match foundS codeZ (zoneS step dress).cps 3 with
  | some (some sp) => decide (sp.length = 8) && decide ((zoneS step dress).cps.size ≤ 20)
    && (zoneS step dress != Str.ofString "GMT" && zoneS step dress != Str.ofString "UTC" && zoneS step dress != Str.ofString "UT" && zoneS step dress != Str.ofString "Z")
    && (match grp (zoneS step dress) sp 2 with | some x => decide (PySem.intText? x = some (if step < 0 then -step else step)) && decide (x.length ≤ 20) | none => false)
    && (grp (zoneS step dress) sp 3 == none || grp (zoneS step dress) sp 3 == some (Str.ofString "00"))
    && ((grp (zoneS step dress) sp 1 == none && decide (0 ≤ step)) || (grp (zoneS step dress) sp 1 == some (Str.ofString "+") && decide (0 ≤ step)) || (grp (zoneS step dress) sp 1 == some (Str.ofString "-") && decide (step < 0)))
  | _ => false)
theorem zone_0 : ∀ d : Fin 8, zoneB (-11) (d.val : Int) = true := by decide +kernel
theorem zone_1 : ∀ d : Fin 8, zoneB (-10) (d.val : Int) = true := by decide +kernel
theorem zone_2 : ∀ d : Fin 8, zoneB (-9) (d.val : Int) = true := by decide +kernel
theorem zone_3 : ∀ d : Fin 8, zoneB (-8) (d.val : Int) = true := by decide +kernel
theorem zone_4 : ∀ d : Fin 8, zoneB (-7) (d.val : Int) = true := by decide +kernel
theorem zone_5 : ∀ d : Fin 8, zoneB (-6) (d.val : Int) = true := by decide +kernel
theorem zone_6 : ∀ d : Fin 8, zoneB (-5) (d.val : Int) = true := by decide +kernel
theorem zone_7 : ∀ d : Fin 8, zoneB (-4) (d.val : Int) = true := by decide +kernel
theorem zone_8 : ∀ d : Fin 8, zoneB (-3) (d.val : Int) = true := by decide +kernel
theorem zone_9 : ∀ d : Fin 8, zoneB (-2) (d.val : Int) = true := by decide +kernel
theorem zone_10 : ∀ d : Fin 8, zoneB (-1) (d.val : Int) = true := by decide +kernel
theorem zone_11 : ∀ d : Fin 8, zoneB (0) (d.val : Int) = true := by decide +kernel
theorem zone_12 : ∀ d : Fin 8, zoneB (1) (d.val : Int) = true := by decide +kernel
theorem zone_13 : ∀ d : Fin 8, zoneB (2) (d.val : Int) = true := by decide +kernel
theorem zone_14 : ∀ d : Fin 8, zoneB (3) (d.val : Int) = true := by decide +kernel
theorem zone_15 : ∀ d : Fin 8, zoneB (4) (d.val : Int) = true := by decide +kernel
theorem zone_16 : ∀ d : Fin 8, zoneB (5) (d.val : Int) = true := by decide +kernel
theorem zone_17 : ∀ d : Fin 8, zoneB (6) (d.val : Int) = true := by decide +kernel
theorem zone_18 : ∀ d : Fin 8, zoneB (7) (d.val : Int) = true := by decide +kernel
theorem zone_19 : ∀ d : Fin 8, zoneB (8) (d.val : Int) = true := by decide +kernel
theorem zone_20 : ∀ d : Fin 8, zoneB (9) (d.val : Int) = true := by decide +kernel
theorem zone_21 : ∀ d : Fin 8, zoneB (10) (d.val : Int) = true := by decide +kernel
theorem zone_22 : ∀ d : Fin 8, zoneB (11) (d.val : Int) = true := by decide +kernel
theorem zone_23 : ∀ d : Fin 8, zoneB (12) (d.val : Int) = true := by decide +kernel
theorem zone_24 : ∀ d : Fin 8, zoneB (13) (d.val : Int) = true := by decide +kernel
end Mine
end
section
open PySem PySem.W PyProof.Rows PySem.Spec PySem.Calls
set_option maxRecDepth 100000
namespace Mine
open PySem.Builtin PySem.Builtin.Re
theorem zone_all (i : Nat) (hi : i < 25) (d : Nat) (hd : d < 8) : zoneB ((i : Int) - 11) (d : Int) = true := by
    match i, hi with
    | 0, _ => exact zone_0 ⟨d, hd⟩
    | 1, _ => exact zone_1 ⟨d, hd⟩
    | 2, _ => exact zone_2 ⟨d, hd⟩
    | 3, _ => exact zone_3 ⟨d, hd⟩
    | 4, _ => exact zone_4 ⟨d, hd⟩
    | 5, _ => exact zone_5 ⟨d, hd⟩
    | 6, _ => exact zone_6 ⟨d, hd⟩
    | 7, _ => exact zone_7 ⟨d, hd⟩
    | 8, _ => exact zone_8 ⟨d, hd⟩
    | 9, _ => exact zone_9 ⟨d, hd⟩
    | 10, _ => exact zone_10 ⟨d, hd⟩
    | 11, _ => exact zone_11 ⟨d, hd⟩
    | 12, _ => exact zone_12 ⟨d, hd⟩
    | 13, _ => exact zone_13 ⟨d, hd⟩
    | 14, _ => exact zone_14 ⟨d, hd⟩
    | 15, _ => exact zone_15 ⟨d, hd⟩
    | 16, _ => exact zone_16 ⟨d, hd⟩
    | 17, _ => exact zone_17 ⟨d, hd⟩
    | 18, _ => exact zone_18 ⟨d, hd⟩
    | 19, _ => exact zone_19 ⟨d, hd⟩
    | 20, _ => exact zone_20 ⟨d, hd⟩
    | 21, _ => exact zone_21 ⟨d, hd⟩
    | 22, _ => exact zone_22 ⟨d, hd⟩
    | 23, _ => exact zone_23 ⟨d, hd⟩
    | 24, _ => exact zone_24 ⟨d, hd⟩
    | n + 25, h => omega
structure ZoneRun (step : Int) (tz : Str) (sp : List Int) (x : Str) : Prop where
  run : foundS codeZ tz.cps 3 = some (some sp)
  len : sp.length = 8
  size : tz.cps.size ≤ 20
  ne1 : tz ≠ Str.ofString "GMT"
  ne2 : tz ≠ Str.ofString "UTC"
  ne3 : tz ≠ Str.ofString "UT"
  ne4 : tz ≠ Str.ofString "Z"
  g2 : grp tz sp 2 = some x
  int : PySem.intText? x = some (if step < 0 then -step else step)
  xlen : x.length ≤ 20
  g3 : grp tz sp 3 = none ∨ grp tz sp 3 = some (Str.ofString "00")
  g1 : (grp tz sp 1 = none ∧ 0 ≤ step) ∨ (grp tz sp 1 = some (Str.ofString "+") ∧ 0 ≤ step) ∨ (grp tz sp 1 = some (Str.ofString "-") ∧ step < 0)
theorem zone_facts {step dress : Int} (h1 : -11 ≤ step) (h2 : step ≤ 13) (k0 : 0 ≤ dress) (k8 : dress < 8) :
    (step = 0 ∧ zoneS step dress = Str.ofString "GMT") ∨ ∃ sp x, ZoneRun step (zoneS step dress) sp x := by
  have h := zone_all (step + 11).toNat (by omega) dress.toNat (by omega)
  have e1 : (((step + 11).toNat : Nat) : Int) - 11 = step := by omega
  have e2 : ((dress.toNat : Nat) : Int) = dress := by omega
  rw [e1, e2] at h
  unfold zoneB at h
  rcases Bool.or_eq_true_iff.mp h with h | h
  · rw [Bool.and_eq_true, Bool.and_eq_true] at h
    exact .inl ⟨eq_of_beq h.1.1, eq_of_beq h.2⟩
  · refine .inr ?_
    split at h
    · rename_i sp e
      simp only [Bool.and_eq_true] at h
      obtain ⟨⟨⟨⟨⟨a, b⟩, ⟨⟨c1, c2⟩, c3⟩, c4⟩, g⟩, i⟩, j⟩ := h
      split at g
      · rename_i x ex
        rw [Bool.and_eq_true] at g
        refine ⟨sp, x, e, of_decide_eq_true a, of_decide_eq_true b, ?_, ?_, ?_, ?_, ex, of_decide_eq_true g.1, of_decide_eq_true g.2, ?_, ?_⟩
        · intro z; rw [z] at c1; exact absurd c1 (by decide)
        · intro z; rw [z] at c2; exact absurd c2 (by decide)
        · intro z; rw [z] at c3; exact absurd c3 (by decide)
        · intro z; rw [z] at c4; exact absurd c4 (by decide)
        · simpa using i
        · simpa [or_assoc] using j
      · cases g
    · cases h
end Mine
end
section
open PySem PySem.W PyProof.Rows PySem.Spec PySem.Calls
namespace Mine
theorem pat_zone {w : World} {h : Heap} (X : (hd.heap_39 w.params).In h) : Pat h 63 62 codeZ 3 0 :=
  ⟨⟨.str (Str.ofString "^([-+])?(\\d\\d?):?(\\d\\d)?$") 380, .int 256 454, .none, .none, X 63 _ (by kernel_rfl)⟩, ⟨codeZ.map fun (n : Nat) => Value.int (n : Int) 0, X 62 _ (by kernel_rfl), by kernel_rfl⟩⟩
theorem match_no_bool : typeLookup (.type "re.Match") "__bool__" = pure none := by rw [typeLookup_type, builtinLookup_eq_fast]; kernel_rfl
theorem match_no_len : typeLookup (.type "re.Match") "__len__" = pure none := by rw [typeLookup_type, builtinLookup_eq_fast]; kernel_rfl
theorem truthy_match {prog : Program} {w : World} {A : Around} {E : Value → Shared → Prop} {s : Shared} {P q q1 L : Addr} {h₀ : Heap} {news : List (Addr × Obj)} {tz : Str} {tt : Tok} {lim : Nat} {li : Int} {Q : Bool → Shared → Prop} (N : News h₀ L s.heap news) (m1 : (q, matchObj P tz tt lim li q1) ∈ news)
    (h : Q true s) : wpAny (model prog w) A (truthy (.ref q)) Q E s := by
  have hq := (N _ m1).1
  have hT : s.TypeIs (.ref q) "re.Match" := ⟨_, hq, rfl⟩
  unfold truthy
  refine wpAny_bind (wpAny_callSpecial?_none (name := Str.ofString "__bool__") hT match_no_bool ?_)
  dsimp only
  refine wpAny_bind (wpAny_specialOf hT match_no_len ?_)
  exact wpAny_ite (KBc.ite_yes rfl (wpAny_pure h))
theorem zone_not_in {step : Int} {tz x : Str} {sp : List Int} (hz : ZoneRun step tz sp x) : (decide (tz = { cps := #[71, 77, 84] }) || (decide (tz = { cps := #[85, 84, 67] }) || (decide (tz = { cps := #[85, 84] }) || (decide (tz = { cps := #[90] }) || false)))) = false := by
  have e1 : Str.ofString "GMT" = { cps := #[71, 77, 84] } := by decide
  have e2 : Str.ofString "UTC" = { cps := #[85, 84, 67] } := by decide
  have e3 : Str.ofString "UT" = { cps := #[85, 84] } := by decide
  have e4 : Str.ofString "Z" = { cps := #[90] } := by decide
  have n1 := hz.ne1
  have n2 := hz.ne2
  have n3 := hz.ne3
  have n4 := hz.ne4
  rw [e1] at n1
  rw [e2] at n2
  rw [e3] at n3
  rw [e4] at n4
  simp [n1, n2, n3, n4]
section
variable {prog : Program} {w : World} {A : Around} {E : Value → Shared → Prop} {s : Shared} {Q : Value → Shared → Prop} {P q q1 L : Addr} {h₀ : Heap} {news : List (Addr × Obj)} {tz x : Str} {tt u : Tok} {lim : Nat} {li : Int} {sp : List Int}
theorem g1_none (e : grp tz sp 1 = none) (hl : sp.length = 8) (hz : tz.cps.size ≤ 20) (N : News h₀ L s.heap news) (m1 : (q, matchObj P tz tt lim li q1) ∈ news) (m2 : (q1, spanObj sp) ∈ news) (h : Q .none s) :
    wpAny (model prog w) A (call (.builtin "re.Match.group") [.ref q, .int 1 u]) Q E s := group_none (g := 1) N m1 m2 (by omega) (by omega) e h
theorem g1_some (e : grp tz sp 1 = some x) (hl : sp.length = 8) (hz : tz.cps.size ≤ 20) (N : News h₀ L s.heap news) (m1 : (q, matchObj P tz tt lim li q1) ∈ news) (m2 : (q1, spanObj sp) ∈ news) (h : Q (.str x s.toks) { s with toks := s.toks + 1 }) :
    wpAny (model prog w) A (call (.builtin "re.Match.group") [.ref q, .int 1 u]) Q E s := group_some (g := 1) N m1 m2 (by omega) (by omega) e h
theorem g2_some (e : grp tz sp 2 = some x) (hl : sp.length = 8) (hz : tz.cps.size ≤ 20) (N : News h₀ L s.heap news) (m1 : (q, matchObj P tz tt lim li q1) ∈ news) (m2 : (q1, spanObj sp) ∈ news) (h : Q (.str x s.toks) { s with toks := s.toks + 1 }) :
    wpAny (model prog w) A (call (.builtin "re.Match.group") [.ref q, .int 2 u]) Q E s := group_some (g := 2) N m1 m2 (by omega) (by omega) e h
theorem g3_none (e : grp tz sp 3 = none) (hl : sp.length = 8) (hz : tz.cps.size ≤ 20) (N : News h₀ L s.heap news) (m1 : (q, matchObj P tz tt lim li q1) ∈ news) (m2 : (q1, spanObj sp) ∈ news) (h : Q .none s) :
    wpAny (model prog w) A (call (.builtin "re.Match.group") [.ref q, .int 3 u]) Q E s := group_none (g := 3) N m1 m2 (by omega) (by omega) e h
theorem g3_some (e : grp tz sp 3 = some x) (hl : sp.length = 8) (hz : tz.cps.size ≤ 20) (N : News h₀ L s.heap news) (m1 : (q, matchObj P tz tt lim li q1) ∈ news) (m2 : (q1, spanObj sp) ∈ news) (h : Q (.str x s.toks) { s with toks := s.toks + 1 }) :
    wpAny (model prog w) A (call (.builtin "re.Match.group") [.ref q, .int 3 u]) Q E s := group_some (g := 3) N m1 m2 (by omega) (by omega) e h
end
set_option maxRecDepth 100000 in
set_option maxHeartbeats 8000000 in
theorem offset_run {w : World} {p : Program} {loose : List Str} {mean : ExcName → Option Value} {mg mb : Str → Option Value}
    (step : Int) (tz x : Str) (sp : List Int) (tt : Tok) (h1 : -11 ≤ step) (h2 : step ≤ 13) (hz : ZoneRun step tz sp x) (news : List (Addr × Obj)) :
    CbClaim PySem.Challenge.rw_zn0002_01.row.prog w (hd.heap_39 w.params) p loose mean mg mb 70 news [] True [.str tz tt] (fun t => .int (3600 * step) t) := by
  w_top off
  k_fill
  dsimp only [CbClaim, CbLists, CbRet]
  intros
  rename_i hret
  have cbI : CbIn 70 := CbIn.mk
  have hg2 := hz.g2
  have hx := hz.int
  have hxl := hz.xlen
  have hin := zone_not_in hz
  have hl8 := hz.len
  have hz20 := hz.size
  refine wpAny_call ?_
  rcases hz.g3 with hg3 | hg3 <;> rcases hz.g1 with ⟨hg1, hs⟩ | ⟨hg1, hs⟩ | ⟨hg1, hs⟩
  all_goals (
    k_dflt cell_enter
    (repeat' (first | (k_unfold; (try dsimp only)) | (k_end; wrow_close) | ((with_reducible show wpAny _ _ (eval (Expr.Name _ _) (compEnvC _ _ _ _)) _ _ _); (first | (with_reducible ((name_kind "globalImplicit"); k_dflt (refine LCgL.ld_global (by k_asm) (by k_asm) (by k_asm) (by k_is) ?_))) | (with_reducible ((name_kind "local"); k_dflt (refine LCgL.ld_own (by k_asm) (by k_mem) (by assumption) (by assumption) ?_))) | (with_reducible (k_dflt (refine kcf_cell (by k_asm) (by rfl) (by k_mem) (by k_asm) ?_))))) | ((with_reducible show wpAny _ _ (callWith _ (Value.builtin _) (_ :: _) _ _) _ _ _); (first | (with_reducible (refine callWith_method1 ?_)) | (refine callWith_method1 ?_))) | ((with_reducible show wpAny _ _ (eval (Expr.Name _ _) _) _ _ _); (first | (with_reducible ((name_kind "local"); k_dflt (refine' nameX_L ?xFq38 ?xvq38 ?_ ?xaq38 ?xbq38; (case xaq38 => rfl); (case xbq38 => rfl); (case xFq38 => k_asm); (case xvq38 => rfl); k_whole))) | (with_reducible ((name_kind "globalImplicit"); k_dflt (refine' nameX_K ?yFq39 ?yXq39 ?yTq39 ?yeq39 ?_ ?yaq39 ?ybq39; (case yaq39 => rfl); (case ybq39 => rfl); (case yFq39 => k_asm); (case yXq39 => k_asm); (case yTq39 => k_asm); (case yeq39 => k_is); k_whole))))) | ((with_reducible show wpAny _ _ (callWith _ (Value.ref _) _ _ _) _ _ _); (with_reducible (k_dflt (refine' callWith_K ?zXq40 ?zkq40 ?_; (case zXq40 => k_asm); (case zkq40 => k_is); k_whole)))) | ((with_reducible show wpAny _ _ (call (Value.builtin "re.Match.group") _) _ _ _); (first | (with_reducible ((k_dflt (first | refine' g1_none (by with_reducible assumption) (by with_reducible assumption) (by with_reducible assumption) ?Nq33 ?m1q33 ?m2q33 ?_ | refine' g1_some (by with_reducible assumption) (by with_reducible assumption) (by with_reducible assumption) ?Nq33 ?m1q33 ?m2q33 ?_ | refine' g2_some (by with_reducible assumption) (by with_reducible assumption) (by with_reducible assumption) ?Nq33 ?m1q33 ?m2q33 ?_ | refine' g3_none (by with_reducible assumption) (by with_reducible assumption) (by with_reducible assumption) ?Nq33 ?m1q33 ?m2q33 ?_ | refine' g3_some (by with_reducible assumption) (by with_reducible assumption) (by with_reducible assumption) ?Nq33 ?m1q33 ?m2q33 ?_); (case Nq33 => k_asm); (case m1q33 => k_mem); (case m2q33 => k_mem); k_whole))) | ((k_dflt (first | refine' g1_none (by with_reducible assumption) (by with_reducible assumption) (by with_reducible assumption) ?Nq33 ?m1q33 ?m2q33 ?_ | refine' g1_some (by with_reducible assumption) (by with_reducible assumption) (by with_reducible assumption) ?Nq33 ?m1q33 ?m2q33 ?_ | refine' g2_some (by with_reducible assumption) (by with_reducible assumption) (by with_reducible assumption) ?Nq33 ?m1q33 ?m2q33 ?_ | refine' g3_none (by with_reducible assumption) (by with_reducible assumption) (by with_reducible assumption) ?Nq33 ?m1q33 ?m2q33 ?_ | refine' g3_some (by with_reducible assumption) (by with_reducible assumption) (by with_reducible assumption) ?Nq33 ?m1q33 ?m2q33 ?_); (case Nq33 => k_asm); (case m1q33 => k_mem); (case m2q33 => k_mem); k_whole)))) | ((with_reducible show wpAny _ _ (call (Value.builtin "re.Pattern.search") _) _ _ _); (with_reducible ((k_dflt (refine' search_K ?Fq32 ?Nq32 (pat_zone (by k_in)) (ZoneRun.run (by assumption)) ?l1q32 ?l2q32 ?_; (case Fq32 => k_asm); (case Nq32 => k_asm); (case l1q32 => (have := ZoneRun.len (by assumption); omega)); (case l2q32 => (have := ZoneRun.size (by assumption); omega)); k_whole); intro q1 q2 h' li F' N' l1 l2; (try k_lt l1); (try k_lt2 l2); (try k_sweep))))) | ((with_reducible show wpAny _ _ (truthy (Value.ref _)) _ _ _); (with_reducible ((k_dflt (refine' truthy_match ?Nq31 ?mq31 ?_; (case Nq31 => k_asm); (case mq31 => k_mem); k_whole))))) | ((with_reducible show wpAny _ _ (getMethod (Value.ref _) _ _) _ _ _); (first | (with_reducible (((with_reducible show wpAny _ _ (getMethod (Value.ref _) (PySem.Str.ofString "group") _) _ _ _); (k_dflt (refine' method_group ?Nq30 ?mq30 ?_; (case Nq30 => k_asm); (case mq30 => k_mem); k_whole))))) | (with_reducible (((with_reducible show wpAny _ _ (getMethod (Value.ref _) (PySem.Str.ofString "search") _) _ _ _); (refine method_search (pat_zone (by k_in)) ?_)))))) | walk1 | ((fail_if_success k_end); dsimp only) | (leave1; walk_say "STEP leave1"; (try dsimp only)) | fail "no step"))
    all_goals first
      | (refine' endI hret ?e ?F ?N ?S; (case F => k_asm); (case N => k_asm); (case S => kcj_all); (case e => ((repeat' split) <;> omega)))
      | (exfalso; exact absurd (by assumption) (ne_true_of_eq_false hin)))
set_option maxRecDepth 100000 in
set_option maxHeartbeats 8000000 in
theorem offset_gmt {w : World} {p : Program} {loose : List Str} {mean : ExcName → Option Value} {mg mb : Str → Option Value}
    (tt : Tok) (news : List (Addr × Obj)) :
    CbClaim PySem.Challenge.rw_zn0002_01.row.prog w (hd.heap_39 w.params) p loose mean mg mb 70 news [] True [.str (Str.ofString "GMT") tt] (fun t => .int (3600 * 0) t) := by
  w_top off
  k_fill
  dsimp only [CbClaim, CbLists, CbRet]
  intros
  rename_i hret
  have cbI : CbIn 70 := CbIn.mk
  refine wpAny_call ?_
  k_dflt cell_enter
  (repeat' (first | (k_unfold; (try dsimp only)) | (k_end; wrow_close) | ((with_reducible show wpAny _ _ (eval (Expr.Name _ _) (compEnvC _ _ _ _)) _ _ _); (first | (with_reducible ((name_kind "globalImplicit"); k_dflt (refine LCgL.ld_global (by k_asm) (by k_asm) (by k_asm) (by k_is) ?_))) | (with_reducible ((name_kind "local"); k_dflt (refine LCgL.ld_own (by k_asm) (by k_mem) (by assumption) (by assumption) ?_))) | (with_reducible (k_dflt (refine kcf_cell (by k_asm) (by rfl) (by k_mem) (by k_asm) ?_))))) | ((with_reducible show wpAny _ _ (callWith _ (Value.builtin _) (_ :: _) _ _) _ _ _); (first | (with_reducible (refine callWith_method1 ?_)) | (refine callWith_method1 ?_))) | ((with_reducible show wpAny _ _ (eval (Expr.Name _ _) _) _ _ _); (first | (with_reducible ((name_kind "local"); k_dflt (refine' nameX_L ?xFq45 ?xvq45 ?_ ?xaq45 ?xbq45; (case xaq45 => rfl); (case xbq45 => rfl); (case xFq45 => k_asm); (case xvq45 => rfl); k_whole))) | (with_reducible ((name_kind "globalImplicit"); k_dflt (refine' nameX_K ?yFq46 ?yXq46 ?yTq46 ?yeq46 ?_ ?yaq46 ?ybq46; (case yaq46 => rfl); (case ybq46 => rfl); (case yFq46 => k_asm); (case yXq46 => k_asm); (case yTq46 => k_asm); (case yeq46 => k_is); k_whole))))) | ((with_reducible show wpAny _ _ (callWith _ (Value.ref _) _ _ _) _ _ _); (with_reducible (k_dflt (refine' callWith_K ?zXq47 ?zkq47 ?_; (case zXq47 => k_asm); (case zkq47 => k_is); k_whole)))) | ((with_reducible show wpAny _ _ (call (Value.builtin "re.Match.group") _) _ _ _); (first | (with_reducible ((k_dflt (first | refine' g1_none (by with_reducible assumption) (by with_reducible assumption) (by with_reducible assumption) ?Nq33 ?m1q33 ?m2q33 ?_ | refine' g1_some (by with_reducible assumption) (by with_reducible assumption) (by with_reducible assumption) ?Nq33 ?m1q33 ?m2q33 ?_ | refine' g2_some (by with_reducible assumption) (by with_reducible assumption) (by with_reducible assumption) ?Nq33 ?m1q33 ?m2q33 ?_ | refine' g3_none (by with_reducible assumption) (by with_reducible assumption) (by with_reducible assumption) ?Nq33 ?m1q33 ?m2q33 ?_ | refine' g3_some (by with_reducible assumption) (by with_reducible assumption) (by with_reducible assumption) ?Nq33 ?m1q33 ?m2q33 ?_); (case Nq33 => k_asm); (case m1q33 => k_mem); (case m2q33 => k_mem); k_whole))) | ((k_dflt (first | refine' g1_none (by with_reducible assumption) (by with_reducible assumption) (by with_reducible assumption) ?Nq33 ?m1q33 ?m2q33 ?_ | refine' g1_some (by with_reducible assumption) (by with_reducible assumption) (by with_reducible assumption) ?Nq33 ?m1q33 ?m2q33 ?_ | refine' g2_some (by with_reducible assumption) (by with_reducible assumption) (by with_reducible assumption) ?Nq33 ?m1q33 ?m2q33 ?_ | refine' g3_none (by with_reducible assumption) (by with_reducible assumption) (by with_reducible assumption) ?Nq33 ?m1q33 ?m2q33 ?_ | refine' g3_some (by with_reducible assumption) (by with_reducible assumption) (by with_reducible assumption) ?Nq33 ?m1q33 ?m2q33 ?_); (case Nq33 => k_asm); (case m1q33 => k_mem); (case m2q33 => k_mem); k_whole)))) | ((with_reducible show wpAny _ _ (call (Value.builtin "re.Pattern.search") _) _ _ _); (with_reducible ((k_dflt (refine' search_K ?Fq32 ?Nq32 (pat_zone (by k_in)) (ZoneRun.run (by assumption)) ?l1q32 ?l2q32 ?_; (case Fq32 => k_asm); (case Nq32 => k_asm); (case l1q32 => (have := ZoneRun.len (by assumption); omega)); (case l2q32 => (have := ZoneRun.size (by assumption); omega)); k_whole); intro q1 q2 h' li F' N' l1 l2; (try k_lt l1); (try k_lt2 l2); (try k_sweep))))) | ((with_reducible show wpAny _ _ (truthy (Value.ref _)) _ _ _); (with_reducible ((k_dflt (refine' truthy_match ?Nq31 ?mq31 ?_; (case Nq31 => k_asm); (case mq31 => k_mem); k_whole))))) | ((with_reducible show wpAny _ _ (getMethod (Value.ref _) _ _) _ _ _); (first | (with_reducible (((with_reducible show wpAny _ _ (getMethod (Value.ref _) (PySem.Str.ofString "group") _) _ _ _); (k_dflt (refine' method_group ?Nq30 ?mq30 ?_; (case Nq30 => k_asm); (case mq30 => k_mem); k_whole))))) | (with_reducible (((with_reducible show wpAny _ _ (getMethod (Value.ref _) (PySem.Str.ofString "search") _) _ _ _); (refine method_search (pat_zone (by k_in)) ?_)))))) | walk1 | ((fail_if_success k_end); dsimp only) | (leave1; walk_say "STEP leave1"; (try dsimp only)) | fail "no step"))
  all_goals (refine' endI hret ?e ?F ?N ?S; (case F => k_asm); (case N => k_asm); (case S => kcj_all); (case e => rfl))
theorem offset_sum {w : World} {p : Program} {loose : List Str} {mean : ExcName → Option Value} {mg mb : Str → Option Value}
    (step dress : Int) (tt : Tok) (h1 : -11 ≤ step) (h2 : step ≤ 13) (k0 : 0 ≤ dress) (k8 : dress < 8) (news : List (Addr × Obj)) :
    CbClaim PySem.Challenge.rw_zn0002_01.row.prog w (hd.heap_39 w.params) p loose mean mg mb 70 news [] True [.str (zoneS step dress) tt] (fun t => .int (3600 * step) t) := by
  rcases zone_facts h1 h2 k0 k8 with ⟨rfl, e⟩ | ⟨sp, x, hz⟩
  · rw [e]
    exact offset_gmt tt news
  · exact offset_run step _ x sp tt h1 h2 hz news
end Mine
end
section
open PySem PySem.W PyProof.Rows PySem.Spec PySem.Calls
set_option maxRecDepth 100000
namespace Mine
open PySem.Builtin PySem.Builtin.Re
section
variable {prog : Program} {w : World} {A : Around} {E : Value → Shared → Prop} {s : Shared}
theorem int_str_declines (a : Int) (t : Tok) (x : Str) (u : Tok) : Gives (Builtin.«int.__mul__» ⟨[.int a t, .str x u], []⟩) (.val (Value.notImplemented)) :=
  .of_wp fun M A E s Q h => by obtain ⟨hp, g, d, tk, os⟩ := s; wp_walk; exact ⟨_, rfl, h⟩
theorem mul_int_str {x : Str} {n : Int} {t u : Tok} {Q : Value → Shared → Prop} (hok : MulOk x n) (h : ∀ t' k, Q (.str (Txt.mul x n) t') { s with toks := k }) :
    wpAny (model prog w) A (binaryOp .Mult (.int n u) (.str x t)) Q E s := by
  refine lm_binaryOp_repeat_right (T := "str") (U := "int") (by decide) (fun s' => typeIs_int s' n u) (typeIs_str s x t) F.fills_int_mul noFill_str_mul F.slot_int_mul lm_noRepeat_int repeat_str F.slot_int_index.lookup
    (call_gives F.slot_int_mul (typeIs_int s n u) F.entry_int_mul (F.args_int_mul_2 _ _) (int_str_declines n u x t)
      ⟨rfl, typeIs_str s x t, call_gives F.slot_str_mul (typeIs_str s x t) F.entry_str_mul (F.args_str_mul_2 _ _) (gives_str_mul x n t u hok.1 hok.2.1 hok.2.2) ?_⟩)
  unfold Txt.mul at h
  by_cases h1 : n < 1
  · rw [if_pos h1]; have h' := h s.toks (s.toks + 1); rw [if_pos h1] at h'; exact ⟨by decide, h'⟩
  · rw [if_neg h1]; refine post_val_or_made (fun hc => fits_reps (hok.2.2 h1 (by simpa using hc))) fun t' k => ?_
    have h' := h t' k; rw [if_neg h1] at h'; exact h'
theorem wp_target_str {Q : ReTarget → Shared → Prop} {P C : Addr} {code : Array Nat} {groups : Nat} {b : Str} {t : Tok} (hp : Pat s.heap P C code groups 0)
    (h : Q (tgt P (.str b t) code b.cps 0 groups) s) : wpAny (model prog w) A (reWholeTarget (.ref P) (.str b t)) Q E s := by
  obtain ⟨⟨v, f, x, y, e⟩, vs, e2, e3⟩ := hp
  unfold reWholeTarget
  refine wpAny_bind (wpAny_fieldsOf e rfl ?_)
  refine wpAny_bind (wpAny_of_eq (a := (b.cps, 0)) rfl ?_)
  dsimp only
  refine wpAny_ite (KBy.ite_no Bool.false_ne_true ?_)
  refine wpAny_ite (KBy.ite_no Bool.false_ne_true ?_)
  refine wpAny_bind (wpAny_of_eq (a := ()) rfl ?_)
  refine wpAny_bind ?_
  unfold reRawItems
  refine wpAny_bind (wpAny_seqItems e2 rfl ?_)
  refine wpAny_pure ?_
  refine wpAny_pure ?_
  subst e3
  exact h
theorem wp_sub_str {Q : PySem.Fin → Shared → Prop} {P C : Addr} {code : Array Nat} {groups : Nat} {r b : Str} {tr t : Tok} (hp : Pat s.heap P C code groups 0) (hr : r.cps.contains 92 = false)
    (h : Q (.again (.builtin "re.Pattern.sub.loop" ⟨[.ref P, .str b t, .str r tr, rawInt 0, rawInt 0, rawInt 0, rawInt 0, rawInt 0, .bool false, .ref s.heap.objs.size, .bool false], []⟩)) { s with heap := s.heap.push emptyList }) :
    wpAny (model prog w) A (Builtin.«re.Pattern.sub» ⟨[.ref P, .str r tr, .str b t], []⟩) Q E s := by
  unfold Builtin.«re.Pattern.sub»
  unfold reSubstitute
  refine wpAny_bind (wpAny_of_eq (named3 (.ref P) _ _) ?_)
  dsimp only
  refine wpAny_bind (wpAny_of_eq (a := (0 : Int)) rfl ?_)
  refine wpAny_bind (wpAny_specialOf (T := "str") (typeIs_str _ _ _) no_call_str ?_)
  refine wpAny_ite (KBy.ite_no Bool.false_ne_true ?_)
  refine wpAny_bind (wpAny_of_eq (a := some r) rfl ?_)
  dsimp only
  refine wpAny_bind (wpAny_pure ?_)
  refine wpAny_ite (KBy.ite_no Bool.false_ne_true ?_)
  rw [hr]
  refine wpAny_ite (KBc.ite_yes rfl ?_)
  refine wpAny_bind (wpAny_pure ?_)
  dsimp only
  refine wpAny_bind (wpAny_holding (wp_target_str hp ?_))
  refine wpAny_ite (KBy.ite_no Bool.false_ne_true ?_)
  refine wpAny_bind (wpAny_newList ?_ (Nat.zero_le _))
  exact wpAny_pure h
theorem wp_literal_str {Q : Unit → Shared → Prop} {r : Str} {tr : Tok} (h : Q () s) : wpAny (model prog w) A (reLiteralCannotBeTurned (.str r tr)) Q E s := by
  unfold reLiteralCannotBeTurned
  refine wpAny_bind (wpAny_of_eq (a := some r) rfl ?_)
  refine wpAny_ite (KBy.ite_no Bool.false_ne_true ?_)
  exact wpAny_pure h
theorem loop_first {R : Result → Shared → Prop} {P C l : Addr} {code : Array Nat} {groups : Nat} {r b : Str} {tr t : Tok}
    (hp : Pat s.heap P C code groups 0) (hl : ListAt s.heap l #[])
    (hf : found code b.cps groups 0 false = some (some (0, 0)))
    (h : ∀ h', KeepBut l s.heap h' → ListAt h' l #[.str r tr] →
      codeAny (model prog w) A (.builtin "re.Pattern.sub.loop" ⟨[.ref P, .str b t, .str r tr, rawInt 0, rawInt 0, rawInt 1, rawInt 0, rawInt 0, .bool true, .ref l, .bool false], []⟩) R { s with heap := h' }) :
    codeAny (model prog w) A (.builtin "re.Pattern.sub.loop" ⟨[.ref P, .str b t, .str r tr, rawInt 0, rawInt 0, rawInt 0, rawInt 0, rawInt 0, .bool false, .ref l, .bool false], []⟩) R s := by
  refine codeAny_builtin entry_sub_loop ?_
  rw [Around.under_plainId plain_sub_loop _]
  unfold Builtin.«re.Pattern.sub.loop»
  dsimp only [rawInt]
  refine wpAny_bind (wp_target_str hp ?_)
  dsimp only [tgt]
  refine wpAny_ite (KBc.ite_yes rfl ?_)
  refine wpAny_bind (wp_literal_str ?_)
  refine wpAny_bind (wpAny_ite (KBy.ite_no Bool.false_ne_true (wp_some rfl hf ?_)))
  intro m' e1 e2
  dsimp only
  rw [e1, e2]
  refine wpAny_ite (KBy.ite_no (by decide) ?_)
  refine wpAny_ite (KBc.ite_yes rfl ?_)
  refine wpAny_bind (wpAny_pure ?_)
  refine wpAny_ite (KBc.ite_yes rfl ?_)
  refine wpAny_bind (wp_push hl (by decide) fun h2 k2 l2 => ?_)
  exact wpAny_pure ⟨plainId_quiet plain_sub_loop _, h h2 k2 l2⟩
theorem loop_second {R : Result → Shared → Prop} {P C l : Addr} {code : Array Nat} {groups : Nat} {r b : Str} {tr t : Tok}
    (hp : Pat s.heap P C code groups 0) (hl : ListAt s.heap l #[.str r tr]) (hb : b.length ≤ 1000) (hb0 : 0 < b.length)
    (hf : found code b.cps groups 0 true = some none)
    (h : ∀ h' k tk tj, KeepBut l s.heap h' → ListAt h' l #[.str r tr, .str ⟨b.cps.extract 0 b.cps.size⟩ tk] →
      wpAny (model prog w) A.in1 (call (.builtin "str.join") [.str ⟨#[]⟩ tj, .ref l]) (fun v s' => R (.ok (.ret v)) s') (fun e s' => R (.error e) s') { s with heap := h', toks := k }) :
    codeAny (model prog w) A (.builtin "re.Pattern.sub.loop" ⟨[.ref P, .str b t, .str r tr, rawInt 0, rawInt 0, rawInt 1, rawInt 0, rawInt 0, .bool true, .ref l, .bool false], []⟩) R s := by
  refine codeAny_builtin entry_sub_loop ?_
  rw [Around.under_plainId plain_sub_loop _]
  unfold Builtin.«re.Pattern.sub.loop»
  dsimp only [rawInt]
  refine wpAny_bind (wp_target_str hp ?_)
  dsimp only [tgt]
  refine wpAny_ite (KBc.ite_yes rfl ?_)
  refine wpAny_bind (wp_literal_str ?_)
  refine wpAny_bind (wpAny_ite (KBy.ite_no Bool.false_ne_true (wp_none rfl hf ?_)))
  dsimp only
  have hb0' : (Int.toNat 0) < b.cps.size := hb0
  refine wpAny_ite (KBc.ite_yes hb0' ?_)
  refine wpAny_bind ?_
  unfold reSlice
  refine wpAny_ite (KBc.ite_yes rfl ?_)
  have hfit : (Str.mk (b.cps.extract (Int.toNat 0) b.cps.size)).length ≤ sizeLine := by
    show (b.cps.extract _ _).size ≤ _
    have : b.cps.size ≤ 1000 := hb
    rw [Array.size_extract, sizeLine_eq]
    omega
  refine wpAny_mkStr ?_ hfit
  refine wpAny_bind (wp_push hl (by simp) fun h2 k2 l2 => ?_)
  refine wpAny_bind ?_
  refine wpAny_ite (KBc.ite_yes rfl ?_)
  have e0 : b.cps.extract 0 0 = #[] := by simp
  rw [e0]
  refine wpAny_mkStr ?_ (Nat.zero_le _)
  obtain ⟨n, hl2⟩ := id l2
  refine wpAny_bind (wpAny_seqItems hl2 rfl ?_)
  refine wpAny_ite (KBy.ite_no (by simp) ?_)
  refine wpAny_bind ?_
  refine wpAny_mono (h h2 _ _ _ k2 l2) (fun v s2 hv => ?_) fun _ _ e => e
  exact wpAny_ite (KBy.ite_no Bool.false_ne_true (wpAny_pure hv))
theorem call_sub_str {Q : Value → Shared → Prop} {P C : Addr} {code : Array Nat} {groups : Nat} {r b d : Str} {tr t : Tok} (hp : Pat s.heap P C code groups 0) (hr : r.cps.contains 92 = false) (hrl : r.length ≤ 1000) (hb : b.length ≤ 1000) (hb0 : 0 < b.length)
    (hf : found code b.cps groups 0 false = some (some (0, 0))) (hg : found code b.cps groups 0 true = some none) (hd : d = r ++ b)
    (h : ∀ h' k t', (∀ a o, s.heap.get? a = some o → h'.get? a = some o) → Q (.str d t') { s with heap := h', toks := k }) :
    wpAny (model prog w) A (call (.builtin "re.Pattern.sub") [.ref P, .str r tr, .str b t]) Q E s := by
  obtain ⟨⟨v1, f1, x1, y1, eP⟩, vs, eC, ec⟩ := id hp
  have hT : s.TypeIs (.ref P) "re.Pattern" := ⟨_, eP, rfl⟩
  refine wpAny_call (codeAny_call_builtin slot_sub.plain entry_sub (slot_sub.check _ _ _ _ _ _ _ _ hT (args_sub _ _ _) ?_))
  refine wp_sub_str hp hr ⟨plainId_quiet plain_sub_loop _, ?_⟩
  have keep0 : ∀ a o, s.heap.get? a = some o → (s.heap.push emptyList).get? a = some o := fun a o e => Heap.get?_push_of_some _ e
  have hp0 : Pat (s.heap.push emptyList) P C code groups 0 := hp.keeps keep0
  have hl0 : ListAt (s.heap.push emptyList) s.heap.objs.size #[] := ⟨0, Heap.get?_push_size _ rfl⟩
  refine loop_first (s := { s with heap := s.heap.push emptyList }) hp0 hl0 hf ?_
  intro h1 hk1 hl1
  have hk1' : ∀ a o, s.heap.get? a = some o → h1.get? a = some o := fun a o e => hk1 a o (Nat.ne_of_lt (Heap.lt_size e)) (keep0 a o e)
  refine loop_second (s := { s with heap := h1 }) (hp.keeps hk1') hl1 hb hb0 hg ?_
  intro h' k tk tj hk hl
  have hkA : ∀ a o, s.heap.get? a = some o → h'.get? a = some o := fun a o e => hk a o (Nat.ne_of_lt (Heap.lt_size e)) (hk1' a o e)
  obtain ⟨n, hl⟩ := hl
  have ex : b.cps.extract 0 b.cps.size = b.cps := by simp
  rw [ex] at hl
  refine call_meets F.slot_str_join (typeIs_str _ _ _) F.entry_str_join (F.args_str_join_2 _ _) (meets_str_join_list ⟨#[]⟩ tj _ [(r, tr), (b, tk)] ?_) ⟨⟨_, hl, rfl, n, rfl⟩, ?_⟩
  · have e3 : (Str.mk #[]).length = 0 := rfl
    simp only [Builtin.Str.tooLong, List.map_cons, List.map_nil, e3, sizeLine_eq, decide_eq_false_iff_not]
    simp
    omega
  · have e4 : Txt.join (Str.mk #[]) [r, b] = d := by
      rw [hd]
      apply Str.ext'
      simp [Txt.join, Builtin.Str.glued, Str.cps_append]
    have h2 := fun t' k2 => h h' k2 t' hkA
    refine post_join [(r, tr), (b, tk)] ⟨?_, fun t' k2 => ?_⟩
    · show (Txt.join (Str.mk #[]) [r, b]).length ≤ _
      rw [e4, hd, Str.length_append, sizeLine_eq]
      omega
    · have h3 := h2 t' k2
      rw [← e4] at h3
      exact h3
end
end Mine
end
section
open PySem PySem.W PyProof.Rows PySem.Spec PySem.Calls
namespace Mine
def codeI : Array Nat := #[14, 4, 0, 0, 0, 6, 1, 5, 5, 0, 6, 6, 1, 1]
theorem pat_indent {w : World} {h : Heap} (X : (hd.heap_39 w.params).In h) : Pat h 49 48 codeI 0 0 :=
  ⟨⟨.str (Str.ofString "(?m)^(?!$)") 340, .int 40 357, .none, .none, X 49 _ (by kernel_rfl)⟩, ⟨codeI.map fun (n : Nat) => Value.int (n : Int) 0, X 48 _ (by kernel_rfl), by kernel_rfl⟩⟩
def letters : List Str := [Str.ofString "a", Str.ofString "b", Str.ofString "c", Str.ofString "d", Str.ofString "e"]
theorem letter_facts : ∀ c ∈ letters, found codeI c.cps 0 0 false = some (some (0, 0)) ∧ found codeI c.cps 0 0 true = some none ∧ c.length = 1 := by decide +kernel
theorem blanks_facts {n : Int} (h1 : 0 ≤ n) (h2 : n ≤ 6) : (Txt.mul (Str.ofString " ") n).cps.contains 92 = false ∧ (Txt.mul (Str.ofString " ") n).length ≤ 1000 := by
  have hn : n = 0 ∨ n = 1 ∨ n = 2 ∨ n = 3 ∨ n = 4 ∨ n = 5 ∨ n = 6 := by omega
  rcases hn with rfl | rfl | rfl | rfl | rfl | rfl | rfl <;> decide +kernel
section
variable {prog : Program} {w : World} {A : Around} {E : Value → Shared → Prop} {s : Shared} {h₀ : Heap} {L : Addr} {m : Str → Option Value} {news : List (Addr × Obj)}
theorem indent_K {Q : Value → Shared → Prop} {c : Str} {n : Int} {tr t : Tok} (F : Fr h₀ L s.heap m) (N : News h₀ L s.heap news) (hp : Pat s.heap 49 48 codeI 0 0) (h1 : 0 ≤ n) (h2 : n ≤ 6) (hc : c ∈ letters)
    (h : ∀ h' k t', Fr h₀ L h' m → News h₀ L h' news → Q (.str (Txt.mul (Str.ofString " ") n ++ c) t') { s with heap := h', toks := k }) :
    wpAny (model prog w) A (call (.builtin "re.Pattern.sub") [.ref 49, .str (Txt.mul (Str.ofString " ") n) tr, .str c t]) Q E s := by
  obtain ⟨f1, f2, f3⟩ := letter_facts c hc
  obtain ⟨b1, b2⟩ := blanks_facts h1 h2
  exact call_sub_str hp b1 b2 (by omega) (by omega) f1 f2 rfl fun h' k t' hk => h h' k t' (F.keeps hk) (News.keepsAll N hk)
end
set_option maxRecDepth 100000 in
set_option maxHeartbeats 8000000 in
theorem indent_sum {w : World} {p : Program} {loose : List Str} {mean : ExcName → Option Value} {mg mb : Str → Option Value}
    (c : Str) (n : Int) (tc tn : Tok) (h1 : 0 ≤ n) (h2 : n ≤ 6) (hc : c ∈ letters) (news : List (Addr × Obj)) :
    CbClaim PySem.Challenge.rw_zn0002_01.row.prog w (hd.heap_39 w.params) p loose mean mg mb 57 news [] True [.str c tc, .int n tn] (fun t => .str (Txt.mul (Str.ofString " ") n ++ c) t) := by
  w_top off
  k_fill
  dsimp only [CbClaim, CbLists, CbRet]
  intros
  rename_i hret
  have cbI : CbIn 57 := CbIn.mk
  refine wpAny_call ?_
  k_dflt ((refine' code_def ?k1q51 ?k2q51 ?k3q51 ?k4q51 ?k5q51 ?kAq51 ?kFq51 ?kKq51 ?k6q51 ?k7q51 ?k8q51 ?k9q51 ?kBq51 ?_ ?c2q51 ?c3q51 ?c4q51 ?c5q51; (case kAq51 => exact rfl); (case kFq51 => exact rfl); (case kKq51 => assumption); (case k1q51 => k_asm); (case k2q51 => k_asm); (case k3q51 => k_asm); (case k4q51 => k_asm); (case k5q51 => k_asm); (case k6q51 => k_is); (case k7q51 => k_is); (case k8q51 => ktr_room); (case k9q51 => first | exact BindsTo.of_eq rfl | exact binds_K (by k_in) rfl (by k_is) rfl rfl rfl); (case c5q51 => decide); (case kBq51 => exact locs rfl); (case c2q51 => exact rfl); (case c3q51 => exact rfl); (case c4q51 => exact rfl); k_whole; intro g' L' h' FG' F' N' B' X' T'; (try dsimp only); (try k_lift B'); (try k_fold)))
  (repeat' (first | (k_unfold; (try dsimp only)) | (k_end; wrow_close) | ((with_reducible show wpAny _ _ (eval (Expr.Name _ _) (compEnvC _ _ _ _)) _ _ _); (first | (with_reducible ((name_kind "globalImplicit"); k_dflt (refine LCgL.ld_global (by k_asm) (by k_asm) (by k_asm) (by k_is) ?_))) | (with_reducible ((name_kind "local"); k_dflt (refine LCgL.ld_own (by k_asm) (by k_mem) (by assumption) (by assumption) ?_))) | (with_reducible (k_dflt (refine kcf_cell (by k_asm) (by rfl) (by k_mem) (by k_asm) ?_))))) | ((with_reducible show wpAny _ _ (callWith _ (Value.builtin _) (_ :: _) _ _) _ _ _); (first | (with_reducible (refine callWith_method1 ?_)) | (refine callWith_method1 ?_))) | ((with_reducible show wpAny _ _ (eval (Expr.Name _ _) _) _ _ _); (first | (with_reducible ((name_kind "local"); k_dflt (refine' nameX_L ?xFq56 ?xvq56 ?_ ?xaq56 ?xbq56; (case xaq56 => rfl); (case xbq56 => rfl); (case xFq56 => k_asm); (case xvq56 => rfl); k_whole))) | (with_reducible ((name_kind "globalImplicit"); k_dflt (refine' nameX_K ?yFq57 ?yXq57 ?yTq57 ?yeq57 ?_ ?yaq57 ?ybq57; (case yaq57 => rfl); (case ybq57 => rfl); (case yFq57 => k_asm); (case yXq57 => k_asm); (case yTq57 => k_asm); (case yeq57 => k_is); k_whole))))) | ((with_reducible show wpAny _ _ (callWith _ (Value.ref _) _ _ _) _ _ _); (with_reducible (k_dflt (refine' callWith_K ?zXq58 ?zkq58 ?_; (case zXq58 => k_asm); (case zkq58 => k_is); k_whole)))) | ((with_reducible show wpAny _ _ (binaryOp Operator.Mult (Value.int _ _) (Value.str _ _)) _ _ _); (with_reducible (((refine mul_int_str (mulOk_of 1 1000 (by decide) (by omega) (by omega) (by decide) (by decide)) ?_); intro _ _)))) | ((with_reducible show wpAny _ _ (call (Value.builtin "re.Pattern.sub") _) _ _ _); (with_reducible ((k_dflt (refine' indent_K ?Fq49 ?Nq49 (pat_indent (by k_in)) (by assumption) (by assumption) (by assumption) ?_; (case Fq49 => k_asm); (case Nq49 => k_asm); k_whole); intro h' k' t' F' N'; (try k_sweep))))) | ((with_reducible show wpAny _ _ (getMethod (Value.ref _) _ _) _ _ _); (with_reducible (((with_reducible show wpAny _ _ (getMethod (Value.ref _) (PySem.Str.ofString "sub") _) _ _ _); (refine method_pat (pat_indent (by k_in)) ?_))))) | walk1 | ((fail_if_success k_end); dsimp only) | (leave1; walk_say "STEP leave1"; (try dsimp only)) | fail "no step"))
  all_goals (refine' endS hret ?e ?F ?N ?S; (case F => k_asm); (case N => k_asm); (case S => kcj_all); (case e => rfl))
end Mine
end
section
open PySem PySem.W PyProof.Rows PySem.Spec PySem.Calls
namespace Mine
abbrev CalmClaim (prog : Program) (w : World) (K : Frag) (p : Program) (loose : List Str) (mean : ExcName → Option Value) (mg mb : Str → Option Value) (f : Addr) (news : List (Addr × Obj)) (vs : List Value) (R : Tok → Value) : Prop :=
  ∀ (dp un : Nat) (cn : Str) (cs : Scope) (a : Addr) (ccd : Value) (cl : List (Str × Addr)) (outer : List Env) (A₀ : Around) (base h₀ : Heap) (L : Addr) (m : Str → Option Value) (s : Shared) (Q E : Value → Shared → Prop),
    Below A₀ base outer h₀ → Fr h₀ L s.heap m → K.In h₀ → News h₀ L s.heap news → Top p loose mean mg mb h₀ → cs.kind = .function →
    dp + 1 < recursionLimit → un + 8 < cLine → CbRet h₀ L m news s Q R →
      calmTree (model prog w) (ktrTop dp un (some []) cn cs L a ccd cl outer) (call (.ref f) vs) Q E s
theorem all_ne {l : List (Addr × Obj)} {x d : Nat} (h : ∀ p ∈ l, p.1 < x) (e : x ≤ d) : ∀ p ∈ l, p.1 ≠ d := fun p hp => Nat.ne_of_lt (Nat.lt_of_lt_of_le (h p hp) e)
theorem lt_split {q : Addr × Obj} {l : List (Addr × Obj)} {x : Nat} (h : ∀ p ∈ q :: l, p.1 < x) : @LT.lt Nat _ q.1 x ∧ ∀ p ∈ l, p.1 < x := ⟨h q (.head _), fun p hp => h p (.tail _ hp)⟩
theorem lt_split2 {q r : Addr × Obj} {l : List (Addr × Obj)} {x : Nat} (h : ∀ p ∈ q :: r :: l, p.1 < x) : @LT.lt Nat _ q.1 x ∧ @LT.lt Nat _ r.1 x ∧ ∀ p ∈ l, p.1 < x := ⟨h q (.head _), h r (.tail _ (.head _)), fun p hp => h p (.tail _ (.tail _ hp))⟩
local macro_rules | `(tactic| k_all) => `(tactic| (refine all_ne (by assumption) ?_; (try dsimp only); omega))
theorem pyIter_K {prog : Program} {w : World} {A : Around} {E : Value → Shared → Prop} {s : Shared} {h₀ : Heap} {L : Addr} {m : Str → Option Value} {news : List (Addr × Obj)} (b' n : Int) {r : Addr} {a b c : Int} {t u v : Tok} {Q : Value → Shared → Prop} (hr : IsRange s.heap r a b c t u v) (hb : b = b') (hs : (Builtin.Range.small a b' c && Builtin.Range.rangeSize a b' c == n) = true) (F : Fr h₀ L s.heap m) (N : News h₀ L s.heap news)
    (h : ∀ I h', Fr h₀ L h' m → News h₀ L h' ((I, itObj a n c) :: news) → (∀ p ∈ news, p.1 < I) → Q (.ref I) { s with heap := h' }) : wpAny (model prog w) A (pyIter (.ref r)) Q E s := by
  subst hb
  simp only [Bool.and_eq_true, beq_iff_eq] at hs
  exact pyIter_range_K hr F N hs.1 hs.2 h
section
variable {prog : Program} {w : World} {A : Around} {E : Value → Shared → Prop} {s : Shared} {h₀ : Heap} {L : Addr} {m : Str → Option Value} {news news' : List (Addr × Obj)}
theorem ba_put {a : Addr} {b : Array UInt8} {k n : Int} {y : UInt8} {t u : Tok} {Q : Unit → Shared → Prop} (F : Fr h₀ L s.heap m) (N : News h₀ L s.heap news) (hn : n = (y.toNat : Int))
    (U : Upd a (baObj b) (baObj (b.setIfInBounds k.toNat y)) news news') (hz : b.size ≤ 1000) (h0 : 0 ≤ k) (hk : k < b.size)
    (h : ∀ h', Fr h₀ L h' m → News h₀ L h' news' → Q () { s with heap := h' }) :
    wpAny (model prog w) A (setItem (.ref a) (.int k t) (.int n u)) Q E s := by
  have e : n.toNat.toUInt8 = y := by
    subst hn
    simp
  have hy := y.toNat_lt
  refine ba_setItem_K F N (by rw [e]; exact U) hz h0 hk (by omega) (by omega) h
theorem bytes_ba_K {a : Addr} {b : Array UInt8} {Q : Value → Shared → Prop} (F : Fr h₀ L s.heap m) (N : News h₀ L s.heap news) (hm : (a, baObj b) ∈ news) (hz : b.size ≤ 1000)
    (h : ∀ t, Q (.bytes b t) { s with toks := t + 1 }) : wpAny (model prog w) A (call (.type "bytes") [.ref a]) Q E s :=
  call_bytes_ba (N _ hm).1 hz h
end
set_option maxRecDepth 100000 in
set_option maxHeartbeats 8000000 in
theorem swap_sum {w : World} {p : Program} {loose : List Str} {mean : ExcName → Option Value} {mg mb : Str → Option Value}
    (a b c d e : UInt8) (tb tn : Tok) (news : List (Addr × Obj)) :
    CalmClaim PySem.Challenge.rw_zn0002_01.row.prog w (hd.heap_39 w.params) p loose mean mg mb 77 news [.bytes #[a, b, c, d, e] tb, .int 5 tn] (fun t => .bytes #[e, d, c, b, a] t) := by
  w_top off
  k_fill
  dsimp only [CalmClaim, CbRet]
  intros
  rename_i hret
  refine calm_call ?_
  k_dflt ((refine' calm_def ?k1q59 ?k2q59 ?k3q59 ?k4q59 ?k5q59 ?kAq59 ?kFq59 ?kKq59 ?k6q59 ?k7q59 ?k8q59 ?k9q59 ?kBq59 ?_ ?c5q59 ?c2q59 ?c3q59 ?c4q59; (case kAq59 => exact rfl); (case kFq59 => exact rfl); (case kKq59 => assumption); (case k1q59 => k_asm); (case k2q59 => k_asm); (case k3q59 => k_asm); (case k4q59 => k_asm); (case k5q59 => k_asm); (case k6q59 => k_is); (case k7q59 => k_is); (case k8q59 => ktr_room); (case k9q59 => first | exact BindsTo.of_eq rfl | exact binds_K (by k_in) rfl (by k_is) rfl rfl rfl); (case c5q59 => decide); (case kBq59 => exact locs rfl); (case c2q59 => exact rfl); (case c3q59 => exact rfl); (case c4q59 => exact rfl); k_whole; intro g' L' h' FG' F' N' B' X' T' l0; (try k_lt l0); (try dsimp only); (try k_lift B')))
  refine calm_execs (calm_Assign_Name (calm_callTy (T := "bytearray") ?_))
  (repeat' (first | (k_unfold; (try dsimp only)) | (k_end; wrow_close) | ((with_reducible show wpAny _ _ (eval (Expr.Name _ _) (compEnvC _ _ _ _)) _ _ _); (first | (with_reducible ((name_kind "globalImplicit"); k_dflt (refine LCgL.ld_global (by k_asm) (by k_asm) (by k_asm) (by k_is) ?_))) | (with_reducible ((name_kind "local"); k_dflt (refine LCgL.ld_own (by k_asm) (by k_mem) (by assumption) (by assumption) ?_))) | (with_reducible (k_dflt (refine kcf_cell (by k_asm) (by rfl) (by k_mem) (by k_asm) ?_))))) | ((with_reducible show wpAny _ _ (callWith _ (Value.builtin _) (_ :: _) _ _) _ _ _); (first | (with_reducible (refine callWith_method1 ?_)) | (refine callWith_method1 ?_))) | ((with_reducible show wpAny _ _ (eval (Expr.Name _ _) _) _ _ _); (first | (with_reducible ((name_kind "local"); k_dflt (refine' nameX_L ?xFq68 ?xvq68 ?_ ?xaq68 ?xbq68; (case xaq68 => rfl); (case xbq68 => rfl); (case xFq68 => k_asm); (case xvq68 => rfl); k_whole))) | (with_reducible ((name_kind "globalImplicit"); k_dflt (refine' nameX_K ?yFq69 ?yXq69 ?yTq69 ?yeq69 ?_ ?yaq69 ?ybq69; (case yaq69 => rfl); (case ybq69 => rfl); (case yFq69 => k_asm); (case yXq69 => k_asm); (case yTq69 => k_asm); (case yeq69 => k_is); k_whole))))) | ((with_reducible show wpAny _ _ (callWith _ (Value.ref _) _ _ _) _ _ _); (with_reducible (k_dflt (refine' callWith_K ?zXq70 ?zkq70 ?_; (case zXq70 => k_asm); (case zkq70 => k_is); k_whole)))) | ((with_reducible show wpAny _ _ (call (Value.type "bytes") _) _ _ _); (with_reducible (((with_reducible show wpAny _ _ (call (Value.type "bytes") [Value.ref _]) _ _ _); k_dflt (refine' bytes_ba_K ?Fq63 ?Nq63 ?mq63 ?zq63 ?_; (case Fq63 => k_asm); (case Nq63 => k_asm); (case mq63 => k_mem); (case zq63 => (simp only [Array.size_setIfInBounds, Array.size_replicate]; decide)); intro t'))))) | ((with_reducible show wpAny _ _ (setItem (Value.ref _) _ _) _ _ _); (with_reducible ((k_dflt (refine' ba_put ?Fq62 ?Nq62 ?nq62 ?Uq62 ?zq62 ?aq62 ?bq62 ?_; (case Fq62 => k_asm); (case Nq62 => k_asm); (case nq62 => exact rfl); (case Uq62 => k_upd); (case zq62 => (simp only [Array.size_setIfInBounds, Array.size_replicate]; decide)); (case aq62 => decide); (case bq62 => (simp only [Array.size_setIfInBounds, Array.size_replicate]; decide)); k_whole; intro h' F' N'; (try k_sweep)))))) | ((with_reducible show wpAny _ _ (pyNext (Value.ref _)) _ _ _); (with_reducible ((k_dflt (first | (refine' pyNext_item_K ?Fq61 ?Nq61 ?lq61 ?Uq61 ?_; (case Fq61 => k_asm); (case Nq61 => k_asm); (case Uq61 => k_upd); (case lq61 => decide); k_whole; intro h' t' F' N'; (try dsimp only); (try k_sweep)) | (refine' pyNext_end_K rfl ?Fq61 ?Nq61 ?lq61 ?Iq61 ?_; (case Fq61 => k_asm); (case Nq61 => k_asm); (case lq61 => decide); (case Iq61 => (repeat' (first | assumption | (refine' List.forall_mem_cons.mpr ⟨?_, ?_⟩) | (dsimp only; omega)))); intro h' F' N'; (try dsimp only); (try k_sweep))))))) | ((with_reducible show wpAny _ _ (pyIter (Value.ref _)) _ _ _); (with_reducible ((k_dflt (first | (refine' pyIter_K 5 1 ?rq60 ?hbq60 ?sq60 ?Fq60 ?Nq60 ?_; (case rq60 => assumption); (case hbq60 => rfl); (case sq60 => decide); (case Fq60 => k_asm); (case Nq60 => k_asm)) | (refine' pyIter_K 5 5 ?rq60 ?hbq60 ?sq60 ?Fq60 ?Nq60 ?_; (case rq60 => assumption); (case hbq60 => rfl); (case sq60 => decide); (case Fq60 => k_asm); (case Nq60 => k_asm))); intro I' h' F' N' l1; (try dsimp only at N'); (first | (obtain ⟨l1, l3, l4⟩ := lt_split2 l1; dsimp only at l1 l3) | (obtain ⟨l1, l4⟩ := lt_split l1; dsimp only at l1)))))) | walk1 | ((fail_if_success k_end); dsimp only) | (leave1; walk_say "STEP leave1"; (try dsimp only)) | fail "no step"))
  refine calm_bytearray_K (i := 5) (by k_asm) (by k_asm) rfl (by decide) (by decide) ?_
  intro x hx Fx Nx lx
  refine calm_of ?_
  (repeat' (first | (k_unfold; (try dsimp only)) | (k_end; wrow_close) | ((with_reducible show wpAny _ _ (eval (Expr.Name _ _) (compEnvC _ _ _ _)) _ _ _); (first | (with_reducible ((name_kind "globalImplicit"); k_dflt (refine LCgL.ld_global (by k_asm) (by k_asm) (by k_asm) (by k_is) ?_))) | (with_reducible ((name_kind "local"); k_dflt (refine LCgL.ld_own (by k_asm) (by k_mem) (by assumption) (by assumption) ?_))) | (with_reducible (k_dflt (refine kcf_cell (by k_asm) (by rfl) (by k_mem) (by k_asm) ?_))))) | ((with_reducible show wpAny _ _ (callWith _ (Value.builtin _) (_ :: _) _ _) _ _ _); (first | (with_reducible (refine callWith_method1 ?_)) | (refine callWith_method1 ?_))) | ((with_reducible show wpAny _ _ (eval (Expr.Name _ _) _) _ _ _); (first | (with_reducible ((name_kind "local"); k_dflt (refine' nameX_L ?xFq75 ?xvq75 ?_ ?xaq75 ?xbq75; (case xaq75 => rfl); (case xbq75 => rfl); (case xFq75 => k_asm); (case xvq75 => rfl); k_whole))) | (with_reducible ((name_kind "globalImplicit"); k_dflt (refine' nameX_K ?yFq76 ?yXq76 ?yTq76 ?yeq76 ?_ ?yaq76 ?ybq76; (case yaq76 => rfl); (case ybq76 => rfl); (case yFq76 => k_asm); (case yXq76 => k_asm); (case yTq76 => k_asm); (case yeq76 => k_is); k_whole))))) | ((with_reducible show wpAny _ _ (callWith _ (Value.ref _) _ _ _) _ _ _); (with_reducible (k_dflt (refine' callWith_K ?zXq77 ?zkq77 ?_; (case zXq77 => k_asm); (case zkq77 => k_is); k_whole)))) | ((with_reducible show wpAny _ _ (call (Value.type "bytes") _) _ _ _); (with_reducible (((with_reducible show wpAny _ _ (call (Value.type "bytes") [Value.ref _]) _ _ _); k_dflt (refine' bytes_ba_K ?Fq63 ?Nq63 ?mq63 ?zq63 ?_; (case Fq63 => k_asm); (case Nq63 => k_asm); (case mq63 => k_mem); (case zq63 => (simp only [Array.size_setIfInBounds, Array.size_replicate]; decide)); intro t'))))) | ((with_reducible show wpAny _ _ (setItem (Value.ref _) _ _) _ _ _); (with_reducible ((k_dflt (refine' ba_put ?Fq62 ?Nq62 ?nq62 ?Uq62 ?zq62 ?aq62 ?bq62 ?_; (case Fq62 => k_asm); (case Nq62 => k_asm); (case nq62 => exact rfl); (case Uq62 => k_upd); (case zq62 => (simp only [Array.size_setIfInBounds, Array.size_replicate]; decide)); (case aq62 => decide); (case bq62 => (simp only [Array.size_setIfInBounds, Array.size_replicate]; decide)); k_whole; intro h' F' N'; (try k_sweep)))))) | ((with_reducible show wpAny _ _ (pyNext (Value.ref _)) _ _ _); (with_reducible ((k_dflt (first | (refine' pyNext_item_K ?Fq61 ?Nq61 ?lq61 ?Uq61 ?_; (case Fq61 => k_asm); (case Nq61 => k_asm); (case Uq61 => k_upd); (case lq61 => decide); k_whole; intro h' t' F' N'; (try dsimp only); (try k_sweep)) | (refine' pyNext_end_K rfl ?Fq61 ?Nq61 ?lq61 ?Iq61 ?_; (case Fq61 => k_asm); (case Nq61 => k_asm); (case lq61 => decide); (case Iq61 => (repeat' (first | assumption | (refine' List.forall_mem_cons.mpr ⟨?_, ?_⟩) | (dsimp only; omega)))); intro h' F' N'; (try dsimp only); (try k_sweep))))))) | ((with_reducible show wpAny _ _ (pyIter (Value.ref _)) _ _ _); (with_reducible ((k_dflt (first | (refine' pyIter_K 5 1 ?rq60 ?hbq60 ?sq60 ?Fq60 ?Nq60 ?_; (case rq60 => assumption); (case hbq60 => rfl); (case sq60 => decide); (case Fq60 => k_asm); (case Nq60 => k_asm)) | (refine' pyIter_K 5 5 ?rq60 ?hbq60 ?sq60 ?Fq60 ?Nq60 ?_; (case rq60 => assumption); (case hbq60 => rfl); (case sq60 => decide); (case Fq60 => k_asm); (case Nq60 => k_asm))); intro I' h' F' N' l1; (try dsimp only at N'); (first | (obtain ⟨l1, l3, l4⟩ := lt_split2 l1; dsimp only at l1 l3) | (obtain ⟨l1, l4⟩ := lt_split l1; dsimp only at l1)))))) | walk1 | ((fail_if_success k_end); dsimp only) | (leave1; walk_say "STEP leave1"; (try dsimp only)) | fail "no step"))
  refine calm_execs (calm_For0 ?_)
  (repeat' (first | (k_unfold; (try dsimp only)) | (k_end; wrow_close) | ((with_reducible show wpAny _ _ (eval (Expr.Name _ _) (compEnvC _ _ _ _)) _ _ _); (first | (with_reducible ((name_kind "globalImplicit"); k_dflt (refine LCgL.ld_global (by k_asm) (by k_asm) (by k_asm) (by k_is) ?_))) | (with_reducible ((name_kind "local"); k_dflt (refine LCgL.ld_own (by k_asm) (by k_mem) (by assumption) (by assumption) ?_))) | (with_reducible (k_dflt (refine kcf_cell (by k_asm) (by rfl) (by k_mem) (by k_asm) ?_))))) | ((with_reducible show wpAny _ _ (callWith _ (Value.builtin _) (_ :: _) _ _) _ _ _); (first | (with_reducible (refine callWith_method1 ?_)) | (refine callWith_method1 ?_))) | ((with_reducible show wpAny _ _ (eval (Expr.Name _ _) _) _ _ _); (first | (with_reducible ((name_kind "local"); k_dflt (refine' nameX_L ?xFq82 ?xvq82 ?_ ?xaq82 ?xbq82; (case xaq82 => rfl); (case xbq82 => rfl); (case xFq82 => k_asm); (case xvq82 => rfl); k_whole))) | (with_reducible ((name_kind "globalImplicit"); k_dflt (refine' nameX_K ?yFq83 ?yXq83 ?yTq83 ?yeq83 ?_ ?yaq83 ?ybq83; (case yaq83 => rfl); (case ybq83 => rfl); (case yFq83 => k_asm); (case yXq83 => k_asm); (case yTq83 => k_asm); (case yeq83 => k_is); k_whole))))) | ((with_reducible show wpAny _ _ (callWith _ (Value.ref _) _ _ _) _ _ _); (with_reducible (k_dflt (refine' callWith_K ?zXq84 ?zkq84 ?_; (case zXq84 => k_asm); (case zkq84 => k_is); k_whole)))) | ((with_reducible show wpAny _ _ (call (Value.type "bytes") _) _ _ _); (with_reducible (((with_reducible show wpAny _ _ (call (Value.type "bytes") [Value.ref _]) _ _ _); k_dflt (refine' bytes_ba_K ?Fq63 ?Nq63 ?mq63 ?zq63 ?_; (case Fq63 => k_asm); (case Nq63 => k_asm); (case mq63 => k_mem); (case zq63 => (simp only [Array.size_setIfInBounds, Array.size_replicate]; decide)); intro t'))))) | ((with_reducible show wpAny _ _ (setItem (Value.ref _) _ _) _ _ _); (with_reducible ((k_dflt (refine' ba_put ?Fq62 ?Nq62 ?nq62 ?Uq62 ?zq62 ?aq62 ?bq62 ?_; (case Fq62 => k_asm); (case Nq62 => k_asm); (case nq62 => exact rfl); (case Uq62 => k_upd); (case zq62 => (simp only [Array.size_setIfInBounds, Array.size_replicate]; decide)); (case aq62 => decide); (case bq62 => (simp only [Array.size_setIfInBounds, Array.size_replicate]; decide)); k_whole; intro h' F' N'; (try k_sweep)))))) | ((with_reducible show wpAny _ _ (pyNext (Value.ref _)) _ _ _); (with_reducible ((k_dflt (first | (refine' pyNext_item_K ?Fq61 ?Nq61 ?lq61 ?Uq61 ?_; (case Fq61 => k_asm); (case Nq61 => k_asm); (case Uq61 => k_upd); (case lq61 => decide); k_whole; intro h' t' F' N'; (try dsimp only); (try k_sweep)) | (refine' pyNext_end_K rfl ?Fq61 ?Nq61 ?lq61 ?Iq61 ?_; (case Fq61 => k_asm); (case Nq61 => k_asm); (case lq61 => decide); (case Iq61 => (repeat' (first | assumption | (refine' List.forall_mem_cons.mpr ⟨?_, ?_⟩) | (dsimp only; omega)))); intro h' F' N'; (try dsimp only); (try k_sweep))))))) | ((with_reducible show wpAny _ _ (pyIter (Value.ref _)) _ _ _); (with_reducible ((k_dflt (first | (refine' pyIter_K 5 1 ?rq60 ?hbq60 ?sq60 ?Fq60 ?Nq60 ?_; (case rq60 => assumption); (case hbq60 => rfl); (case sq60 => decide); (case Fq60 => k_asm); (case Nq60 => k_asm)) | (refine' pyIter_K 5 5 ?rq60 ?hbq60 ?sq60 ?Fq60 ?Nq60 ?_; (case rq60 => assumption); (case hbq60 => rfl); (case sq60 => decide); (case Fq60 => k_asm); (case Nq60 => k_asm))); intro I' h' F' N' l1; (try dsimp only at N'); (first | (obtain ⟨l1, l3, l4⟩ := lt_split2 l1; dsimp only at l1 l3) | (obtain ⟨l1, l4⟩ := lt_split l1; dsimp only at l1)))))) | walk1 | ((fail_if_success k_end); dsimp only) | (leave1; walk_say "STEP leave1"; (try dsimp only)) | fail "no step"))
  refine calm_turn ?_
  (repeat' (first | (k_unfold; (try dsimp only)) | (k_end; wrow_close) | ((with_reducible show wpAny _ _ (eval (Expr.Name _ _) (compEnvC _ _ _ _)) _ _ _); (first | (with_reducible ((name_kind "globalImplicit"); k_dflt (refine LCgL.ld_global (by k_asm) (by k_asm) (by k_asm) (by k_is) ?_))) | (with_reducible ((name_kind "local"); k_dflt (refine LCgL.ld_own (by k_asm) (by k_mem) (by assumption) (by assumption) ?_))) | (with_reducible (k_dflt (refine kcf_cell (by k_asm) (by rfl) (by k_mem) (by k_asm) ?_))))) | ((with_reducible show wpAny _ _ (callWith _ (Value.builtin _) (_ :: _) _ _) _ _ _); (first | (with_reducible (refine callWith_method1 ?_)) | (refine callWith_method1 ?_))) | ((with_reducible show wpAny _ _ (eval (Expr.Name _ _) _) _ _ _); (first | (with_reducible ((name_kind "local"); k_dflt (refine' nameX_L ?xFq89 ?xvq89 ?_ ?xaq89 ?xbq89; (case xaq89 => rfl); (case xbq89 => rfl); (case xFq89 => k_asm); (case xvq89 => rfl); k_whole))) | (with_reducible ((name_kind "globalImplicit"); k_dflt (refine' nameX_K ?yFq90 ?yXq90 ?yTq90 ?yeq90 ?_ ?yaq90 ?ybq90; (case yaq90 => rfl); (case ybq90 => rfl); (case yFq90 => k_asm); (case yXq90 => k_asm); (case yTq90 => k_asm); (case yeq90 => k_is); k_whole))))) | ((with_reducible show wpAny _ _ (callWith _ (Value.ref _) _ _ _) _ _ _); (with_reducible (k_dflt (refine' callWith_K ?zXq91 ?zkq91 ?_; (case zXq91 => k_asm); (case zkq91 => k_is); k_whole)))) | ((with_reducible show wpAny _ _ (call (Value.type "bytes") _) _ _ _); (with_reducible (((with_reducible show wpAny _ _ (call (Value.type "bytes") [Value.ref _]) _ _ _); k_dflt (refine' bytes_ba_K ?Fq63 ?Nq63 ?mq63 ?zq63 ?_; (case Fq63 => k_asm); (case Nq63 => k_asm); (case mq63 => k_mem); (case zq63 => (simp only [Array.size_setIfInBounds, Array.size_replicate]; decide)); intro t'))))) | ((with_reducible show wpAny _ _ (setItem (Value.ref _) _ _) _ _ _); (with_reducible ((k_dflt (refine' ba_put ?Fq62 ?Nq62 ?nq62 ?Uq62 ?zq62 ?aq62 ?bq62 ?_; (case Fq62 => k_asm); (case Nq62 => k_asm); (case nq62 => exact rfl); (case Uq62 => k_upd); (case zq62 => (simp only [Array.size_setIfInBounds, Array.size_replicate]; decide)); (case aq62 => decide); (case bq62 => (simp only [Array.size_setIfInBounds, Array.size_replicate]; decide)); k_whole; intro h' F' N'; (try k_sweep)))))) | ((with_reducible show wpAny _ _ (pyNext (Value.ref _)) _ _ _); (with_reducible ((k_dflt (first | (refine' pyNext_item_K ?Fq61 ?Nq61 ?lq61 ?Uq61 ?_; (case Fq61 => k_asm); (case Nq61 => k_asm); (case Uq61 => k_upd); (case lq61 => decide); k_whole; intro h' t' F' N'; (try dsimp only); (try k_sweep)) | (refine' pyNext_end_K rfl ?Fq61 ?Nq61 ?lq61 ?Iq61 ?_; (case Fq61 => k_asm); (case Nq61 => k_asm); (case lq61 => decide); (case Iq61 => (repeat' (first | assumption | (refine' List.forall_mem_cons.mpr ⟨?_, ?_⟩) | (dsimp only; omega)))); intro h' F' N'; (try dsimp only); (try k_sweep))))))) | ((with_reducible show wpAny _ _ (pyIter (Value.ref _)) _ _ _); (with_reducible ((k_dflt (first | (refine' pyIter_K 5 1 ?rq60 ?hbq60 ?sq60 ?Fq60 ?Nq60 ?_; (case rq60 => assumption); (case hbq60 => rfl); (case sq60 => decide); (case Fq60 => k_asm); (case Nq60 => k_asm)) | (refine' pyIter_K 5 5 ?rq60 ?hbq60 ?sq60 ?Fq60 ?Nq60 ?_; (case rq60 => assumption); (case hbq60 => rfl); (case sq60 => decide); (case Fq60 => k_asm); (case Nq60 => k_asm))); intro I' h' F' N' l1; (try dsimp only at N'); (first | (obtain ⟨l1, l3, l4⟩ := lt_split2 l1; dsimp only at l1 l3) | (obtain ⟨l1, l4⟩ := lt_split l1; dsimp only at l1)))))) | walk1 | ((fail_if_success k_end); dsimp only) | (leave1; walk_say "STEP leave1"; (try dsimp only)) | fail "no step"))
  refine calm_execs (calm_For0 ?_)
  (repeat' (first | (k_unfold; (try dsimp only)) | (k_end; wrow_close) | ((with_reducible show wpAny _ _ (eval (Expr.Name _ _) (compEnvC _ _ _ _)) _ _ _); (first | (with_reducible ((name_kind "globalImplicit"); k_dflt (refine LCgL.ld_global (by k_asm) (by k_asm) (by k_asm) (by k_is) ?_))) | (with_reducible ((name_kind "local"); k_dflt (refine LCgL.ld_own (by k_asm) (by k_mem) (by assumption) (by assumption) ?_))) | (with_reducible (k_dflt (refine kcf_cell (by k_asm) (by rfl) (by k_mem) (by k_asm) ?_))))) | ((with_reducible show wpAny _ _ (callWith _ (Value.builtin _) (_ :: _) _ _) _ _ _); (first | (with_reducible (refine callWith_method1 ?_)) | (refine callWith_method1 ?_))) | ((with_reducible show wpAny _ _ (eval (Expr.Name _ _) _) _ _ _); (first | (with_reducible ((name_kind "local"); k_dflt (refine' nameX_L ?xFq96 ?xvq96 ?_ ?xaq96 ?xbq96; (case xaq96 => rfl); (case xbq96 => rfl); (case xFq96 => k_asm); (case xvq96 => rfl); k_whole))) | (with_reducible ((name_kind "globalImplicit"); k_dflt (refine' nameX_K ?yFq97 ?yXq97 ?yTq97 ?yeq97 ?_ ?yaq97 ?ybq97; (case yaq97 => rfl); (case ybq97 => rfl); (case yFq97 => k_asm); (case yXq97 => k_asm); (case yTq97 => k_asm); (case yeq97 => k_is); k_whole))))) | ((with_reducible show wpAny _ _ (callWith _ (Value.ref _) _ _ _) _ _ _); (with_reducible (k_dflt (refine' callWith_K ?zXq98 ?zkq98 ?_; (case zXq98 => k_asm); (case zkq98 => k_is); k_whole)))) | ((with_reducible show wpAny _ _ (call (Value.type "bytes") _) _ _ _); (with_reducible (((with_reducible show wpAny _ _ (call (Value.type "bytes") [Value.ref _]) _ _ _); k_dflt (refine' bytes_ba_K ?Fq63 ?Nq63 ?mq63 ?zq63 ?_; (case Fq63 => k_asm); (case Nq63 => k_asm); (case mq63 => k_mem); (case zq63 => (simp only [Array.size_setIfInBounds, Array.size_replicate]; decide)); intro t'))))) | ((with_reducible show wpAny _ _ (setItem (Value.ref _) _ _) _ _ _); (with_reducible ((k_dflt (refine' ba_put ?Fq62 ?Nq62 ?nq62 ?Uq62 ?zq62 ?aq62 ?bq62 ?_; (case Fq62 => k_asm); (case Nq62 => k_asm); (case nq62 => exact rfl); (case Uq62 => k_upd); (case zq62 => (simp only [Array.size_setIfInBounds, Array.size_replicate]; decide)); (case aq62 => decide); (case bq62 => (simp only [Array.size_setIfInBounds, Array.size_replicate]; decide)); k_whole; intro h' F' N'; (try k_sweep)))))) | ((with_reducible show wpAny _ _ (pyNext (Value.ref _)) _ _ _); (with_reducible ((k_dflt (first | (refine' pyNext_item_K ?Fq61 ?Nq61 ?lq61 ?Uq61 ?_; (case Fq61 => k_asm); (case Nq61 => k_asm); (case Uq61 => k_upd); (case lq61 => decide); k_whole; intro h' t' F' N'; (try dsimp only); (try k_sweep)) | (refine' pyNext_end_K rfl ?Fq61 ?Nq61 ?lq61 ?Iq61 ?_; (case Fq61 => k_asm); (case Nq61 => k_asm); (case lq61 => decide); (case Iq61 => (repeat' (first | assumption | (refine' List.forall_mem_cons.mpr ⟨?_, ?_⟩) | (dsimp only; omega)))); intro h' F' N'; (try dsimp only); (try k_sweep))))))) | ((with_reducible show wpAny _ _ (pyIter (Value.ref _)) _ _ _); (with_reducible ((k_dflt (first | (refine' pyIter_K 5 1 ?rq60 ?hbq60 ?sq60 ?Fq60 ?Nq60 ?_; (case rq60 => assumption); (case hbq60 => rfl); (case sq60 => decide); (case Fq60 => k_asm); (case Nq60 => k_asm)) | (refine' pyIter_K 5 5 ?rq60 ?hbq60 ?sq60 ?Fq60 ?Nq60 ?_; (case rq60 => assumption); (case hbq60 => rfl); (case sq60 => decide); (case Fq60 => k_asm); (case Nq60 => k_asm))); intro I' h' F' N' l1; (try dsimp only at N'); (first | (obtain ⟨l1, l3, l4⟩ := lt_split2 l1; dsimp only at l1 l3) | (obtain ⟨l1, l4⟩ := lt_split l1; dsimp only at l1)))))) | walk1 | ((fail_if_success k_end); dsimp only) | (leave1; walk_say "STEP leave1"; (try dsimp only)) | fail "no step"))
  iterate 5 (refine calm_turn ?_; (repeat' (first | (k_unfold; (try dsimp only)) | (k_end; wrow_close) | ((with_reducible show wpAny _ _ (eval (Expr.Name _ _) (compEnvC _ _ _ _)) _ _ _); (first | (with_reducible ((name_kind "globalImplicit"); k_dflt (refine LCgL.ld_global (by k_asm) (by k_asm) (by k_asm) (by k_is) ?_))) | (with_reducible ((name_kind "local"); k_dflt (refine LCgL.ld_own (by k_asm) (by k_mem) (by assumption) (by assumption) ?_))) | (with_reducible (k_dflt (refine kcf_cell (by k_asm) (by rfl) (by k_mem) (by k_asm) ?_))))) | ((with_reducible show wpAny _ _ (callWith _ (Value.builtin _) (_ :: _) _ _) _ _ _); (first | (with_reducible (refine callWith_method1 ?_)) | (refine callWith_method1 ?_))) | ((with_reducible show wpAny _ _ (eval (Expr.Name _ _) _) _ _ _); (first | (with_reducible ((name_kind "local"); k_dflt (refine' nameX_L ?xFq103 ?xvq103 ?_ ?xaq103 ?xbq103; (case xaq103 => rfl); (case xbq103 => rfl); (case xFq103 => k_asm); (case xvq103 => rfl); k_whole))) | (with_reducible ((name_kind "globalImplicit"); k_dflt (refine' nameX_K ?yFq104 ?yXq104 ?yTq104 ?yeq104 ?_ ?yaq104 ?ybq104; (case yaq104 => rfl); (case ybq104 => rfl); (case yFq104 => k_asm); (case yXq104 => k_asm); (case yTq104 => k_asm); (case yeq104 => k_is); k_whole))))) | ((with_reducible show wpAny _ _ (callWith _ (Value.ref _) _ _ _) _ _ _); (with_reducible (k_dflt (refine' callWith_K ?zXq105 ?zkq105 ?_; (case zXq105 => k_asm); (case zkq105 => k_is); k_whole)))) | ((with_reducible show wpAny _ _ (call (Value.type "bytes") _) _ _ _); (with_reducible (((with_reducible show wpAny _ _ (call (Value.type "bytes") [Value.ref _]) _ _ _); k_dflt (refine' bytes_ba_K ?Fq63 ?Nq63 ?mq63 ?zq63 ?_; (case Fq63 => k_asm); (case Nq63 => k_asm); (case mq63 => k_mem); (case zq63 => (simp only [Array.size_setIfInBounds, Array.size_replicate]; decide)); intro t'))))) | ((with_reducible show wpAny _ _ (setItem (Value.ref _) _ _) _ _ _); (with_reducible ((k_dflt (refine' ba_put ?Fq62 ?Nq62 ?nq62 ?Uq62 ?zq62 ?aq62 ?bq62 ?_; (case Fq62 => k_asm); (case Nq62 => k_asm); (case nq62 => exact rfl); (case Uq62 => k_upd); (case zq62 => (simp only [Array.size_setIfInBounds, Array.size_replicate]; decide)); (case aq62 => decide); (case bq62 => (simp only [Array.size_setIfInBounds, Array.size_replicate]; decide)); k_whole; intro h' F' N'; (try k_sweep)))))) | ((with_reducible show wpAny _ _ (pyNext (Value.ref _)) _ _ _); (with_reducible ((k_dflt (first | (refine' pyNext_item_K ?Fq61 ?Nq61 ?lq61 ?Uq61 ?_; (case Fq61 => k_asm); (case Nq61 => k_asm); (case Uq61 => k_upd); (case lq61 => decide); k_whole; intro h' t' F' N'; (try dsimp only); (try k_sweep)) | (refine' pyNext_end_K rfl ?Fq61 ?Nq61 ?lq61 ?Iq61 ?_; (case Fq61 => k_asm); (case Nq61 => k_asm); (case lq61 => decide); (case Iq61 => (repeat' (first | assumption | (refine' List.forall_mem_cons.mpr ⟨?_, ?_⟩) | (dsimp only; omega)))); intro h' F' N'; (try dsimp only); (try k_sweep))))))) | ((with_reducible show wpAny _ _ (pyIter (Value.ref _)) _ _ _); (with_reducible ((k_dflt (first | (refine' pyIter_K 5 1 ?rq60 ?hbq60 ?sq60 ?Fq60 ?Nq60 ?_; (case rq60 => assumption); (case hbq60 => rfl); (case sq60 => decide); (case Fq60 => k_asm); (case Nq60 => k_asm)) | (refine' pyIter_K 5 5 ?rq60 ?hbq60 ?sq60 ?Fq60 ?Nq60 ?_; (case rq60 => assumption); (case hbq60 => rfl); (case sq60 => decide); (case Fq60 => k_asm); (case Nq60 => k_asm))); intro I' h' F' N' l1; (try dsimp only at N'); (first | (obtain ⟨l1, l3, l4⟩ := lt_split2 l1; dsimp only at l1 l3) | (obtain ⟨l1, l4⟩ := lt_split l1; dsimp only at l1)))))) | walk1 | ((fail_if_success k_end); dsimp only) | (leave1; walk_say "STEP leave1"; (try dsimp only)) | fail "no step")); refine calm_of ?_; (repeat' (first | (k_unfold; (try dsimp only)) | (k_end; wrow_close) | ((with_reducible show wpAny _ _ (eval (Expr.Name _ _) (compEnvC _ _ _ _)) _ _ _); (first | (with_reducible ((name_kind "globalImplicit"); k_dflt (refine LCgL.ld_global (by k_asm) (by k_asm) (by k_asm) (by k_is) ?_))) | (with_reducible ((name_kind "local"); k_dflt (refine LCgL.ld_own (by k_asm) (by k_mem) (by assumption) (by assumption) ?_))) | (with_reducible (k_dflt (refine kcf_cell (by k_asm) (by rfl) (by k_mem) (by k_asm) ?_))))) | ((with_reducible show wpAny _ _ (callWith _ (Value.builtin _) (_ :: _) _ _) _ _ _); (first | (with_reducible (refine callWith_method1 ?_)) | (refine callWith_method1 ?_))) | ((with_reducible show wpAny _ _ (eval (Expr.Name _ _) _) _ _ _); (first | (with_reducible ((name_kind "local"); k_dflt (refine' nameX_L ?xFq110 ?xvq110 ?_ ?xaq110 ?xbq110; (case xaq110 => rfl); (case xbq110 => rfl); (case xFq110 => k_asm); (case xvq110 => rfl); k_whole))) | (with_reducible ((name_kind "globalImplicit"); k_dflt (refine' nameX_K ?yFq111 ?yXq111 ?yTq111 ?yeq111 ?_ ?yaq111 ?ybq111; (case yaq111 => rfl); (case ybq111 => rfl); (case yFq111 => k_asm); (case yXq111 => k_asm); (case yTq111 => k_asm); (case yeq111 => k_is); k_whole))))) | ((with_reducible show wpAny _ _ (callWith _ (Value.ref _) _ _ _) _ _ _); (with_reducible (k_dflt (refine' callWith_K ?zXq112 ?zkq112 ?_; (case zXq112 => k_asm); (case zkq112 => k_is); k_whole)))) | ((with_reducible show wpAny _ _ (call (Value.type "bytes") _) _ _ _); (with_reducible (((with_reducible show wpAny _ _ (call (Value.type "bytes") [Value.ref _]) _ _ _); k_dflt (refine' bytes_ba_K ?Fq63 ?Nq63 ?mq63 ?zq63 ?_; (case Fq63 => k_asm); (case Nq63 => k_asm); (case mq63 => k_mem); (case zq63 => (simp only [Array.size_setIfInBounds, Array.size_replicate]; decide)); intro t'))))) | ((with_reducible show wpAny _ _ (setItem (Value.ref _) _ _) _ _ _); (with_reducible ((k_dflt (refine' ba_put ?Fq62 ?Nq62 ?nq62 ?Uq62 ?zq62 ?aq62 ?bq62 ?_; (case Fq62 => k_asm); (case Nq62 => k_asm); (case nq62 => exact rfl); (case Uq62 => k_upd); (case zq62 => (simp only [Array.size_setIfInBounds, Array.size_replicate]; decide)); (case aq62 => decide); (case bq62 => (simp only [Array.size_setIfInBounds, Array.size_replicate]; decide)); k_whole; intro h' F' N'; (try k_sweep)))))) | ((with_reducible show wpAny _ _ (pyNext (Value.ref _)) _ _ _); (with_reducible ((k_dflt (first | (refine' pyNext_item_K ?Fq61 ?Nq61 ?lq61 ?Uq61 ?_; (case Fq61 => k_asm); (case Nq61 => k_asm); (case Uq61 => k_upd); (case lq61 => decide); k_whole; intro h' t' F' N'; (try dsimp only); (try k_sweep)) | (refine' pyNext_end_K rfl ?Fq61 ?Nq61 ?lq61 ?Iq61 ?_; (case Fq61 => k_asm); (case Nq61 => k_asm); (case lq61 => decide); (case Iq61 => (repeat' (first | assumption | (refine' List.forall_mem_cons.mpr ⟨?_, ?_⟩) | (dsimp only; omega)))); intro h' F' N'; (try dsimp only); (try k_sweep))))))) | ((with_reducible show wpAny _ _ (pyIter (Value.ref _)) _ _ _); (with_reducible ((k_dflt (first | (refine' pyIter_K 5 1 ?rq60 ?hbq60 ?sq60 ?Fq60 ?Nq60 ?_; (case rq60 => assumption); (case hbq60 => rfl); (case sq60 => decide); (case Fq60 => k_asm); (case Nq60 => k_asm)) | (refine' pyIter_K 5 5 ?rq60 ?hbq60 ?sq60 ?Fq60 ?Nq60 ?_; (case rq60 => assumption); (case hbq60 => rfl); (case sq60 => decide); (case Fq60 => k_asm); (case Nq60 => k_asm))); intro I' h' F' N' l1; (try dsimp only at N'); (first | (obtain ⟨l1, l3, l4⟩ := lt_split2 l1; dsimp only at l1 l3) | (obtain ⟨l1, l4⟩ := lt_split l1; dsimp only at l1)))))) | walk1 | ((fail_if_success k_end); dsimp only) | (leave1; walk_say "STEP leave1"; (try dsimp only)) | fail "no step")))
  refine calm_turn ?_
  (repeat' (first | (k_unfold; (try dsimp only)) | (k_end; wrow_close) | ((with_reducible show wpAny _ _ (eval (Expr.Name _ _) (compEnvC _ _ _ _)) _ _ _); (first | (with_reducible ((name_kind "globalImplicit"); k_dflt (refine LCgL.ld_global (by k_asm) (by k_asm) (by k_asm) (by k_is) ?_))) | (with_reducible ((name_kind "local"); k_dflt (refine LCgL.ld_own (by k_asm) (by k_mem) (by assumption) (by assumption) ?_))) | (with_reducible (k_dflt (refine kcf_cell (by k_asm) (by rfl) (by k_mem) (by k_asm) ?_))))) | ((with_reducible show wpAny _ _ (callWith _ (Value.builtin _) (_ :: _) _ _) _ _ _); (first | (with_reducible (refine callWith_method1 ?_)) | (refine callWith_method1 ?_))) | ((with_reducible show wpAny _ _ (eval (Expr.Name _ _) _) _ _ _); (first | (with_reducible ((name_kind "local"); k_dflt (refine' nameX_L ?xFq117 ?xvq117 ?_ ?xaq117 ?xbq117; (case xaq117 => rfl); (case xbq117 => rfl); (case xFq117 => k_asm); (case xvq117 => rfl); k_whole))) | (with_reducible ((name_kind "globalImplicit"); k_dflt (refine' nameX_K ?yFq118 ?yXq118 ?yTq118 ?yeq118 ?_ ?yaq118 ?ybq118; (case yaq118 => rfl); (case ybq118 => rfl); (case yFq118 => k_asm); (case yXq118 => k_asm); (case yTq118 => k_asm); (case yeq118 => k_is); k_whole))))) | ((with_reducible show wpAny _ _ (callWith _ (Value.ref _) _ _ _) _ _ _); (with_reducible (k_dflt (refine' callWith_K ?zXq119 ?zkq119 ?_; (case zXq119 => k_asm); (case zkq119 => k_is); k_whole)))) | ((with_reducible show wpAny _ _ (call (Value.type "bytes") _) _ _ _); (with_reducible (((with_reducible show wpAny _ _ (call (Value.type "bytes") [Value.ref _]) _ _ _); k_dflt (refine' bytes_ba_K ?Fq63 ?Nq63 ?mq63 ?zq63 ?_; (case Fq63 => k_asm); (case Nq63 => k_asm); (case mq63 => k_mem); (case zq63 => (simp only [Array.size_setIfInBounds, Array.size_replicate]; decide)); intro t'))))) | ((with_reducible show wpAny _ _ (setItem (Value.ref _) _ _) _ _ _); (with_reducible ((k_dflt (refine' ba_put ?Fq62 ?Nq62 ?nq62 ?Uq62 ?zq62 ?aq62 ?bq62 ?_; (case Fq62 => k_asm); (case Nq62 => k_asm); (case nq62 => exact rfl); (case Uq62 => k_upd); (case zq62 => (simp only [Array.size_setIfInBounds, Array.size_replicate]; decide)); (case aq62 => decide); (case bq62 => (simp only [Array.size_setIfInBounds, Array.size_replicate]; decide)); k_whole; intro h' F' N'; (try k_sweep)))))) | ((with_reducible show wpAny _ _ (pyNext (Value.ref _)) _ _ _); (with_reducible ((k_dflt (first | (refine' pyNext_item_K ?Fq61 ?Nq61 ?lq61 ?Uq61 ?_; (case Fq61 => k_asm); (case Nq61 => k_asm); (case Uq61 => k_upd); (case lq61 => decide); k_whole; intro h' t' F' N'; (try dsimp only); (try k_sweep)) | (refine' pyNext_end_K rfl ?Fq61 ?Nq61 ?lq61 ?Iq61 ?_; (case Fq61 => k_asm); (case Nq61 => k_asm); (case lq61 => decide); (case Iq61 => (repeat' (first | assumption | (refine' List.forall_mem_cons.mpr ⟨?_, ?_⟩) | (dsimp only; omega)))); intro h' F' N'; (try dsimp only); (try k_sweep))))))) | ((with_reducible show wpAny _ _ (pyIter (Value.ref _)) _ _ _); (with_reducible ((k_dflt (first | (refine' pyIter_K 5 1 ?rq60 ?hbq60 ?sq60 ?Fq60 ?Nq60 ?_; (case rq60 => assumption); (case hbq60 => rfl); (case sq60 => decide); (case Fq60 => k_asm); (case Nq60 => k_asm)) | (refine' pyIter_K 5 5 ?rq60 ?hbq60 ?sq60 ?Fq60 ?Nq60 ?_; (case rq60 => assumption); (case hbq60 => rfl); (case sq60 => decide); (case Fq60 => k_asm); (case Nq60 => k_asm))); intro I' h' F' N' l1; (try dsimp only at N'); (first | (obtain ⟨l1, l3, l4⟩ := lt_split2 l1; dsimp only at l1 l3) | (obtain ⟨l1, l4⟩ := lt_split l1; dsimp only at l1)))))) | walk1 | ((fail_if_success k_end); dsimp only) | (leave1; walk_say "STEP leave1"; (try dsimp only)) | fail "no step"))
  dsimp only
  refine calm_of ?_
  (repeat' (first | (k_unfold; (try dsimp only)) | (k_end; wrow_close) | ((with_reducible show wpAny _ _ (eval (Expr.Name _ _) (compEnvC _ _ _ _)) _ _ _); (first | (with_reducible ((name_kind "globalImplicit"); k_dflt (refine LCgL.ld_global (by k_asm) (by k_asm) (by k_asm) (by k_is) ?_))) | (with_reducible ((name_kind "local"); k_dflt (refine LCgL.ld_own (by k_asm) (by k_mem) (by assumption) (by assumption) ?_))) | (with_reducible (k_dflt (refine kcf_cell (by k_asm) (by rfl) (by k_mem) (by k_asm) ?_))))) | ((with_reducible show wpAny _ _ (callWith _ (Value.builtin _) (_ :: _) _ _) _ _ _); (first | (with_reducible (refine callWith_method1 ?_)) | (refine callWith_method1 ?_))) | ((with_reducible show wpAny _ _ (eval (Expr.Name _ _) _) _ _ _); (first | (with_reducible ((name_kind "local"); k_dflt (refine' nameX_L ?xFq124 ?xvq124 ?_ ?xaq124 ?xbq124; (case xaq124 => rfl); (case xbq124 => rfl); (case xFq124 => k_asm); (case xvq124 => rfl); k_whole))) | (with_reducible ((name_kind "globalImplicit"); k_dflt (refine' nameX_K ?yFq125 ?yXq125 ?yTq125 ?yeq125 ?_ ?yaq125 ?ybq125; (case yaq125 => rfl); (case ybq125 => rfl); (case yFq125 => k_asm); (case yXq125 => k_asm); (case yTq125 => k_asm); (case yeq125 => k_is); k_whole))))) | ((with_reducible show wpAny _ _ (callWith _ (Value.ref _) _ _ _) _ _ _); (with_reducible (k_dflt (refine' callWith_K ?zXq126 ?zkq126 ?_; (case zXq126 => k_asm); (case zkq126 => k_is); k_whole)))) | ((with_reducible show wpAny _ _ (call (Value.type "bytes") _) _ _ _); (with_reducible (((with_reducible show wpAny _ _ (call (Value.type "bytes") [Value.ref _]) _ _ _); k_dflt (refine' bytes_ba_K ?Fq63 ?Nq63 ?mq63 ?zq63 ?_; (case Fq63 => k_asm); (case Nq63 => k_asm); (case mq63 => k_mem); (case zq63 => (simp only [Array.size_setIfInBounds, Array.size_replicate]; decide)); intro t'))))) | ((with_reducible show wpAny _ _ (setItem (Value.ref _) _ _) _ _ _); (with_reducible ((k_dflt (refine' ba_put ?Fq62 ?Nq62 ?nq62 ?Uq62 ?zq62 ?aq62 ?bq62 ?_; (case Fq62 => k_asm); (case Nq62 => k_asm); (case nq62 => exact rfl); (case Uq62 => k_upd); (case zq62 => (simp only [Array.size_setIfInBounds, Array.size_replicate]; decide)); (case aq62 => decide); (case bq62 => (simp only [Array.size_setIfInBounds, Array.size_replicate]; decide)); k_whole; intro h' F' N'; (try k_sweep)))))) | ((with_reducible show wpAny _ _ (pyNext (Value.ref _)) _ _ _); (with_reducible ((k_dflt (first | (refine' pyNext_item_K ?Fq61 ?Nq61 ?lq61 ?Uq61 ?_; (case Fq61 => k_asm); (case Nq61 => k_asm); (case Uq61 => k_upd); (case lq61 => decide); k_whole; intro h' t' F' N'; (try dsimp only); (try k_sweep)) | (refine' pyNext_end_K rfl ?Fq61 ?Nq61 ?lq61 ?Iq61 ?_; (case Fq61 => k_asm); (case Nq61 => k_asm); (case lq61 => decide); (case Iq61 => (repeat' (first | assumption | (refine' List.forall_mem_cons.mpr ⟨?_, ?_⟩) | (dsimp only; omega)))); intro h' F' N'; (try dsimp only); (try k_sweep))))))) | ((with_reducible show wpAny _ _ (pyIter (Value.ref _)) _ _ _); (with_reducible ((k_dflt (first | (refine' pyIter_K 5 1 ?rq60 ?hbq60 ?sq60 ?Fq60 ?Nq60 ?_; (case rq60 => assumption); (case hbq60 => rfl); (case sq60 => decide); (case Fq60 => k_asm); (case Nq60 => k_asm)) | (refine' pyIter_K 5 5 ?rq60 ?hbq60 ?sq60 ?Fq60 ?Nq60 ?_; (case rq60 => assumption); (case hbq60 => rfl); (case sq60 => decide); (case Fq60 => k_asm); (case Nq60 => k_asm))); intro I' h' F' N' l1; (try dsimp only at N'); (first | (obtain ⟨l1, l3, l4⟩ := lt_split2 l1; dsimp only at l1 l3) | (obtain ⟨l1, l4⟩ := lt_split l1; dsimp only at l1)))))) | walk1 | ((fail_if_success k_end); dsimp only) | (leave1; walk_say "STEP leave1"; (try dsimp only)) | fail "no step"))
  dsimp only
  refine calm_turn ?_
  (repeat' (first | (k_unfold; (try dsimp only)) | (k_end; wrow_close) | ((with_reducible show wpAny _ _ (eval (Expr.Name _ _) (compEnvC _ _ _ _)) _ _ _); (first | (with_reducible ((name_kind "globalImplicit"); k_dflt (refine LCgL.ld_global (by k_asm) (by k_asm) (by k_asm) (by k_is) ?_))) | (with_reducible ((name_kind "local"); k_dflt (refine LCgL.ld_own (by k_asm) (by k_mem) (by assumption) (by assumption) ?_))) | (with_reducible (k_dflt (refine kcf_cell (by k_asm) (by rfl) (by k_mem) (by k_asm) ?_))))) | ((with_reducible show wpAny _ _ (callWith _ (Value.builtin _) (_ :: _) _ _) _ _ _); (first | (with_reducible (refine callWith_method1 ?_)) | (refine callWith_method1 ?_))) | ((with_reducible show wpAny _ _ (eval (Expr.Name _ _) _) _ _ _); (first | (with_reducible ((name_kind "local"); k_dflt (refine' nameX_L ?xFq131 ?xvq131 ?_ ?xaq131 ?xbq131; (case xaq131 => rfl); (case xbq131 => rfl); (case xFq131 => k_asm); (case xvq131 => rfl); k_whole))) | (with_reducible ((name_kind "globalImplicit"); k_dflt (refine' nameX_K ?yFq132 ?yXq132 ?yTq132 ?yeq132 ?_ ?yaq132 ?ybq132; (case yaq132 => rfl); (case ybq132 => rfl); (case yFq132 => k_asm); (case yXq132 => k_asm); (case yTq132 => k_asm); (case yeq132 => k_is); k_whole))))) | ((with_reducible show wpAny _ _ (callWith _ (Value.ref _) _ _ _) _ _ _); (with_reducible (k_dflt (refine' callWith_K ?zXq133 ?zkq133 ?_; (case zXq133 => k_asm); (case zkq133 => k_is); k_whole)))) | ((with_reducible show wpAny _ _ (call (Value.type "bytes") _) _ _ _); (with_reducible (((with_reducible show wpAny _ _ (call (Value.type "bytes") [Value.ref _]) _ _ _); k_dflt (refine' bytes_ba_K ?Fq63 ?Nq63 ?mq63 ?zq63 ?_; (case Fq63 => k_asm); (case Nq63 => k_asm); (case mq63 => k_mem); (case zq63 => (simp only [Array.size_setIfInBounds, Array.size_replicate]; decide)); intro t'))))) | ((with_reducible show wpAny _ _ (setItem (Value.ref _) _ _) _ _ _); (with_reducible ((k_dflt (refine' ba_put ?Fq62 ?Nq62 ?nq62 ?Uq62 ?zq62 ?aq62 ?bq62 ?_; (case Fq62 => k_asm); (case Nq62 => k_asm); (case nq62 => exact rfl); (case Uq62 => k_upd); (case zq62 => (simp only [Array.size_setIfInBounds, Array.size_replicate]; decide)); (case aq62 => decide); (case bq62 => (simp only [Array.size_setIfInBounds, Array.size_replicate]; decide)); k_whole; intro h' F' N'; (try k_sweep)))))) | ((with_reducible show wpAny _ _ (pyNext (Value.ref _)) _ _ _); (with_reducible ((k_dflt (first | (refine' pyNext_item_K ?Fq61 ?Nq61 ?lq61 ?Uq61 ?_; (case Fq61 => k_asm); (case Nq61 => k_asm); (case Uq61 => k_upd); (case lq61 => decide); k_whole; intro h' t' F' N'; (try dsimp only); (try k_sweep)) | (refine' pyNext_end_K rfl ?Fq61 ?Nq61 ?lq61 ?Iq61 ?_; (case Fq61 => k_asm); (case Nq61 => k_asm); (case lq61 => decide); (case Iq61 => (repeat' (first | assumption | (refine' List.forall_mem_cons.mpr ⟨?_, ?_⟩) | (dsimp only; omega)))); intro h' F' N'; (try dsimp only); (try k_sweep))))))) | ((with_reducible show wpAny _ _ (pyIter (Value.ref _)) _ _ _); (with_reducible ((k_dflt (first | (refine' pyIter_K 5 1 ?rq60 ?hbq60 ?sq60 ?Fq60 ?Nq60 ?_; (case rq60 => assumption); (case hbq60 => rfl); (case sq60 => decide); (case Fq60 => k_asm); (case Nq60 => k_asm)) | (refine' pyIter_K 5 5 ?rq60 ?hbq60 ?sq60 ?Fq60 ?Nq60 ?_; (case rq60 => assumption); (case hbq60 => rfl); (case sq60 => decide); (case Fq60 => k_asm); (case Nq60 => k_asm))); intro I' h' F' N' l1; (try dsimp only at N'); (first | (obtain ⟨l1, l3, l4⟩ := lt_split2 l1; dsimp only at l1 l3) | (obtain ⟨l1, l4⟩ := lt_split l1; dsimp only at l1)))))) | walk1 | ((fail_if_success k_end); dsimp only) | (leave1; walk_say "STEP leave1"; (try dsimp only)) | fail "no step"))
  dsimp only
  refine calm_of ?_
  (repeat' (first | (k_unfold; (try dsimp only)) | (k_end; wrow_close) | ((with_reducible show wpAny _ _ (eval (Expr.Name _ _) (compEnvC _ _ _ _)) _ _ _); (first | (with_reducible ((name_kind "globalImplicit"); k_dflt (refine LCgL.ld_global (by k_asm) (by k_asm) (by k_asm) (by k_is) ?_))) | (with_reducible ((name_kind "local"); k_dflt (refine LCgL.ld_own (by k_asm) (by k_mem) (by assumption) (by assumption) ?_))) | (with_reducible (k_dflt (refine kcf_cell (by k_asm) (by rfl) (by k_mem) (by k_asm) ?_))))) | ((with_reducible show wpAny _ _ (callWith _ (Value.builtin _) (_ :: _) _ _) _ _ _); (first | (with_reducible (refine callWith_method1 ?_)) | (refine callWith_method1 ?_))) | ((with_reducible show wpAny _ _ (eval (Expr.Name _ _) _) _ _ _); (first | (with_reducible ((name_kind "local"); k_dflt (refine' nameX_L ?xFq138 ?xvq138 ?_ ?xaq138 ?xbq138; (case xaq138 => rfl); (case xbq138 => rfl); (case xFq138 => k_asm); (case xvq138 => rfl); k_whole))) | (with_reducible ((name_kind "globalImplicit"); k_dflt (refine' nameX_K ?yFq139 ?yXq139 ?yTq139 ?yeq139 ?_ ?yaq139 ?ybq139; (case yaq139 => rfl); (case ybq139 => rfl); (case yFq139 => k_asm); (case yXq139 => k_asm); (case yTq139 => k_asm); (case yeq139 => k_is); k_whole))))) | ((with_reducible show wpAny _ _ (callWith _ (Value.ref _) _ _ _) _ _ _); (with_reducible (k_dflt (refine' callWith_K ?zXq140 ?zkq140 ?_; (case zXq140 => k_asm); (case zkq140 => k_is); k_whole)))) | ((with_reducible show wpAny _ _ (call (Value.type "bytes") _) _ _ _); (with_reducible (((with_reducible show wpAny _ _ (call (Value.type "bytes") [Value.ref _]) _ _ _); k_dflt (refine' bytes_ba_K ?Fq63 ?Nq63 ?mq63 ?zq63 ?_; (case Fq63 => k_asm); (case Nq63 => k_asm); (case mq63 => k_mem); (case zq63 => (simp only [Array.size_setIfInBounds, Array.size_replicate]; decide)); intro t'))))) | ((with_reducible show wpAny _ _ (setItem (Value.ref _) _ _) _ _ _); (with_reducible ((k_dflt (refine' ba_put ?Fq62 ?Nq62 ?nq62 ?Uq62 ?zq62 ?aq62 ?bq62 ?_; (case Fq62 => k_asm); (case Nq62 => k_asm); (case nq62 => exact rfl); (case Uq62 => k_upd); (case zq62 => (simp only [Array.size_setIfInBounds, Array.size_replicate]; decide)); (case aq62 => decide); (case bq62 => (simp only [Array.size_setIfInBounds, Array.size_replicate]; decide)); k_whole; intro h' F' N'; (try k_sweep)))))) | ((with_reducible show wpAny _ _ (pyNext (Value.ref _)) _ _ _); (with_reducible ((k_dflt (first | (refine' pyNext_item_K ?Fq61 ?Nq61 ?lq61 ?Uq61 ?_; (case Fq61 => k_asm); (case Nq61 => k_asm); (case Uq61 => k_upd); (case lq61 => decide); k_whole; intro h' t' F' N'; (try dsimp only); (try k_sweep)) | (refine' pyNext_end_K rfl ?Fq61 ?Nq61 ?lq61 ?Iq61 ?_; (case Fq61 => k_asm); (case Nq61 => k_asm); (case lq61 => decide); (case Iq61 => (repeat' (first | assumption | (refine' List.forall_mem_cons.mpr ⟨?_, ?_⟩) | (dsimp only; omega)))); intro h' F' N'; (try dsimp only); (try k_sweep))))))) | ((with_reducible show wpAny _ _ (pyIter (Value.ref _)) _ _ _); (with_reducible ((k_dflt (first | (refine' pyIter_K 5 1 ?rq60 ?hbq60 ?sq60 ?Fq60 ?Nq60 ?_; (case rq60 => assumption); (case hbq60 => rfl); (case sq60 => decide); (case Fq60 => k_asm); (case Nq60 => k_asm)) | (refine' pyIter_K 5 5 ?rq60 ?hbq60 ?sq60 ?Fq60 ?Nq60 ?_; (case rq60 => assumption); (case hbq60 => rfl); (case sq60 => decide); (case Fq60 => k_asm); (case Nq60 => k_asm))); intro I' h' F' N' l1; (try dsimp only at N'); (first | (obtain ⟨l1, l3, l4⟩ := lt_split2 l1; dsimp only at l1 l3) | (obtain ⟨l1, l4⟩ := lt_split l1; dsimp only at l1)))))) | walk1 | ((fail_if_success k_end); dsimp only) | (leave1; walk_say "STEP leave1"; (try dsimp only)) | fail "no step"))
  refine' endB hret ?e ?F ?N ?S
  case F => k_asm
  case N => k_asm
  case S => kcj_all
  case e => rfl
end Mine
end
section
open PySem PySem.W PyProof.Rows PySem.Spec PySem.Calls
namespace Mine
local macro_rules | `(tactic| k_all) => `(tactic| (refine all_ne (by assumption) ?_; (try dsimp only); omega))
set_option maxRecDepth 100000 in
set_option maxHeartbeats 8000000 in
theorem swap_sum4 {w : World} {p : Program} {loose : List Str} {mean : ExcName → Option Value} {mg mb : Str → Option Value}
    (a b c d : UInt8) (tb tn : Tok) (news : List (Addr × Obj)) :
    CalmClaim PySem.Challenge.rw_zn0002_01.row.prog w (hd.heap_39 w.params) p loose mean mg mb 77 news [.bytes #[a, b, c, d] tb, .int 4 tn] (fun t => .bytes #[d, c, b, a] t) := by
  w_top off
  k_fill
  dsimp only [CalmClaim, CbRet]
  intros
  rename_i hret
  refine calm_call ?_
  k_dflt ((refine' calm_def ?k1q141 ?k2q141 ?k3q141 ?k4q141 ?k5q141 ?kAq141 ?kFq141 ?kKq141 ?k6q141 ?k7q141 ?k8q141 ?k9q141 ?kBq141 ?_ ?c5q141 ?c2q141 ?c3q141 ?c4q141; (case kAq141 => exact rfl); (case kFq141 => exact rfl); (case kKq141 => assumption); (case k1q141 => k_asm); (case k2q141 => k_asm); (case k3q141 => k_asm); (case k4q141 => k_asm); (case k5q141 => k_asm); (case k6q141 => k_is); (case k7q141 => k_is); (case k8q141 => ktr_room); (case k9q141 => first | exact BindsTo.of_eq rfl | exact binds_K (by k_in) rfl (by k_is) rfl rfl rfl); (case c5q141 => decide); (case kBq141 => exact locs rfl); (case c2q141 => exact rfl); (case c3q141 => exact rfl); (case c4q141 => exact rfl); k_whole; intro g' L' h' FG' F' N' B' X' T' l0; (try k_lt l0); (try dsimp only); (try k_lift B')))
  refine calm_execs (calm_Assign_Name (calm_callTy (T := "bytearray") ?_))
  (repeat' (first | (k_unfold; (try dsimp only)) | (k_end; wrow_close) | ((with_reducible show wpAny _ _ (eval (Expr.Name _ _) (compEnvC _ _ _ _)) _ _ _); (first | (with_reducible ((name_kind "globalImplicit"); k_dflt (refine LCgL.ld_global (by k_asm) (by k_asm) (by k_asm) (by k_is) ?_))) | (with_reducible ((name_kind "local"); k_dflt (refine LCgL.ld_own (by k_asm) (by k_mem) (by assumption) (by assumption) ?_))) | (with_reducible (k_dflt (refine kcf_cell (by k_asm) (by rfl) (by k_mem) (by k_asm) ?_))))) | ((with_reducible show wpAny _ _ (callWith _ (Value.builtin _) (_ :: _) _ _) _ _ _); (first | (with_reducible (refine callWith_method1 ?_)) | (refine callWith_method1 ?_))) | ((with_reducible show wpAny _ _ (eval (Expr.Name _ _) _) _ _ _); (first | (with_reducible ((name_kind "local"); k_dflt (refine' nameX_L ?xFq150 ?xvq150 ?_ ?xaq150 ?xbq150; (case xaq150 => rfl); (case xbq150 => rfl); (case xFq150 => k_asm); (case xvq150 => rfl); k_whole))) | (with_reducible ((name_kind "globalImplicit"); k_dflt (refine' nameX_K ?yFq151 ?yXq151 ?yTq151 ?yeq151 ?_ ?yaq151 ?ybq151; (case yaq151 => rfl); (case ybq151 => rfl); (case yFq151 => k_asm); (case yXq151 => k_asm); (case yTq151 => k_asm); (case yeq151 => k_is); k_whole))))) | ((with_reducible show wpAny _ _ (callWith _ (Value.ref _) _ _ _) _ _ _); (with_reducible (k_dflt (refine' callWith_K ?zXq152 ?zkq152 ?_; (case zXq152 => k_asm); (case zkq152 => k_is); k_whole)))) | ((with_reducible show wpAny _ _ (call (Value.type "bytes") _) _ _ _); (with_reducible (((with_reducible show wpAny _ _ (call (Value.type "bytes") [Value.ref _]) _ _ _); k_dflt (refine' bytes_ba_K ?Fq145 ?Nq145 ?mq145 ?zq145 ?_; (case Fq145 => k_asm); (case Nq145 => k_asm); (case mq145 => k_mem); (case zq145 => (simp only [Array.size_setIfInBounds, Array.size_replicate]; decide)); intro t'))))) | ((with_reducible show wpAny _ _ (setItem (Value.ref _) _ _) _ _ _); (with_reducible ((k_dflt (refine' ba_put ?Fq144 ?Nq144 ?nq144 ?Uq144 ?zq144 ?aq144 ?bq144 ?_; (case Fq144 => k_asm); (case Nq144 => k_asm); (case nq144 => exact rfl); (case Uq144 => k_upd); (case zq144 => (simp only [Array.size_setIfInBounds, Array.size_replicate]; decide)); (case aq144 => decide); (case bq144 => (simp only [Array.size_setIfInBounds, Array.size_replicate]; decide)); k_whole; intro h' F' N'; (try k_sweep)))))) | ((with_reducible show wpAny _ _ (pyNext (Value.ref _)) _ _ _); (with_reducible ((k_dflt (first | (refine' pyNext_item_K ?Fq143 ?Nq143 ?lq143 ?Uq143 ?_; (case Fq143 => k_asm); (case Nq143 => k_asm); (case Uq143 => k_upd); (case lq143 => decide); k_whole; intro h' t' F' N'; (try dsimp only); (try k_sweep)) | (refine' pyNext_end_K rfl ?Fq143 ?Nq143 ?lq143 ?Iq143 ?_; (case Fq143 => k_asm); (case Nq143 => k_asm); (case lq143 => decide); (case Iq143 => (repeat' (first | assumption | (refine' List.forall_mem_cons.mpr ⟨?_, ?_⟩) | (dsimp only; omega)))); intro h' F' N'; (try dsimp only); (try k_sweep))))))) | ((with_reducible show wpAny _ _ (pyIter (Value.ref _)) _ _ _); (with_reducible ((k_dflt (first | (refine' pyIter_K 4 1 ?rq142 ?hbq142 ?sq142 ?Fq142 ?Nq142 ?_; (case rq142 => assumption); (case hbq142 => rfl); (case sq142 => decide); (case Fq142 => k_asm); (case Nq142 => k_asm)) | (refine' pyIter_K 4 4 ?rq142 ?hbq142 ?sq142 ?Fq142 ?Nq142 ?_; (case rq142 => assumption); (case hbq142 => rfl); (case sq142 => decide); (case Fq142 => k_asm); (case Nq142 => k_asm))); intro I' h' F' N' l1; (try dsimp only at N'); (first | (obtain ⟨l1, l3, l4⟩ := lt_split2 l1; dsimp only at l1 l3) | (obtain ⟨l1, l4⟩ := lt_split l1; dsimp only at l1)))))) | walk1 | ((fail_if_success k_end); dsimp only) | (leave1; walk_say "STEP leave1"; (try dsimp only)) | fail "no step"))
  refine calm_bytearray_K (i := 4) (by k_asm) (by k_asm) rfl (by decide) (by decide) ?_
  intro x hx Fx Nx lx
  refine calm_of ?_
  (repeat' (first | (k_unfold; (try dsimp only)) | (k_end; wrow_close) | ((with_reducible show wpAny _ _ (eval (Expr.Name _ _) (compEnvC _ _ _ _)) _ _ _); (first | (with_reducible ((name_kind "globalImplicit"); k_dflt (refine LCgL.ld_global (by k_asm) (by k_asm) (by k_asm) (by k_is) ?_))) | (with_reducible ((name_kind "local"); k_dflt (refine LCgL.ld_own (by k_asm) (by k_mem) (by assumption) (by assumption) ?_))) | (with_reducible (k_dflt (refine kcf_cell (by k_asm) (by rfl) (by k_mem) (by k_asm) ?_))))) | ((with_reducible show wpAny _ _ (callWith _ (Value.builtin _) (_ :: _) _ _) _ _ _); (first | (with_reducible (refine callWith_method1 ?_)) | (refine callWith_method1 ?_))) | ((with_reducible show wpAny _ _ (eval (Expr.Name _ _) _) _ _ _); (first | (with_reducible ((name_kind "local"); k_dflt (refine' nameX_L ?xFq157 ?xvq157 ?_ ?xaq157 ?xbq157; (case xaq157 => rfl); (case xbq157 => rfl); (case xFq157 => k_asm); (case xvq157 => rfl); k_whole))) | (with_reducible ((name_kind "globalImplicit"); k_dflt (refine' nameX_K ?yFq158 ?yXq158 ?yTq158 ?yeq158 ?_ ?yaq158 ?ybq158; (case yaq158 => rfl); (case ybq158 => rfl); (case yFq158 => k_asm); (case yXq158 => k_asm); (case yTq158 => k_asm); (case yeq158 => k_is); k_whole))))) | ((with_reducible show wpAny _ _ (callWith _ (Value.ref _) _ _ _) _ _ _); (with_reducible (k_dflt (refine' callWith_K ?zXq159 ?zkq159 ?_; (case zXq159 => k_asm); (case zkq159 => k_is); k_whole)))) | ((with_reducible show wpAny _ _ (call (Value.type "bytes") _) _ _ _); (with_reducible (((with_reducible show wpAny _ _ (call (Value.type "bytes") [Value.ref _]) _ _ _); k_dflt (refine' bytes_ba_K ?Fq145 ?Nq145 ?mq145 ?zq145 ?_; (case Fq145 => k_asm); (case Nq145 => k_asm); (case mq145 => k_mem); (case zq145 => (simp only [Array.size_setIfInBounds, Array.size_replicate]; decide)); intro t'))))) | ((with_reducible show wpAny _ _ (setItem (Value.ref _) _ _) _ _ _); (with_reducible ((k_dflt (refine' ba_put ?Fq144 ?Nq144 ?nq144 ?Uq144 ?zq144 ?aq144 ?bq144 ?_; (case Fq144 => k_asm); (case Nq144 => k_asm); (case nq144 => exact rfl); (case Uq144 => k_upd); (case zq144 => (simp only [Array.size_setIfInBounds, Array.size_replicate]; decide)); (case aq144 => decide); (case bq144 => (simp only [Array.size_setIfInBounds, Array.size_replicate]; decide)); k_whole; intro h' F' N'; (try k_sweep)))))) | ((with_reducible show wpAny _ _ (pyNext (Value.ref _)) _ _ _); (with_reducible ((k_dflt (first | (refine' pyNext_item_K ?Fq143 ?Nq143 ?lq143 ?Uq143 ?_; (case Fq143 => k_asm); (case Nq143 => k_asm); (case Uq143 => k_upd); (case lq143 => decide); k_whole; intro h' t' F' N'; (try dsimp only); (try k_sweep)) | (refine' pyNext_end_K rfl ?Fq143 ?Nq143 ?lq143 ?Iq143 ?_; (case Fq143 => k_asm); (case Nq143 => k_asm); (case lq143 => decide); (case Iq143 => (repeat' (first | assumption | (refine' List.forall_mem_cons.mpr ⟨?_, ?_⟩) | (dsimp only; omega)))); intro h' F' N'; (try dsimp only); (try k_sweep))))))) | ((with_reducible show wpAny _ _ (pyIter (Value.ref _)) _ _ _); (with_reducible ((k_dflt (first | (refine' pyIter_K 4 1 ?rq142 ?hbq142 ?sq142 ?Fq142 ?Nq142 ?_; (case rq142 => assumption); (case hbq142 => rfl); (case sq142 => decide); (case Fq142 => k_asm); (case Nq142 => k_asm)) | (refine' pyIter_K 4 4 ?rq142 ?hbq142 ?sq142 ?Fq142 ?Nq142 ?_; (case rq142 => assumption); (case hbq142 => rfl); (case sq142 => decide); (case Fq142 => k_asm); (case Nq142 => k_asm))); intro I' h' F' N' l1; (try dsimp only at N'); (first | (obtain ⟨l1, l3, l4⟩ := lt_split2 l1; dsimp only at l1 l3) | (obtain ⟨l1, l4⟩ := lt_split l1; dsimp only at l1)))))) | walk1 | ((fail_if_success k_end); dsimp only) | (leave1; walk_say "STEP leave1"; (try dsimp only)) | fail "no step"))
  refine calm_execs (calm_For0 ?_)
  (repeat' (first | (k_unfold; (try dsimp only)) | (k_end; wrow_close) | ((with_reducible show wpAny _ _ (eval (Expr.Name _ _) (compEnvC _ _ _ _)) _ _ _); (first | (with_reducible ((name_kind "globalImplicit"); k_dflt (refine LCgL.ld_global (by k_asm) (by k_asm) (by k_asm) (by k_is) ?_))) | (with_reducible ((name_kind "local"); k_dflt (refine LCgL.ld_own (by k_asm) (by k_mem) (by assumption) (by assumption) ?_))) | (with_reducible (k_dflt (refine kcf_cell (by k_asm) (by rfl) (by k_mem) (by k_asm) ?_))))) | ((with_reducible show wpAny _ _ (callWith _ (Value.builtin _) (_ :: _) _ _) _ _ _); (first | (with_reducible (refine callWith_method1 ?_)) | (refine callWith_method1 ?_))) | ((with_reducible show wpAny _ _ (eval (Expr.Name _ _) _) _ _ _); (first | (with_reducible ((name_kind "local"); k_dflt (refine' nameX_L ?xFq164 ?xvq164 ?_ ?xaq164 ?xbq164; (case xaq164 => rfl); (case xbq164 => rfl); (case xFq164 => k_asm); (case xvq164 => rfl); k_whole))) | (with_reducible ((name_kind "globalImplicit"); k_dflt (refine' nameX_K ?yFq165 ?yXq165 ?yTq165 ?yeq165 ?_ ?yaq165 ?ybq165; (case yaq165 => rfl); (case ybq165 => rfl); (case yFq165 => k_asm); (case yXq165 => k_asm); (case yTq165 => k_asm); (case yeq165 => k_is); k_whole))))) | ((with_reducible show wpAny _ _ (callWith _ (Value.ref _) _ _ _) _ _ _); (with_reducible (k_dflt (refine' callWith_K ?zXq166 ?zkq166 ?_; (case zXq166 => k_asm); (case zkq166 => k_is); k_whole)))) | ((with_reducible show wpAny _ _ (call (Value.type "bytes") _) _ _ _); (with_reducible (((with_reducible show wpAny _ _ (call (Value.type "bytes") [Value.ref _]) _ _ _); k_dflt (refine' bytes_ba_K ?Fq145 ?Nq145 ?mq145 ?zq145 ?_; (case Fq145 => k_asm); (case Nq145 => k_asm); (case mq145 => k_mem); (case zq145 => (simp only [Array.size_setIfInBounds, Array.size_replicate]; decide)); intro t'))))) | ((with_reducible show wpAny _ _ (setItem (Value.ref _) _ _) _ _ _); (with_reducible ((k_dflt (refine' ba_put ?Fq144 ?Nq144 ?nq144 ?Uq144 ?zq144 ?aq144 ?bq144 ?_; (case Fq144 => k_asm); (case Nq144 => k_asm); (case nq144 => exact rfl); (case Uq144 => k_upd); (case zq144 => (simp only [Array.size_setIfInBounds, Array.size_replicate]; decide)); (case aq144 => decide); (case bq144 => (simp only [Array.size_setIfInBounds, Array.size_replicate]; decide)); k_whole; intro h' F' N'; (try k_sweep)))))) | ((with_reducible show wpAny _ _ (pyNext (Value.ref _)) _ _ _); (with_reducible ((k_dflt (first | (refine' pyNext_item_K ?Fq143 ?Nq143 ?lq143 ?Uq143 ?_; (case Fq143 => k_asm); (case Nq143 => k_asm); (case Uq143 => k_upd); (case lq143 => decide); k_whole; intro h' t' F' N'; (try dsimp only); (try k_sweep)) | (refine' pyNext_end_K rfl ?Fq143 ?Nq143 ?lq143 ?Iq143 ?_; (case Fq143 => k_asm); (case Nq143 => k_asm); (case lq143 => decide); (case Iq143 => (repeat' (first | assumption | (refine' List.forall_mem_cons.mpr ⟨?_, ?_⟩) | (dsimp only; omega)))); intro h' F' N'; (try dsimp only); (try k_sweep))))))) | ((with_reducible show wpAny _ _ (pyIter (Value.ref _)) _ _ _); (with_reducible ((k_dflt (first | (refine' pyIter_K 4 1 ?rq142 ?hbq142 ?sq142 ?Fq142 ?Nq142 ?_; (case rq142 => assumption); (case hbq142 => rfl); (case sq142 => decide); (case Fq142 => k_asm); (case Nq142 => k_asm)) | (refine' pyIter_K 4 4 ?rq142 ?hbq142 ?sq142 ?Fq142 ?Nq142 ?_; (case rq142 => assumption); (case hbq142 => rfl); (case sq142 => decide); (case Fq142 => k_asm); (case Nq142 => k_asm))); intro I' h' F' N' l1; (try dsimp only at N'); (first | (obtain ⟨l1, l3, l4⟩ := lt_split2 l1; dsimp only at l1 l3) | (obtain ⟨l1, l4⟩ := lt_split l1; dsimp only at l1)))))) | walk1 | ((fail_if_success k_end); dsimp only) | (leave1; walk_say "STEP leave1"; (try dsimp only)) | fail "no step"))
  refine calm_turn ?_
  (repeat' (first | (k_unfold; (try dsimp only)) | (k_end; wrow_close) | ((with_reducible show wpAny _ _ (eval (Expr.Name _ _) (compEnvC _ _ _ _)) _ _ _); (first | (with_reducible ((name_kind "globalImplicit"); k_dflt (refine LCgL.ld_global (by k_asm) (by k_asm) (by k_asm) (by k_is) ?_))) | (with_reducible ((name_kind "local"); k_dflt (refine LCgL.ld_own (by k_asm) (by k_mem) (by assumption) (by assumption) ?_))) | (with_reducible (k_dflt (refine kcf_cell (by k_asm) (by rfl) (by k_mem) (by k_asm) ?_))))) | ((with_reducible show wpAny _ _ (callWith _ (Value.builtin _) (_ :: _) _ _) _ _ _); (first | (with_reducible (refine callWith_method1 ?_)) | (refine callWith_method1 ?_))) | ((with_reducible show wpAny _ _ (eval (Expr.Name _ _) _) _ _ _); (first | (with_reducible ((name_kind "local"); k_dflt (refine' nameX_L ?xFq171 ?xvq171 ?_ ?xaq171 ?xbq171; (case xaq171 => rfl); (case xbq171 => rfl); (case xFq171 => k_asm); (case xvq171 => rfl); k_whole))) | (with_reducible ((name_kind "globalImplicit"); k_dflt (refine' nameX_K ?yFq172 ?yXq172 ?yTq172 ?yeq172 ?_ ?yaq172 ?ybq172; (case yaq172 => rfl); (case ybq172 => rfl); (case yFq172 => k_asm); (case yXq172 => k_asm); (case yTq172 => k_asm); (case yeq172 => k_is); k_whole))))) | ((with_reducible show wpAny _ _ (callWith _ (Value.ref _) _ _ _) _ _ _); (with_reducible (k_dflt (refine' callWith_K ?zXq173 ?zkq173 ?_; (case zXq173 => k_asm); (case zkq173 => k_is); k_whole)))) | ((with_reducible show wpAny _ _ (call (Value.type "bytes") _) _ _ _); (with_reducible (((with_reducible show wpAny _ _ (call (Value.type "bytes") [Value.ref _]) _ _ _); k_dflt (refine' bytes_ba_K ?Fq145 ?Nq145 ?mq145 ?zq145 ?_; (case Fq145 => k_asm); (case Nq145 => k_asm); (case mq145 => k_mem); (case zq145 => (simp only [Array.size_setIfInBounds, Array.size_replicate]; decide)); intro t'))))) | ((with_reducible show wpAny _ _ (setItem (Value.ref _) _ _) _ _ _); (with_reducible ((k_dflt (refine' ba_put ?Fq144 ?Nq144 ?nq144 ?Uq144 ?zq144 ?aq144 ?bq144 ?_; (case Fq144 => k_asm); (case Nq144 => k_asm); (case nq144 => exact rfl); (case Uq144 => k_upd); (case zq144 => (simp only [Array.size_setIfInBounds, Array.size_replicate]; decide)); (case aq144 => decide); (case bq144 => (simp only [Array.size_setIfInBounds, Array.size_replicate]; decide)); k_whole; intro h' F' N'; (try k_sweep)))))) | ((with_reducible show wpAny _ _ (pyNext (Value.ref _)) _ _ _); (with_reducible ((k_dflt (first | (refine' pyNext_item_K ?Fq143 ?Nq143 ?lq143 ?Uq143 ?_; (case Fq143 => k_asm); (case Nq143 => k_asm); (case Uq143 => k_upd); (case lq143 => decide); k_whole; intro h' t' F' N'; (try dsimp only); (try k_sweep)) | (refine' pyNext_end_K rfl ?Fq143 ?Nq143 ?lq143 ?Iq143 ?_; (case Fq143 => k_asm); (case Nq143 => k_asm); (case lq143 => decide); (case Iq143 => (repeat' (first | assumption | (refine' List.forall_mem_cons.mpr ⟨?_, ?_⟩) | (dsimp only; omega)))); intro h' F' N'; (try dsimp only); (try k_sweep))))))) | ((with_reducible show wpAny _ _ (pyIter (Value.ref _)) _ _ _); (with_reducible ((k_dflt (first | (refine' pyIter_K 4 1 ?rq142 ?hbq142 ?sq142 ?Fq142 ?Nq142 ?_; (case rq142 => assumption); (case hbq142 => rfl); (case sq142 => decide); (case Fq142 => k_asm); (case Nq142 => k_asm)) | (refine' pyIter_K 4 4 ?rq142 ?hbq142 ?sq142 ?Fq142 ?Nq142 ?_; (case rq142 => assumption); (case hbq142 => rfl); (case sq142 => decide); (case Fq142 => k_asm); (case Nq142 => k_asm))); intro I' h' F' N' l1; (try dsimp only at N'); (first | (obtain ⟨l1, l3, l4⟩ := lt_split2 l1; dsimp only at l1 l3) | (obtain ⟨l1, l4⟩ := lt_split l1; dsimp only at l1)))))) | walk1 | ((fail_if_success k_end); dsimp only) | (leave1; walk_say "STEP leave1"; (try dsimp only)) | fail "no step"))
  refine calm_execs (calm_For0 ?_)
  (repeat' (first | (k_unfold; (try dsimp only)) | (k_end; wrow_close) | ((with_reducible show wpAny _ _ (eval (Expr.Name _ _) (compEnvC _ _ _ _)) _ _ _); (first | (with_reducible ((name_kind "globalImplicit"); k_dflt (refine LCgL.ld_global (by k_asm) (by k_asm) (by k_asm) (by k_is) ?_))) | (with_reducible ((name_kind "local"); k_dflt (refine LCgL.ld_own (by k_asm) (by k_mem) (by assumption) (by assumption) ?_))) | (with_reducible (k_dflt (refine kcf_cell (by k_asm) (by rfl) (by k_mem) (by k_asm) ?_))))) | ((with_reducible show wpAny _ _ (callWith _ (Value.builtin _) (_ :: _) _ _) _ _ _); (first | (with_reducible (refine callWith_method1 ?_)) | (refine callWith_method1 ?_))) | ((with_reducible show wpAny _ _ (eval (Expr.Name _ _) _) _ _ _); (first | (with_reducible ((name_kind "local"); k_dflt (refine' nameX_L ?xFq178 ?xvq178 ?_ ?xaq178 ?xbq178; (case xaq178 => rfl); (case xbq178 => rfl); (case xFq178 => k_asm); (case xvq178 => rfl); k_whole))) | (with_reducible ((name_kind "globalImplicit"); k_dflt (refine' nameX_K ?yFq179 ?yXq179 ?yTq179 ?yeq179 ?_ ?yaq179 ?ybq179; (case yaq179 => rfl); (case ybq179 => rfl); (case yFq179 => k_asm); (case yXq179 => k_asm); (case yTq179 => k_asm); (case yeq179 => k_is); k_whole))))) | ((with_reducible show wpAny _ _ (callWith _ (Value.ref _) _ _ _) _ _ _); (with_reducible (k_dflt (refine' callWith_K ?zXq180 ?zkq180 ?_; (case zXq180 => k_asm); (case zkq180 => k_is); k_whole)))) | ((with_reducible show wpAny _ _ (call (Value.type "bytes") _) _ _ _); (with_reducible (((with_reducible show wpAny _ _ (call (Value.type "bytes") [Value.ref _]) _ _ _); k_dflt (refine' bytes_ba_K ?Fq145 ?Nq145 ?mq145 ?zq145 ?_; (case Fq145 => k_asm); (case Nq145 => k_asm); (case mq145 => k_mem); (case zq145 => (simp only [Array.size_setIfInBounds, Array.size_replicate]; decide)); intro t'))))) | ((with_reducible show wpAny _ _ (setItem (Value.ref _) _ _) _ _ _); (with_reducible ((k_dflt (refine' ba_put ?Fq144 ?Nq144 ?nq144 ?Uq144 ?zq144 ?aq144 ?bq144 ?_; (case Fq144 => k_asm); (case Nq144 => k_asm); (case nq144 => exact rfl); (case Uq144 => k_upd); (case zq144 => (simp only [Array.size_setIfInBounds, Array.size_replicate]; decide)); (case aq144 => decide); (case bq144 => (simp only [Array.size_setIfInBounds, Array.size_replicate]; decide)); k_whole; intro h' F' N'; (try k_sweep)))))) | ((with_reducible show wpAny _ _ (pyNext (Value.ref _)) _ _ _); (with_reducible ((k_dflt (first | (refine' pyNext_item_K ?Fq143 ?Nq143 ?lq143 ?Uq143 ?_; (case Fq143 => k_asm); (case Nq143 => k_asm); (case Uq143 => k_upd); (case lq143 => decide); k_whole; intro h' t' F' N'; (try dsimp only); (try k_sweep)) | (refine' pyNext_end_K rfl ?Fq143 ?Nq143 ?lq143 ?Iq143 ?_; (case Fq143 => k_asm); (case Nq143 => k_asm); (case lq143 => decide); (case Iq143 => (repeat' (first | assumption | (refine' List.forall_mem_cons.mpr ⟨?_, ?_⟩) | (dsimp only; omega)))); intro h' F' N'; (try dsimp only); (try k_sweep))))))) | ((with_reducible show wpAny _ _ (pyIter (Value.ref _)) _ _ _); (with_reducible ((k_dflt (first | (refine' pyIter_K 4 1 ?rq142 ?hbq142 ?sq142 ?Fq142 ?Nq142 ?_; (case rq142 => assumption); (case hbq142 => rfl); (case sq142 => decide); (case Fq142 => k_asm); (case Nq142 => k_asm)) | (refine' pyIter_K 4 4 ?rq142 ?hbq142 ?sq142 ?Fq142 ?Nq142 ?_; (case rq142 => assumption); (case hbq142 => rfl); (case sq142 => decide); (case Fq142 => k_asm); (case Nq142 => k_asm))); intro I' h' F' N' l1; (try dsimp only at N'); (first | (obtain ⟨l1, l3, l4⟩ := lt_split2 l1; dsimp only at l1 l3) | (obtain ⟨l1, l4⟩ := lt_split l1; dsimp only at l1)))))) | walk1 | ((fail_if_success k_end); dsimp only) | (leave1; walk_say "STEP leave1"; (try dsimp only)) | fail "no step"))
  iterate 4 (refine calm_turn ?_; (repeat' (first | (k_unfold; (try dsimp only)) | (k_end; wrow_close) | ((with_reducible show wpAny _ _ (eval (Expr.Name _ _) (compEnvC _ _ _ _)) _ _ _); (first | (with_reducible ((name_kind "globalImplicit"); k_dflt (refine LCgL.ld_global (by k_asm) (by k_asm) (by k_asm) (by k_is) ?_))) | (with_reducible ((name_kind "local"); k_dflt (refine LCgL.ld_own (by k_asm) (by k_mem) (by assumption) (by assumption) ?_))) | (with_reducible (k_dflt (refine kcf_cell (by k_asm) (by rfl) (by k_mem) (by k_asm) ?_))))) | ((with_reducible show wpAny _ _ (callWith _ (Value.builtin _) (_ :: _) _ _) _ _ _); (first | (with_reducible (refine callWith_method1 ?_)) | (refine callWith_method1 ?_))) | ((with_reducible show wpAny _ _ (eval (Expr.Name _ _) _) _ _ _); (first | (with_reducible ((name_kind "local"); k_dflt (refine' nameX_L ?xFq185 ?xvq185 ?_ ?xaq185 ?xbq185; (case xaq185 => rfl); (case xbq185 => rfl); (case xFq185 => k_asm); (case xvq185 => rfl); k_whole))) | (with_reducible ((name_kind "globalImplicit"); k_dflt (refine' nameX_K ?yFq186 ?yXq186 ?yTq186 ?yeq186 ?_ ?yaq186 ?ybq186; (case yaq186 => rfl); (case ybq186 => rfl); (case yFq186 => k_asm); (case yXq186 => k_asm); (case yTq186 => k_asm); (case yeq186 => k_is); k_whole))))) | ((with_reducible show wpAny _ _ (callWith _ (Value.ref _) _ _ _) _ _ _); (with_reducible (k_dflt (refine' callWith_K ?zXq187 ?zkq187 ?_; (case zXq187 => k_asm); (case zkq187 => k_is); k_whole)))) | ((with_reducible show wpAny _ _ (call (Value.type "bytes") _) _ _ _); (with_reducible (((with_reducible show wpAny _ _ (call (Value.type "bytes") [Value.ref _]) _ _ _); k_dflt (refine' bytes_ba_K ?Fq145 ?Nq145 ?mq145 ?zq145 ?_; (case Fq145 => k_asm); (case Nq145 => k_asm); (case mq145 => k_mem); (case zq145 => (simp only [Array.size_setIfInBounds, Array.size_replicate]; decide)); intro t'))))) | ((with_reducible show wpAny _ _ (setItem (Value.ref _) _ _) _ _ _); (with_reducible ((k_dflt (refine' ba_put ?Fq144 ?Nq144 ?nq144 ?Uq144 ?zq144 ?aq144 ?bq144 ?_; (case Fq144 => k_asm); (case Nq144 => k_asm); (case nq144 => exact rfl); (case Uq144 => k_upd); (case zq144 => (simp only [Array.size_setIfInBounds, Array.size_replicate]; decide)); (case aq144 => decide); (case bq144 => (simp only [Array.size_setIfInBounds, Array.size_replicate]; decide)); k_whole; intro h' F' N'; (try k_sweep)))))) | ((with_reducible show wpAny _ _ (pyNext (Value.ref _)) _ _ _); (with_reducible ((k_dflt (first | (refine' pyNext_item_K ?Fq143 ?Nq143 ?lq143 ?Uq143 ?_; (case Fq143 => k_asm); (case Nq143 => k_asm); (case Uq143 => k_upd); (case lq143 => decide); k_whole; intro h' t' F' N'; (try dsimp only); (try k_sweep)) | (refine' pyNext_end_K rfl ?Fq143 ?Nq143 ?lq143 ?Iq143 ?_; (case Fq143 => k_asm); (case Nq143 => k_asm); (case lq143 => decide); (case Iq143 => (repeat' (first | assumption | (refine' List.forall_mem_cons.mpr ⟨?_, ?_⟩) | (dsimp only; omega)))); intro h' F' N'; (try dsimp only); (try k_sweep))))))) | ((with_reducible show wpAny _ _ (pyIter (Value.ref _)) _ _ _); (with_reducible ((k_dflt (first | (refine' pyIter_K 4 1 ?rq142 ?hbq142 ?sq142 ?Fq142 ?Nq142 ?_; (case rq142 => assumption); (case hbq142 => rfl); (case sq142 => decide); (case Fq142 => k_asm); (case Nq142 => k_asm)) | (refine' pyIter_K 4 4 ?rq142 ?hbq142 ?sq142 ?Fq142 ?Nq142 ?_; (case rq142 => assumption); (case hbq142 => rfl); (case sq142 => decide); (case Fq142 => k_asm); (case Nq142 => k_asm))); intro I' h' F' N' l1; (try dsimp only at N'); (first | (obtain ⟨l1, l3, l4⟩ := lt_split2 l1; dsimp only at l1 l3) | (obtain ⟨l1, l4⟩ := lt_split l1; dsimp only at l1)))))) | walk1 | ((fail_if_success k_end); dsimp only) | (leave1; walk_say "STEP leave1"; (try dsimp only)) | fail "no step")); refine calm_of ?_; (repeat' (first | (k_unfold; (try dsimp only)) | (k_end; wrow_close) | ((with_reducible show wpAny _ _ (eval (Expr.Name _ _) (compEnvC _ _ _ _)) _ _ _); (first | (with_reducible ((name_kind "globalImplicit"); k_dflt (refine LCgL.ld_global (by k_asm) (by k_asm) (by k_asm) (by k_is) ?_))) | (with_reducible ((name_kind "local"); k_dflt (refine LCgL.ld_own (by k_asm) (by k_mem) (by assumption) (by assumption) ?_))) | (with_reducible (k_dflt (refine kcf_cell (by k_asm) (by rfl) (by k_mem) (by k_asm) ?_))))) | ((with_reducible show wpAny _ _ (callWith _ (Value.builtin _) (_ :: _) _ _) _ _ _); (first | (with_reducible (refine callWith_method1 ?_)) | (refine callWith_method1 ?_))) | ((with_reducible show wpAny _ _ (eval (Expr.Name _ _) _) _ _ _); (first | (with_reducible ((name_kind "local"); k_dflt (refine' nameX_L ?xFq192 ?xvq192 ?_ ?xaq192 ?xbq192; (case xaq192 => rfl); (case xbq192 => rfl); (case xFq192 => k_asm); (case xvq192 => rfl); k_whole))) | (with_reducible ((name_kind "globalImplicit"); k_dflt (refine' nameX_K ?yFq193 ?yXq193 ?yTq193 ?yeq193 ?_ ?yaq193 ?ybq193; (case yaq193 => rfl); (case ybq193 => rfl); (case yFq193 => k_asm); (case yXq193 => k_asm); (case yTq193 => k_asm); (case yeq193 => k_is); k_whole))))) | ((with_reducible show wpAny _ _ (callWith _ (Value.ref _) _ _ _) _ _ _); (with_reducible (k_dflt (refine' callWith_K ?zXq194 ?zkq194 ?_; (case zXq194 => k_asm); (case zkq194 => k_is); k_whole)))) | ((with_reducible show wpAny _ _ (call (Value.type "bytes") _) _ _ _); (with_reducible (((with_reducible show wpAny _ _ (call (Value.type "bytes") [Value.ref _]) _ _ _); k_dflt (refine' bytes_ba_K ?Fq145 ?Nq145 ?mq145 ?zq145 ?_; (case Fq145 => k_asm); (case Nq145 => k_asm); (case mq145 => k_mem); (case zq145 => (simp only [Array.size_setIfInBounds, Array.size_replicate]; decide)); intro t'))))) | ((with_reducible show wpAny _ _ (setItem (Value.ref _) _ _) _ _ _); (with_reducible ((k_dflt (refine' ba_put ?Fq144 ?Nq144 ?nq144 ?Uq144 ?zq144 ?aq144 ?bq144 ?_; (case Fq144 => k_asm); (case Nq144 => k_asm); (case nq144 => exact rfl); (case Uq144 => k_upd); (case zq144 => (simp only [Array.size_setIfInBounds, Array.size_replicate]; decide)); (case aq144 => decide); (case bq144 => (simp only [Array.size_setIfInBounds, Array.size_replicate]; decide)); k_whole; intro h' F' N'; (try k_sweep)))))) | ((with_reducible show wpAny _ _ (pyNext (Value.ref _)) _ _ _); (with_reducible ((k_dflt (first | (refine' pyNext_item_K ?Fq143 ?Nq143 ?lq143 ?Uq143 ?_; (case Fq143 => k_asm); (case Nq143 => k_asm); (case Uq143 => k_upd); (case lq143 => decide); k_whole; intro h' t' F' N'; (try dsimp only); (try k_sweep)) | (refine' pyNext_end_K rfl ?Fq143 ?Nq143 ?lq143 ?Iq143 ?_; (case Fq143 => k_asm); (case Nq143 => k_asm); (case lq143 => decide); (case Iq143 => (repeat' (first | assumption | (refine' List.forall_mem_cons.mpr ⟨?_, ?_⟩) | (dsimp only; omega)))); intro h' F' N'; (try dsimp only); (try k_sweep))))))) | ((with_reducible show wpAny _ _ (pyIter (Value.ref _)) _ _ _); (with_reducible ((k_dflt (first | (refine' pyIter_K 4 1 ?rq142 ?hbq142 ?sq142 ?Fq142 ?Nq142 ?_; (case rq142 => assumption); (case hbq142 => rfl); (case sq142 => decide); (case Fq142 => k_asm); (case Nq142 => k_asm)) | (refine' pyIter_K 4 4 ?rq142 ?hbq142 ?sq142 ?Fq142 ?Nq142 ?_; (case rq142 => assumption); (case hbq142 => rfl); (case sq142 => decide); (case Fq142 => k_asm); (case Nq142 => k_asm))); intro I' h' F' N' l1; (try dsimp only at N'); (first | (obtain ⟨l1, l3, l4⟩ := lt_split2 l1; dsimp only at l1 l3) | (obtain ⟨l1, l4⟩ := lt_split l1; dsimp only at l1)))))) | walk1 | ((fail_if_success k_end); dsimp only) | (leave1; walk_say "STEP leave1"; (try dsimp only)) | fail "no step")))
  refine calm_turn ?_
  (repeat' (first | (k_unfold; (try dsimp only)) | (k_end; wrow_close) | ((with_reducible show wpAny _ _ (eval (Expr.Name _ _) (compEnvC _ _ _ _)) _ _ _); (first | (with_reducible ((name_kind "globalImplicit"); k_dflt (refine LCgL.ld_global (by k_asm) (by k_asm) (by k_asm) (by k_is) ?_))) | (with_reducible ((name_kind "local"); k_dflt (refine LCgL.ld_own (by k_asm) (by k_mem) (by assumption) (by assumption) ?_))) | (with_reducible (k_dflt (refine kcf_cell (by k_asm) (by rfl) (by k_mem) (by k_asm) ?_))))) | ((with_reducible show wpAny _ _ (callWith _ (Value.builtin _) (_ :: _) _ _) _ _ _); (first | (with_reducible (refine callWith_method1 ?_)) | (refine callWith_method1 ?_))) | ((with_reducible show wpAny _ _ (eval (Expr.Name _ _) _) _ _ _); (first | (with_reducible ((name_kind "local"); k_dflt (refine' nameX_L ?xFq199 ?xvq199 ?_ ?xaq199 ?xbq199; (case xaq199 => rfl); (case xbq199 => rfl); (case xFq199 => k_asm); (case xvq199 => rfl); k_whole))) | (with_reducible ((name_kind "globalImplicit"); k_dflt (refine' nameX_K ?yFq200 ?yXq200 ?yTq200 ?yeq200 ?_ ?yaq200 ?ybq200; (case yaq200 => rfl); (case ybq200 => rfl); (case yFq200 => k_asm); (case yXq200 => k_asm); (case yTq200 => k_asm); (case yeq200 => k_is); k_whole))))) | ((with_reducible show wpAny _ _ (callWith _ (Value.ref _) _ _ _) _ _ _); (with_reducible (k_dflt (refine' callWith_K ?zXq201 ?zkq201 ?_; (case zXq201 => k_asm); (case zkq201 => k_is); k_whole)))) | ((with_reducible show wpAny _ _ (call (Value.type "bytes") _) _ _ _); (with_reducible (((with_reducible show wpAny _ _ (call (Value.type "bytes") [Value.ref _]) _ _ _); k_dflt (refine' bytes_ba_K ?Fq145 ?Nq145 ?mq145 ?zq145 ?_; (case Fq145 => k_asm); (case Nq145 => k_asm); (case mq145 => k_mem); (case zq145 => (simp only [Array.size_setIfInBounds, Array.size_replicate]; decide)); intro t'))))) | ((with_reducible show wpAny _ _ (setItem (Value.ref _) _ _) _ _ _); (with_reducible ((k_dflt (refine' ba_put ?Fq144 ?Nq144 ?nq144 ?Uq144 ?zq144 ?aq144 ?bq144 ?_; (case Fq144 => k_asm); (case Nq144 => k_asm); (case nq144 => exact rfl); (case Uq144 => k_upd); (case zq144 => (simp only [Array.size_setIfInBounds, Array.size_replicate]; decide)); (case aq144 => decide); (case bq144 => (simp only [Array.size_setIfInBounds, Array.size_replicate]; decide)); k_whole; intro h' F' N'; (try k_sweep)))))) | ((with_reducible show wpAny _ _ (pyNext (Value.ref _)) _ _ _); (with_reducible ((k_dflt (first | (refine' pyNext_item_K ?Fq143 ?Nq143 ?lq143 ?Uq143 ?_; (case Fq143 => k_asm); (case Nq143 => k_asm); (case Uq143 => k_upd); (case lq143 => decide); k_whole; intro h' t' F' N'; (try dsimp only); (try k_sweep)) | (refine' pyNext_end_K rfl ?Fq143 ?Nq143 ?lq143 ?Iq143 ?_; (case Fq143 => k_asm); (case Nq143 => k_asm); (case lq143 => decide); (case Iq143 => (repeat' (first | assumption | (refine' List.forall_mem_cons.mpr ⟨?_, ?_⟩) | (dsimp only; omega)))); intro h' F' N'; (try dsimp only); (try k_sweep))))))) | ((with_reducible show wpAny _ _ (pyIter (Value.ref _)) _ _ _); (with_reducible ((k_dflt (first | (refine' pyIter_K 4 1 ?rq142 ?hbq142 ?sq142 ?Fq142 ?Nq142 ?_; (case rq142 => assumption); (case hbq142 => rfl); (case sq142 => decide); (case Fq142 => k_asm); (case Nq142 => k_asm)) | (refine' pyIter_K 4 4 ?rq142 ?hbq142 ?sq142 ?Fq142 ?Nq142 ?_; (case rq142 => assumption); (case hbq142 => rfl); (case sq142 => decide); (case Fq142 => k_asm); (case Nq142 => k_asm))); intro I' h' F' N' l1; (try dsimp only at N'); (first | (obtain ⟨l1, l3, l4⟩ := lt_split2 l1; dsimp only at l1 l3) | (obtain ⟨l1, l4⟩ := lt_split l1; dsimp only at l1)))))) | walk1 | ((fail_if_success k_end); dsimp only) | (leave1; walk_say "STEP leave1"; (try dsimp only)) | fail "no step"))
  dsimp only
  refine calm_of ?_
  (repeat' (first | (k_unfold; (try dsimp only)) | (k_end; wrow_close) | ((with_reducible show wpAny _ _ (eval (Expr.Name _ _) (compEnvC _ _ _ _)) _ _ _); (first | (with_reducible ((name_kind "globalImplicit"); k_dflt (refine LCgL.ld_global (by k_asm) (by k_asm) (by k_asm) (by k_is) ?_))) | (with_reducible ((name_kind "local"); k_dflt (refine LCgL.ld_own (by k_asm) (by k_mem) (by assumption) (by assumption) ?_))) | (with_reducible (k_dflt (refine kcf_cell (by k_asm) (by rfl) (by k_mem) (by k_asm) ?_))))) | ((with_reducible show wpAny _ _ (callWith _ (Value.builtin _) (_ :: _) _ _) _ _ _); (first | (with_reducible (refine callWith_method1 ?_)) | (refine callWith_method1 ?_))) | ((with_reducible show wpAny _ _ (eval (Expr.Name _ _) _) _ _ _); (first | (with_reducible ((name_kind "local"); k_dflt (refine' nameX_L ?xFq206 ?xvq206 ?_ ?xaq206 ?xbq206; (case xaq206 => rfl); (case xbq206 => rfl); (case xFq206 => k_asm); (case xvq206 => rfl); k_whole))) | (with_reducible ((name_kind "globalImplicit"); k_dflt (refine' nameX_K ?yFq207 ?yXq207 ?yTq207 ?yeq207 ?_ ?yaq207 ?ybq207; (case yaq207 => rfl); (case ybq207 => rfl); (case yFq207 => k_asm); (case yXq207 => k_asm); (case yTq207 => k_asm); (case yeq207 => k_is); k_whole))))) | ((with_reducible show wpAny _ _ (callWith _ (Value.ref _) _ _ _) _ _ _); (with_reducible (k_dflt (refine' callWith_K ?zXq208 ?zkq208 ?_; (case zXq208 => k_asm); (case zkq208 => k_is); k_whole)))) | ((with_reducible show wpAny _ _ (call (Value.type "bytes") _) _ _ _); (with_reducible (((with_reducible show wpAny _ _ (call (Value.type "bytes") [Value.ref _]) _ _ _); k_dflt (refine' bytes_ba_K ?Fq145 ?Nq145 ?mq145 ?zq145 ?_; (case Fq145 => k_asm); (case Nq145 => k_asm); (case mq145 => k_mem); (case zq145 => (simp only [Array.size_setIfInBounds, Array.size_replicate]; decide)); intro t'))))) | ((with_reducible show wpAny _ _ (setItem (Value.ref _) _ _) _ _ _); (with_reducible ((k_dflt (refine' ba_put ?Fq144 ?Nq144 ?nq144 ?Uq144 ?zq144 ?aq144 ?bq144 ?_; (case Fq144 => k_asm); (case Nq144 => k_asm); (case nq144 => exact rfl); (case Uq144 => k_upd); (case zq144 => (simp only [Array.size_setIfInBounds, Array.size_replicate]; decide)); (case aq144 => decide); (case bq144 => (simp only [Array.size_setIfInBounds, Array.size_replicate]; decide)); k_whole; intro h' F' N'; (try k_sweep)))))) | ((with_reducible show wpAny _ _ (pyNext (Value.ref _)) _ _ _); (with_reducible ((k_dflt (first | (refine' pyNext_item_K ?Fq143 ?Nq143 ?lq143 ?Uq143 ?_; (case Fq143 => k_asm); (case Nq143 => k_asm); (case Uq143 => k_upd); (case lq143 => decide); k_whole; intro h' t' F' N'; (try dsimp only); (try k_sweep)) | (refine' pyNext_end_K rfl ?Fq143 ?Nq143 ?lq143 ?Iq143 ?_; (case Fq143 => k_asm); (case Nq143 => k_asm); (case lq143 => decide); (case Iq143 => (repeat' (first | assumption | (refine' List.forall_mem_cons.mpr ⟨?_, ?_⟩) | (dsimp only; omega)))); intro h' F' N'; (try dsimp only); (try k_sweep))))))) | ((with_reducible show wpAny _ _ (pyIter (Value.ref _)) _ _ _); (with_reducible ((k_dflt (first | (refine' pyIter_K 4 1 ?rq142 ?hbq142 ?sq142 ?Fq142 ?Nq142 ?_; (case rq142 => assumption); (case hbq142 => rfl); (case sq142 => decide); (case Fq142 => k_asm); (case Nq142 => k_asm)) | (refine' pyIter_K 4 4 ?rq142 ?hbq142 ?sq142 ?Fq142 ?Nq142 ?_; (case rq142 => assumption); (case hbq142 => rfl); (case sq142 => decide); (case Fq142 => k_asm); (case Nq142 => k_asm))); intro I' h' F' N' l1; (try dsimp only at N'); (first | (obtain ⟨l1, l3, l4⟩ := lt_split2 l1; dsimp only at l1 l3) | (obtain ⟨l1, l4⟩ := lt_split l1; dsimp only at l1)))))) | walk1 | ((fail_if_success k_end); dsimp only) | (leave1; walk_say "STEP leave1"; (try dsimp only)) | fail "no step"))
  dsimp only
  refine calm_turn ?_
  (repeat' (first | (k_unfold; (try dsimp only)) | (k_end; wrow_close) | ((with_reducible show wpAny _ _ (eval (Expr.Name _ _) (compEnvC _ _ _ _)) _ _ _); (first | (with_reducible ((name_kind "globalImplicit"); k_dflt (refine LCgL.ld_global (by k_asm) (by k_asm) (by k_asm) (by k_is) ?_))) | (with_reducible ((name_kind "local"); k_dflt (refine LCgL.ld_own (by k_asm) (by k_mem) (by assumption) (by assumption) ?_))) | (with_reducible (k_dflt (refine kcf_cell (by k_asm) (by rfl) (by k_mem) (by k_asm) ?_))))) | ((with_reducible show wpAny _ _ (callWith _ (Value.builtin _) (_ :: _) _ _) _ _ _); (first | (with_reducible (refine callWith_method1 ?_)) | (refine callWith_method1 ?_))) | ((with_reducible show wpAny _ _ (eval (Expr.Name _ _) _) _ _ _); (first | (with_reducible ((name_kind "local"); k_dflt (refine' nameX_L ?xFq213 ?xvq213 ?_ ?xaq213 ?xbq213; (case xaq213 => rfl); (case xbq213 => rfl); (case xFq213 => k_asm); (case xvq213 => rfl); k_whole))) | (with_reducible ((name_kind "globalImplicit"); k_dflt (refine' nameX_K ?yFq214 ?yXq214 ?yTq214 ?yeq214 ?_ ?yaq214 ?ybq214; (case yaq214 => rfl); (case ybq214 => rfl); (case yFq214 => k_asm); (case yXq214 => k_asm); (case yTq214 => k_asm); (case yeq214 => k_is); k_whole))))) | ((with_reducible show wpAny _ _ (callWith _ (Value.ref _) _ _ _) _ _ _); (with_reducible (k_dflt (refine' callWith_K ?zXq215 ?zkq215 ?_; (case zXq215 => k_asm); (case zkq215 => k_is); k_whole)))) | ((with_reducible show wpAny _ _ (call (Value.type "bytes") _) _ _ _); (with_reducible (((with_reducible show wpAny _ _ (call (Value.type "bytes") [Value.ref _]) _ _ _); k_dflt (refine' bytes_ba_K ?Fq145 ?Nq145 ?mq145 ?zq145 ?_; (case Fq145 => k_asm); (case Nq145 => k_asm); (case mq145 => k_mem); (case zq145 => (simp only [Array.size_setIfInBounds, Array.size_replicate]; decide)); intro t'))))) | ((with_reducible show wpAny _ _ (setItem (Value.ref _) _ _) _ _ _); (with_reducible ((k_dflt (refine' ba_put ?Fq144 ?Nq144 ?nq144 ?Uq144 ?zq144 ?aq144 ?bq144 ?_; (case Fq144 => k_asm); (case Nq144 => k_asm); (case nq144 => exact rfl); (case Uq144 => k_upd); (case zq144 => (simp only [Array.size_setIfInBounds, Array.size_replicate]; decide)); (case aq144 => decide); (case bq144 => (simp only [Array.size_setIfInBounds, Array.size_replicate]; decide)); k_whole; intro h' F' N'; (try k_sweep)))))) | ((with_reducible show wpAny _ _ (pyNext (Value.ref _)) _ _ _); (with_reducible ((k_dflt (first | (refine' pyNext_item_K ?Fq143 ?Nq143 ?lq143 ?Uq143 ?_; (case Fq143 => k_asm); (case Nq143 => k_asm); (case Uq143 => k_upd); (case lq143 => decide); k_whole; intro h' t' F' N'; (try dsimp only); (try k_sweep)) | (refine' pyNext_end_K rfl ?Fq143 ?Nq143 ?lq143 ?Iq143 ?_; (case Fq143 => k_asm); (case Nq143 => k_asm); (case lq143 => decide); (case Iq143 => (repeat' (first | assumption | (refine' List.forall_mem_cons.mpr ⟨?_, ?_⟩) | (dsimp only; omega)))); intro h' F' N'; (try dsimp only); (try k_sweep))))))) | ((with_reducible show wpAny _ _ (pyIter (Value.ref _)) _ _ _); (with_reducible ((k_dflt (first | (refine' pyIter_K 4 1 ?rq142 ?hbq142 ?sq142 ?Fq142 ?Nq142 ?_; (case rq142 => assumption); (case hbq142 => rfl); (case sq142 => decide); (case Fq142 => k_asm); (case Nq142 => k_asm)) | (refine' pyIter_K 4 4 ?rq142 ?hbq142 ?sq142 ?Fq142 ?Nq142 ?_; (case rq142 => assumption); (case hbq142 => rfl); (case sq142 => decide); (case Fq142 => k_asm); (case Nq142 => k_asm))); intro I' h' F' N' l1; (try dsimp only at N'); (first | (obtain ⟨l1, l3, l4⟩ := lt_split2 l1; dsimp only at l1 l3) | (obtain ⟨l1, l4⟩ := lt_split l1; dsimp only at l1)))))) | walk1 | ((fail_if_success k_end); dsimp only) | (leave1; walk_say "STEP leave1"; (try dsimp only)) | fail "no step"))
  dsimp only
  refine calm_of ?_
  (repeat' (first | (k_unfold; (try dsimp only)) | (k_end; wrow_close) | ((with_reducible show wpAny _ _ (eval (Expr.Name _ _) (compEnvC _ _ _ _)) _ _ _); (first | (with_reducible ((name_kind "globalImplicit"); k_dflt (refine LCgL.ld_global (by k_asm) (by k_asm) (by k_asm) (by k_is) ?_))) | (with_reducible ((name_kind "local"); k_dflt (refine LCgL.ld_own (by k_asm) (by k_mem) (by assumption) (by assumption) ?_))) | (with_reducible (k_dflt (refine kcf_cell (by k_asm) (by rfl) (by k_mem) (by k_asm) ?_))))) | ((with_reducible show wpAny _ _ (callWith _ (Value.builtin _) (_ :: _) _ _) _ _ _); (first | (with_reducible (refine callWith_method1 ?_)) | (refine callWith_method1 ?_))) | ((with_reducible show wpAny _ _ (eval (Expr.Name _ _) _) _ _ _); (first | (with_reducible ((name_kind "local"); k_dflt (refine' nameX_L ?xFq220 ?xvq220 ?_ ?xaq220 ?xbq220; (case xaq220 => rfl); (case xbq220 => rfl); (case xFq220 => k_asm); (case xvq220 => rfl); k_whole))) | (with_reducible ((name_kind "globalImplicit"); k_dflt (refine' nameX_K ?yFq221 ?yXq221 ?yTq221 ?yeq221 ?_ ?yaq221 ?ybq221; (case yaq221 => rfl); (case ybq221 => rfl); (case yFq221 => k_asm); (case yXq221 => k_asm); (case yTq221 => k_asm); (case yeq221 => k_is); k_whole))))) | ((with_reducible show wpAny _ _ (callWith _ (Value.ref _) _ _ _) _ _ _); (with_reducible (k_dflt (refine' callWith_K ?zXq222 ?zkq222 ?_; (case zXq222 => k_asm); (case zkq222 => k_is); k_whole)))) | ((with_reducible show wpAny _ _ (call (Value.type "bytes") _) _ _ _); (with_reducible (((with_reducible show wpAny _ _ (call (Value.type "bytes") [Value.ref _]) _ _ _); k_dflt (refine' bytes_ba_K ?Fq145 ?Nq145 ?mq145 ?zq145 ?_; (case Fq145 => k_asm); (case Nq145 => k_asm); (case mq145 => k_mem); (case zq145 => (simp only [Array.size_setIfInBounds, Array.size_replicate]; decide)); intro t'))))) | ((with_reducible show wpAny _ _ (setItem (Value.ref _) _ _) _ _ _); (with_reducible ((k_dflt (refine' ba_put ?Fq144 ?Nq144 ?nq144 ?Uq144 ?zq144 ?aq144 ?bq144 ?_; (case Fq144 => k_asm); (case Nq144 => k_asm); (case nq144 => exact rfl); (case Uq144 => k_upd); (case zq144 => (simp only [Array.size_setIfInBounds, Array.size_replicate]; decide)); (case aq144 => decide); (case bq144 => (simp only [Array.size_setIfInBounds, Array.size_replicate]; decide)); k_whole; intro h' F' N'; (try k_sweep)))))) | ((with_reducible show wpAny _ _ (pyNext (Value.ref _)) _ _ _); (with_reducible ((k_dflt (first | (refine' pyNext_item_K ?Fq143 ?Nq143 ?lq143 ?Uq143 ?_; (case Fq143 => k_asm); (case Nq143 => k_asm); (case Uq143 => k_upd); (case lq143 => decide); k_whole; intro h' t' F' N'; (try dsimp only); (try k_sweep)) | (refine' pyNext_end_K rfl ?Fq143 ?Nq143 ?lq143 ?Iq143 ?_; (case Fq143 => k_asm); (case Nq143 => k_asm); (case lq143 => decide); (case Iq143 => (repeat' (first | assumption | (refine' List.forall_mem_cons.mpr ⟨?_, ?_⟩) | (dsimp only; omega)))); intro h' F' N'; (try dsimp only); (try k_sweep))))))) | ((with_reducible show wpAny _ _ (pyIter (Value.ref _)) _ _ _); (with_reducible ((k_dflt (first | (refine' pyIter_K 4 1 ?rq142 ?hbq142 ?sq142 ?Fq142 ?Nq142 ?_; (case rq142 => assumption); (case hbq142 => rfl); (case sq142 => decide); (case Fq142 => k_asm); (case Nq142 => k_asm)) | (refine' pyIter_K 4 4 ?rq142 ?hbq142 ?sq142 ?Fq142 ?Nq142 ?_; (case rq142 => assumption); (case hbq142 => rfl); (case sq142 => decide); (case Fq142 => k_asm); (case Nq142 => k_asm))); intro I' h' F' N' l1; (try dsimp only at N'); (first | (obtain ⟨l1, l3, l4⟩ := lt_split2 l1; dsimp only at l1 l3) | (obtain ⟨l1, l4⟩ := lt_split l1; dsimp only at l1)))))) | walk1 | ((fail_if_success k_end); dsimp only) | (leave1; walk_say "STEP leave1"; (try dsimp only)) | fail "no step"))
  refine' endB hret ?e ?F ?N ?S
  case F => k_asm
  case N => k_asm
  case S => kcj_all
  case e => rfl
end Mine
end
section
open PySem PySem.W PyProof.Rows PySem.Spec PySem.Calls
namespace Mine
section
variable {prog : Program} {w : World} {A : Around} {E : Value → Shared → Prop} {s : Shared} {h₀ : Heap} {env : Env} {news : List (Addr × Obj)}
theorem same_upd {m : Str → Option Value} {k : Str} {u v : Option Value} : (fun y => if y = k then v else (fun y => if y = k then u else m y) y) = fun y => if y = k then v else m y := by
  funext y
  by_cases h : y = k
  · simp [h]
  · simp [h]
theorem self_upd {m : Str → Option Value} {k : Str} : (fun y => if y = k then m k else m y) = m := by
  funext y
  by_cases h : y = k
  · simp [h]
  · simp [h]

end
structure Halt (P : Prop) : Prop where
  go : P
theorem halt_at {P : Prop} (h : Halt P) : P := h.go
section
variable {prog : Program} {w : World} {A : Around} {E : Value → Shared → Prop} {s : Shared} {h₀ : Heap} {env : Env} {news : List (Addr × Obj)}
/-- a loop over a range whose body keeps P of one list on the ledger -/
theorem list_loop {P : Array Value → Prop} {I D : Addr} {b : Nat} {k : Str} {p : Pos} {body : List Stmt} {m : Str → Option Value} {its : Array Value} {c : Nat} {R : Result → Shared → Prop}
    (hh : A.handled = none) (hP : P its) (F : Fr h₀ env.locals s.heap m) (N : News h₀ env.locals s.heap ((I, itObj 0 (b : Int) 1) :: (D, listOf its c) :: news)) (hDI : @LT.lt Nat _ D I) (hnI : ∀ p ∈ news, p.1 < I)
    (hk : env.kindOf k = some .local) (hcls : (env.scope.kind == .class || (env.scope.kind == .module && env.locals != env.globals)) = false)
    (turn : ∀ (x : Int) (t : Tok) (its : Array Value) (c : Nat) (h : Heap) (tk : Nat) (left : Int), P its → 0 ≤ x → x < b → Fr h₀ env.locals h (fun y => if y = k then some (.int x t) else m y) → News h₀ env.locals h ((I, itObj (x + 1) left 1) :: (D, listOf its c) :: news) →
      wpAny (model prog w) A (execs body env) (fun f s₃ => Halt (f = .next ∧ ∃ its' c' h' tk', P its' ∧ s₃ = { s with heap := h', toks := tk' } ∧ Fr h₀ env.locals h' (fun y => if y = k then some (.int x t) else m y) ∧ News h₀ env.locals h' ((I, itObj (x + 1) left 1) :: (D, listOf its' c') :: news)))
        (notedBy (model prog w) A env fun e s' => R (.error e) s') { s with heap := h, toks := tk })
    (done : ∀ (u : Option Value) its c h tk, P its → Fr h₀ env.locals h (fun y => if y = k then u else m y) → News h₀ env.locals h ((D, listOf its c) :: news) → R (.ok .next) { s with heap := h, toks := tk }) :
    codeAny (model prog w) A (.forLoop (.Name k p) (.ref I) body [] env) R s := by
  refine codeAny_forLoop (fun n s' => ∃ (x : Int) (its : Array Value) (c : Nat) (h : Heap) (tk : Nat) (u : Option Value), P its ∧ 0 ≤ x ∧ x + n = b ∧ s' = { s with heap := h, toks := tk } ∧ Fr h₀ env.locals h (fun y => if y = k then u else m y) ∧ News h₀ env.locals h ((I, itObj x (n : Int) 1) :: (D, listOf its c) :: news)) (fun n s' hI => ?_) b
    ⟨0, its, c, s.heap, s.toks, m k, hP, Int.le_refl _, by omega, rfl, by rw [self_upd]; exact F, N⟩
  obtain ⟨x, its, c, h, tk, u, hP, h0, hx, rfl, F, N⟩ := hI
  have hall : ∀ p ∈ (D, listOf its c) :: news, p.1 < I := fun q hq => by
    rcases List.mem_cons.mp hq with e | e
    · subst e; exact hDI
    · exact hnI q e
  by_cases hn : n = 0
  · subst hn
    refine pyNext_end_K hh F N (Int.le_refl _) hall fun h' F' N' => ?_
    exact wpAny_execs_nil (done u its c h' tk hP F' N')
  · refine pyNext_item_K (news' := (I, itObj (x + 1) ((n : Int) - 1) 1) :: (D, listOf its c) :: news) F N (by omega) (.head fun q hq => Nat.ne_of_lt (hall q hq)) fun h' t F' N' => ?_
    refine wpAny_assign_Name (wpAny_storeName_local hk F'.ns (fun h2 hn2 hs2 => ?_) hcls)
    have F2 := F'.set hn2 hs2
    have N2 := N'.set hs2
    rw [same_upd] at F2
    refine wpAny_mono (turn x t its c h2 _ _ hP h0 (by omega) F2 N2) (fun f s₃ h3 => ?_) fun _ _ e => e
    obtain ⟨rfl, its', c', h4, tk4, hP', rfl, F4, N4⟩ := h3.go
    have e : ((n - 1 : Nat) : Int) = (n : Int) - 1 := by omega
    exact ⟨n - 1, by omega, x + 1, its', c', h4, tk4, _, hP', by omega, by omega, rfl, F4, by rw [e]; exact N4⟩
end
end Mine
end
section
open PySem PySem.W PyProof.Rows PySem.Spec PySem.Calls
namespace Mine
section
variable {prog : Program} {w : World} {A : Around} {E : Value → Shared → Prop} {s : Shared} {h₀ : Heap} {L : Addr} {m : Str → Option Value} {news news' : List (Addr × Obj)}
/-- item assignment on a list of the ledger, the object told to the sign -/
theorem list_put {D : Addr} {its : Array Value} {c : Nat} {k : Int} {t : Tok} {v : Value} {Q : Unit → Shared → Prop} (F : Fr h₀ L s.heap m) (N : News h₀ L s.heap news)
    (U : Upd D (listOf its c) (Obj.mapSeq (·.setIfInBounds k.toNat v) (listOf its c)) news news') (h0 : 0 ≤ k) (hfit : k < 2 ^ 63) (hn : k < its.size)
    (h : ∀ h', Fr h₀ L h' m → News h₀ L h' news' → Q () { s with heap := h' }) : wpAny (model prog w) A (setItem (.ref D) (.int k t) v) Q E s := by
  obtain ⟨pre, post, rfl, rfl, g1, g2⟩ := U.split
  have z := N (D, listOf its c) (List.mem_append.mpr (.inr (.head _)))
  have ho := z.1
  have hd : (listOf its c).data = .seq its c := rfl
  have hl : s.heap.IsList D its := ⟨_, ho, rfl, _, rfl⟩
  unfold setItem
  try with_reducible refine wpAny_holding ?_
  first | refine wpAny_bind (wpAny_pure ?_) | skip
  refine wpAny_bind (wpAny_sequenceKey hl.typeIs (by decide) ?_)
  refine wpAny_bind (wpAny_callSpecial?_slot (name := Str.ofString "__setitem__") hl.typeIs slot_list_setitem
    (wpAny_call_entry slot_list_setitem hl.typeIs entry_list_setitem ?_ (args_list_setitem _ _ _)))
  show wpAny _ _ (Builtin.List.listSubscript? (.int k t) >>= _) _ _ s
  refine wpAny_bind (wpAny_listSubscript_int (fitsIndex_of h0 hfit) ?_)
  obtain ⟨j, rfl⟩ := Int.eq_ofNat_of_zero_le h0
  have hj : j < its.size := by omega
  have hx' : its[j]? = some its[j] := Array.getElem?_eq_getElem hj
  show wpAny _ _ ((seqItemAt D j >>= fun r => pure (r.map (j, ·))) >>= _) _ _ s
  refine wpAny_bind (wpAny_bind (wpAny_seqItemAt ho hd (wpAny_pure ?_)))
  rw [hx']
  show wpAny _ _ (setSeqItemAt D j v >>= _) _ _ s
  have hS : (s.heap.update D (Obj.mapSeq (·.setIfInBounds j v))).get? D = some (Obj.mapSeq (·.setIfInBounds j v) (listOf its c)) := Heap.get?_update_self _ ho rfl
  have hb : Heap.SameBut D s.heap (s.heap.update D (Obj.mapSeq (·.setIfInBounds j v))) := Heap.SameBut.update ..
  have fin := h _ (F.change hb z.2.1 z.2.2) (news_set N g1 g2 hb hS)
  refine wpAny_bind (wpAny_setSeqItemAt ho hd ?_)
  first
    | exact wpAny_bind (wpAny_pure (wpAny_pure ⟨.none, rfl, wpAny_pure fin⟩))
    | exact wpAny_pure ⟨.none, rfl, wpAny_pure fin⟩
theorem mapSeq_list (f : Array Value → Array Value) (its : Array Value) (c : Nat) : ∃ c', Obj.mapSeq f (listOf its c) = listOf (f its) c' := by
  exact ⟨_, rfl⟩
end
end Mine
end
section
open PySem PySem.W PyProof.Rows PySem.Spec PySem.Calls
namespace Mine
def FiveInts (its : Array Value) : Prop := ∃ (a b c d e : Int) (ta tb tc td te : Tok), its = #[.int a ta, .int b tb, .int c tc, .int d td, .int e te]
theorem FiveInts.get {its : Array Value} (h : FiveInts its) {j : Nat} (hj : j < 5) : ∃ x t, its[j]? = some (.int x t) := by
  obtain ⟨a, b, c, d, e, ta, tb, tc, td, te, rfl⟩ := h
  match j, hj with
  | 0, _ => exact ⟨_, _, rfl⟩
  | 1, _ => exact ⟨_, _, rfl⟩
  | 2, _ => exact ⟨_, _, rfl⟩
  | 3, _ => exact ⟨_, _, rfl⟩
  | 4, _ => exact ⟨_, _, rfl⟩
theorem FiveInts.set {its : Array Value} (h : FiveInts its) {j : Nat} (hj : j < 5) (x : Int) (t : Tok) : FiveInts (its.setIfInBounds j (.int x t)) := by
  obtain ⟨a, b, c, d, e, ta, tb, tc, td, te, rfl⟩ := h
  match j, hj with
  | 0, _ => exact ⟨_, _, _, _, _, _, _, _, _, _, rfl⟩
  | 1, _ => exact ⟨_, _, _, _, _, _, _, _, _, _, rfl⟩
  | 2, _ => exact ⟨_, _, _, _, _, _, _, _, _, _, rfl⟩
  | 3, _ => exact ⟨_, _, _, _, _, _, _, _, _, _, rfl⟩
  | 4, _ => exact ⟨_, _, _, _, _, _, _, _, _, _, rfl⟩
theorem FiveInts.size {its : Array Value} (h : FiveInts its) : its.size = 5 := by
  obtain ⟨a, b, c, d, e, ta, tb, tc, td, te, rfl⟩ := h
  rfl
section
variable {prog : Program} {w : World} {A : Around} {E : Value → Shared → Prop} {s : Shared} {h₀ : Heap} {L : Addr} {m : Str → Option Value} {news news' : List (Addr × Obj)}
theorem sub_int {l : Addr} {its : Array Value} {k : Int} {t : Tok} {x : Value} {value slice : Expr} {Q : Value → Shared → Prop} (hl : s.heap.IsList l its) (h0 : 0 ≤ k) (hk : k < 2 ^ 63) (hx : its[k.toNat]? = some x) (h : Q x s)
    (hs : subscripted slice false (.ref l) (.int k t) = operate [.ref l, .int k t] (getItem (.ref l) (.int k t)) := by with_unfolding_all rfl) (ht : ∀ r, letTemporaryGo value (.ref l) r = pure () := by intro _; with_unfolding_all rfl) :
    wpAny (model prog w) A (subscriptTail value slice (.ref l) (.int k t)) Q E s :=
  subscriptTail_builtin hl.typeIs slot_list_getitem.lookup (wpAny_getItem_list hl h0 hk hx h) hs ht
end
theorem range15 (n : Nat) : ∃ b : Nat, b < 16 ∧ b ≤ n ∧ (if (n : Int) < 15 then (n : Int) else 15) = (b : Int) ∧ Builtin.Range.small 0 (b : Int) 1 = true ∧ Builtin.Range.rangeSize 0 (b : Int) 1 = (b : Int) := by
  have all : ∀ i : Fin 16, (Builtin.Range.small 0 ((i.val : Nat) : Int) 1 && Builtin.Range.rangeSize 0 ((i.val : Nat) : Int) 1 == ((i.val : Nat) : Int)) = true := by decide +kernel
  have one : ∀ b : Nat, b < 16 → Builtin.Range.small 0 (b : Int) 1 = true ∧ Builtin.Range.rangeSize 0 (b : Int) 1 = (b : Int) := fun b hb => by
    have := all ⟨b, hb⟩
    simpa only [Bool.and_eq_true, beq_iff_eq] using this
  by_cases h : (n : Int) < 15
  · exact ⟨n, by omega, by omega, by rw [if_pos h], one n (by omega)⟩
  · exact ⟨15, by omega, by omega, by rw [if_neg h]; rfl, one 15 (by omega)⟩
theorem ne_all {l : List (Addr × Obj)} {d : Addr} (h : ∀ p ∈ l, p.1 < d) : ∀ p ∈ l, p.1 ≠ d := fun p hp => Nat.ne_of_lt (h p hp)
theorem of_allLt {d : Addr} : ∀ {l : List (Addr × Obj)}, AllLt d l → ∀ p ∈ l, p.1 < d
  | [], _ => fun _ h => nomatch h
  | q :: l, h => fun p hp => by
    rcases List.mem_cons.mp hp with e | e
    · subst e; exact h.1
    · exact of_allLt h.2 p e
local macro_rules | `(tactic| k_all) => `(tactic| (refine ne_all ?_; assumption))
abbrev NumClaim (prog : Program) (w : World) (K : Frag) (p : Program) (loose : List Str) (mean : ExcName → Option Value) (mg mb : Str → Option Value) (f : Addr) (news : List (Addr × Obj)) : Prop :=
  ∀ (dp un : Nat) (gd : Option (List Code)) (cn : Str) (cs : Scope) (a : Addr) (ccd : Value) (cl : List (Str × Addr)) (outer : List Env) (A₀ : Around) (base h₀ : Heap) (L : Addr) (m : Str → Option Value) (s : Shared) (Q E : Value → Shared → Prop)
    (l : Addr) (vs : List Value) (ns : List Int), base.IsList l vs.toArray → IntsAre vs ns → ns.length ≤ 63 →
    Below A₀ base outer h₀ → Fr h₀ L s.heap m → K.In h₀ → News h₀ L s.heap news → Top p loose mean mg mb h₀ → cs.kind = .function → dp + 1 < recursionLimit → un + 8 < cLine →
    (∀ (D : Addr) (its : Array Value) (c : Nat) (h' : Heap) (tk' : Nat), FiveInts its → Fr h₀ L h' m → News h₀ L h' ((D, listOf its c) :: news) → (∀ p ∈ news, p.1 < D) → Q (.ref D) { s with heap := h', toks := tk' }) →
    wpAny (model prog w) (ktrTop dp un gd cn cs L a ccd cl outer) (call (.ref f) [.ref l]) Q E s
set_option maxRecDepth 100000 in
set_option maxHeartbeats 8000000 in
theorem numbers_sum {w : World} {p : Program} {loose : List Str} {mean : ExcName → Option Value} {mg mb : Str → Option Value} (news : List (Addr × Obj)) :
    NumClaim PySem.Challenge.rw_zn0002_01.row.prog w (hd.heap_39 w.params) p loose mean mg mb 84 news := by
  w_top off
  k_fill
  dsimp only [NumClaim]
  intro dp un gd cn cs a ccd cl outer A₀ base h₀ L m s Q E l vs ns hl hi hn B F X N T hk r1 r2 hret
  have cbI : CbIn 84 := CbIn.mk
  refine wpAny_call ?_
  k_dflt cell_enter
  (repeat' (first | (k_unfold; (try dsimp only)) | (k_end; wrow_close) | ((with_reducible show wpAny _ _ (eval (Expr.Name _ _) (compEnvC _ _ _ _)) _ _ _); (first | (with_reducible ((name_kind "globalImplicit"); k_dflt (refine LCgL.ld_global (by k_asm) (by k_asm) (by k_asm) (by k_is) ?_))) | (with_reducible ((name_kind "local"); k_dflt (refine LCgL.ld_own (by k_asm) (by k_mem) (by assumption) (by assumption) ?_))) | (with_reducible (k_dflt (refine kcf_cell (by k_asm) (by rfl) (by k_mem) (by k_asm) ?_))))) | ((with_reducible show wpAny _ _ (callWith _ (Value.builtin _) (_ :: _) _ _) _ _ _); (first | (with_reducible (refine callWith_method1 ?_)) | (refine callWith_method1 ?_))) | ((with_reducible show wpAny _ _ (eval (Expr.Name _ _) _) _ _ _); (first | (with_reducible ((name_kind "local"); k_dflt (refine' nameX_L ?xFq231 ?xvq231 ?_ ?xaq231 ?xbq231; (case xaq231 => rfl); (case xbq231 => rfl); (case xFq231 => k_asm); (case xvq231 => rfl); k_whole))) | (with_reducible ((name_kind "globalImplicit"); k_dflt (refine' nameX_K ?yFq232 ?yXq232 ?yTq232 ?yeq232 ?_ ?yaq232 ?ybq232; (case yaq232 => rfl); (case ybq232 => rfl); (case yFq232 => k_asm); (case yXq232 => k_asm); (case yTq232 => k_asm); (case yeq232 => k_is); k_whole))))) | ((with_reducible show wpAny _ _ (callWith _ (Value.ref _) _ _ _) _ _ _); (with_reducible (k_dflt (refine' callWith_K ?zXq233 ?zkq233 ?_; (case zXq233 => k_asm); (case zkq233 => k_is); k_whole)))) | ((with_reducible show wpAny _ _ (pyIter (Value.ref _)) _ _ _); (with_reducible ((refine halt_at ?_)))) | ((with_reducible show wpAny _ _ (exec (Stmt.For _ _ _ _ _) _) _ _ _); (with_reducible ((refine halt_at ?_)))) | ((with_reducible show wpAny _ _ (setItem (Value.ref _) _ _) _ _ _); (with_reducible ((k_dflt (refine' list_put ?Fq224 ?Nq224 ?Uq224 ?aq224 ?bq224 ?cq224 ?_; (case Fq224 => k_asm); (case Nq224 => k_asm); (case Uq224 => k_upd); (case aq224 => assumption); (case bq224 => omega); (case cq224 => omega); k_whole; intro h' F' N'; (try k_sweep)))))) | ((with_reducible show wpAny _ _ (subscriptTail (Expr.Name _ _) (Expr.BinOp _ _ _ _) (Value.ref _) (Value.int _ _)) _ _ _); (with_reducible ((k_dflt (refine' sub_int ?lq223 ?aq223 ?bq223 ?xq223 ?_; (case lq223 => exact News.isList (by assumption) (.tail _ (.head _))); (case aq223 => assumption); (case bq223 => omega); (case xq223 => assumption); k_whole))))) | walk1 | ((fail_if_success k_end); dsimp only) | (leave1; walk_say "STEP leave1"; (try dsimp only)) | fail "no step"))
  refine Halt.mk ?_
  refine wpAny_For ?_
  (repeat' (first | (k_unfold; (try dsimp only)) | (k_end; wrow_close) | ((with_reducible show wpAny _ _ (eval (Expr.Name _ _) (compEnvC _ _ _ _)) _ _ _); (first | (with_reducible ((name_kind "globalImplicit"); k_dflt (refine LCgL.ld_global (by k_asm) (by k_asm) (by k_asm) (by k_is) ?_))) | (with_reducible ((name_kind "local"); k_dflt (refine LCgL.ld_own (by k_asm) (by k_mem) (by assumption) (by assumption) ?_))) | (with_reducible (k_dflt (refine kcf_cell (by k_asm) (by rfl) (by k_mem) (by k_asm) ?_))))) | ((with_reducible show wpAny _ _ (callWith _ (Value.builtin _) (_ :: _) _ _) _ _ _); (first | (with_reducible (refine callWith_method1 ?_)) | (refine callWith_method1 ?_))) | ((with_reducible show wpAny _ _ (eval (Expr.Name _ _) _) _ _ _); (first | (with_reducible ((name_kind "local"); k_dflt (refine' nameX_L ?xFq238 ?xvq238 ?_ ?xaq238 ?xbq238; (case xaq238 => rfl); (case xbq238 => rfl); (case xFq238 => k_asm); (case xvq238 => rfl); k_whole))) | (with_reducible ((name_kind "globalImplicit"); k_dflt (refine' nameX_K ?yFq239 ?yXq239 ?yTq239 ?yeq239 ?_ ?yaq239 ?ybq239; (case yaq239 => rfl); (case ybq239 => rfl); (case yFq239 => k_asm); (case yXq239 => k_asm); (case yTq239 => k_asm); (case yeq239 => k_is); k_whole))))) | ((with_reducible show wpAny _ _ (callWith _ (Value.ref _) _ _ _) _ _ _); (with_reducible (k_dflt (refine' callWith_K ?zXq240 ?zkq240 ?_; (case zXq240 => k_asm); (case zkq240 => k_is); k_whole)))) | ((with_reducible show wpAny _ _ (pyIter (Value.ref _)) _ _ _); (with_reducible ((refine halt_at ?_)))) | ((with_reducible show wpAny _ _ (exec (Stmt.For _ _ _ _ _) _) _ _ _); (with_reducible ((refine halt_at ?_)))) | ((with_reducible show wpAny _ _ (setItem (Value.ref _) _ _) _ _ _); (with_reducible ((k_dflt (refine' list_put ?Fq224 ?Nq224 ?Uq224 ?aq224 ?bq224 ?cq224 ?_; (case Fq224 => k_asm); (case Nq224 => k_asm); (case Uq224 => k_upd); (case aq224 => assumption); (case bq224 => omega); (case cq224 => omega); k_whole; intro h' F' N'; (try k_sweep)))))) | ((with_reducible show wpAny _ _ (subscriptTail (Expr.Name _ _) (Expr.BinOp _ _ _ _) (Value.ref _) (Value.int _ _)) _ _ _); (with_reducible ((k_dflt (refine' sub_int ?lq223 ?aq223 ?bq223 ?xq223 ?_; (case lq223 => exact News.isList (by assumption) (.tail _ (.head _))); (case aq223 => assumption); (case bq223 => omega); (case xq223 => assumption); k_whole))))) | walk1 | ((fail_if_success k_end); dsimp only) | (leave1; walk_say "STEP leave1"; (try dsimp only)) | fail "no step"))
  refine Halt.mk ?_
  obtain ⟨b, hb16, hbn, hb, hs, hz⟩ := range15 ns.length
  rename_i hR F1 N1 k1
  rw [hb] at hR
  refine pyIter_range_K hR F1 N1 hs hz ?_
  intro I' h' F' N' l2
  obtain ⟨l2, l3⟩ := lt_split l2
  dsimp only at l2
  clear N1 F1 k1
  refine list_loop (P := FiveInts) rfl ⟨_, _, _, _, _, _, _, _, _, _, rfl⟩ F' N' l2 l3 rfl rfl ?turn ?done
  case turn =>
    intro x t its c h tk left hP x0 xb F N
    have m0 : 0 ≤ x.fmod 5 := by rw [Int.fmod_eq_emod_of_nonneg _ (by decide)]; omega
    have m5 : x.fmod 5 < 5 := by rw [Int.fmod_eq_emod_of_nonneg _ (by decide)]; omega
    have hsz : its.size = 5 := hP.size
    obtain ⟨y, ty, hy⟩ := hP.get (j := (x.fmod 5).toNat) (by rw [Int.fmod_eq_emod_of_nonneg _ (by decide)]; omega)
    (repeat' (first | (k_unfold; (try dsimp only)) | (k_end; wrow_close) | ((with_reducible show wpAny _ _ (eval (Expr.Name _ _) (compEnvC _ _ _ _)) _ _ _); (first | (with_reducible ((name_kind "globalImplicit"); k_dflt (refine LCgL.ld_global (by k_asm) (by k_asm) (by k_asm) (by k_is) ?_))) | (with_reducible ((name_kind "local"); k_dflt (refine LCgL.ld_own (by k_asm) (by k_mem) (by assumption) (by assumption) ?_))) | (with_reducible (k_dflt (refine kcf_cell (by k_asm) (by rfl) (by k_mem) (by k_asm) ?_))))) | ((with_reducible show wpAny _ _ (callWith _ (Value.builtin _) (_ :: _) _ _) _ _ _); (first | (with_reducible (refine callWith_method1 ?_)) | (refine callWith_method1 ?_))) | ((with_reducible show wpAny _ _ (eval (Expr.Name _ _) _) _ _ _); (first | (with_reducible ((name_kind "local"); k_dflt (refine' nameX_L ?xFq245 ?xvq245 ?_ ?xaq245 ?xbq245; (case xaq245 => rfl); (case xbq245 => rfl); (case xFq245 => k_asm); (case xvq245 => rfl); k_whole))) | (with_reducible ((name_kind "globalImplicit"); k_dflt (refine' nameX_K ?yFq246 ?yXq246 ?yTq246 ?yeq246 ?_ ?yaq246 ?ybq246; (case yaq246 => rfl); (case ybq246 => rfl); (case yFq246 => k_asm); (case yXq246 => k_asm); (case yTq246 => k_asm); (case yeq246 => k_is); k_whole))))) | ((with_reducible show wpAny _ _ (callWith _ (Value.ref _) _ _ _) _ _ _); (with_reducible (k_dflt (refine' callWith_K ?zXq247 ?zkq247 ?_; (case zXq247 => k_asm); (case zkq247 => k_is); k_whole)))) | ((with_reducible show wpAny _ _ (pyIter (Value.ref _)) _ _ _); (with_reducible ((refine halt_at ?_)))) | ((with_reducible show wpAny _ _ (exec (Stmt.For _ _ _ _ _) _) _ _ _); (with_reducible ((refine halt_at ?_)))) | ((with_reducible show wpAny _ _ (setItem (Value.ref _) _ _) _ _ _); (with_reducible ((k_dflt (refine' list_put ?Fq224 ?Nq224 ?Uq224 ?aq224 ?bq224 ?cq224 ?_; (case Fq224 => k_asm); (case Nq224 => k_asm); (case Uq224 => k_upd); (case aq224 => assumption); (case bq224 => omega); (case cq224 => omega); k_whole; intro h' F' N'; (try k_sweep)))))) | ((with_reducible show wpAny _ _ (subscriptTail (Expr.Name _ _) (Expr.BinOp _ _ _ _) (Value.ref _) (Value.int _ _)) _ _ _); (with_reducible ((k_dflt (refine' sub_int ?lq223 ?aq223 ?bq223 ?xq223 ?_; (case lq223 => exact News.isList (by assumption) (.tail _ (.head _))); (case aq223 => assumption); (case bq223 => omega); (case xq223 => assumption); k_whole))))) | walk1 | ((fail_if_success k_end); dsimp only) | (leave1; walk_say "STEP leave1"; (try dsimp only)) | fail "no step"))
    refine' ⟨rfl, _, _, _, _, ?five1, rfl, ?fr1, ?new1⟩
    case new1 => with_unfolding_all assumption
    case fr1 => assumption
    case five1 => exact hP.set (by omega) _ _
  case done =>
    intro u its c h tk hP F N
    dsimp only
    (repeat' (first | (k_unfold; (try dsimp only)) | (k_end; wrow_close) | ((with_reducible show wpAny _ _ (eval (Expr.Name _ _) (compEnvC _ _ _ _)) _ _ _); (first | (with_reducible ((name_kind "globalImplicit"); k_dflt (refine LCgL.ld_global (by k_asm) (by k_asm) (by k_asm) (by k_is) ?_))) | (with_reducible ((name_kind "local"); k_dflt (refine LCgL.ld_own (by k_asm) (by k_mem) (by assumption) (by assumption) ?_))) | (with_reducible (k_dflt (refine kcf_cell (by k_asm) (by rfl) (by k_mem) (by k_asm) ?_))))) | ((with_reducible show wpAny _ _ (callWith _ (Value.builtin _) (_ :: _) _ _) _ _ _); (first | (with_reducible (refine callWith_method1 ?_)) | (refine callWith_method1 ?_))) | ((with_reducible show wpAny _ _ (eval (Expr.Name _ _) _) _ _ _); (first | (with_reducible ((name_kind "local"); k_dflt (refine' nameX_L ?xFq252 ?xvq252 ?_ ?xaq252 ?xbq252; (case xaq252 => rfl); (case xbq252 => rfl); (case xFq252 => k_asm); (case xvq252 => rfl); k_whole))) | (with_reducible ((name_kind "globalImplicit"); k_dflt (refine' nameX_K ?yFq253 ?yXq253 ?yTq253 ?yeq253 ?_ ?yaq253 ?ybq253; (case yaq253 => rfl); (case ybq253 => rfl); (case yFq253 => k_asm); (case yXq253 => k_asm); (case yTq253 => k_asm); (case yeq253 => k_is); k_whole))))) | ((with_reducible show wpAny _ _ (callWith _ (Value.ref _) _ _ _) _ _ _); (with_reducible (k_dflt (refine' callWith_K ?zXq254 ?zkq254 ?_; (case zXq254 => k_asm); (case zkq254 => k_is); k_whole)))) | ((with_reducible show wpAny _ _ (pyIter (Value.ref _)) _ _ _); (with_reducible ((refine halt_at ?_)))) | ((with_reducible show wpAny _ _ (exec (Stmt.For _ _ _ _ _) _) _ _ _); (with_reducible ((refine halt_at ?_)))) | ((with_reducible show wpAny _ _ (setItem (Value.ref _) _ _) _ _ _); (with_reducible ((k_dflt (refine' list_put ?Fq224 ?Nq224 ?Uq224 ?aq224 ?bq224 ?cq224 ?_; (case Fq224 => k_asm); (case Nq224 => k_asm); (case Uq224 => k_upd); (case aq224 => assumption); (case bq224 => omega); (case cq224 => omega); k_whole; intro h' F' N'; (try k_sweep)))))) | ((with_reducible show wpAny _ _ (subscriptTail (Expr.Name _ _) (Expr.BinOp _ _ _ _) (Value.ref _) (Value.int _ _)) _ _ _); (with_reducible ((k_dflt (refine' sub_int ?lq223 ?aq223 ?bq223 ?xq223 ?_; (case lq223 => exact News.isList (by assumption) (.tail _ (.head _))); (case aq223 => assumption); (case bq223 => omega); (case xq223 => assumption); k_whole))))) | walk1 | ((fail_if_success k_end); dsimp only) | (leave1; walk_say "STEP leave1"; (try dsimp only)) | fail "no step"))
    exact hret _ its c h tk hP (by k_asm) (by k_asm) (by assumption)
end Mine
end
section
open PySem PySem.W PyProof.Rows PySem.Spec PySem.Calls
namespace Mine
abbrev StepsClaim (prog : Program) (w : World) (K : Frag) (p : Program) (loose : List Str) (mean : ExcName → Option Value) (mg mb : Str → Option Value) (f : Addr) (D : Addr) (a b c d e : Int) (ta tb tc td te : Tok) (n : Nat) (news : List (Addr × Obj)) : Prop :=
  ∀ (dp un : Nat) (gd : Option (List Code)) (cn : Str) (cs : Scope) (la : Addr) (ccd : Value) (cl : List (Str × Addr)) (outer : List Env) (A₀ : Around) (base h₀ : Heap) (L : Addr) (m : Str → Option Value) (s : Shared) (Q E : Value → Shared → Prop),
    Below A₀ base outer h₀ → Fr h₀ L s.heap m → K.In h₀ → News h₀ L s.heap ((D, listOf #[.int a ta, .int b tb, .int c tc, .int d td, .int e te] n) :: news) → Top p loose mean mg mb h₀ → cs.kind = .function → dp + 1 < recursionLimit → un + 8 < cLine →
    (∀ (D' : Addr) (x0 x1 x2 x3 x4 : Int) (ua ub uc ud ue : Tok) (h' : Heap) (tk' : Nat), -11 ≤ x0 → x0 ≤ 13 → -11 ≤ x1 → x1 ≤ 13 → -11 ≤ x2 → x2 ≤ 13 → -11 ≤ x3 → x3 ≤ 13 → -11 ≤ x4 → x4 ≤ 13 → x0 + x1 + x2 + x3 + x4 = 1 → Fr h₀ L h' m →
      News h₀ L h' ((D', listOf #[.int x0 ua, .int x1 ub, .int x2 uc, .int x3 ud, .int x4 ue] 0) :: (D, listOf #[.int a ta, .int b tb, .int c tc, .int d td, .int e te] n) :: news) →
      (∀ p ∈ (D, listOf #[.int a ta, .int b tb, .int c tc, .int d td, .int e te] n) :: news, p.1 < D') → Q (.ref D') { s with heap := h', toks := tk' }) →
    wpAny (model prog w) (ktrTop dp un gd cn cs L la ccd cl outer) (call (.ref f) [.ref D]) Q E s
theorem compEnd_tail {h₀ : Heap} {L I C D : Addr} {m : Str → Option Value} {s₁ : Shared} {oI oC oD : Obj} {S : List (Addr × Obj) → Prop} {rest : Value → List (Addr × Obj) → Prop} {y : Value} {h' : Heap} {tk : Nat} {news' : List (Addr × Obj)}
    (F : Fr h₀ L h' m) (N : News h₀ L h' ((I, oI) :: (C, oC) :: (D, oD) :: news')) (off : LCg.Off3 I C D news') (hS : S news') (r : rest y news') :
    LCg.CompEnd h₀ L m s₁ I oI C oC D oD S rest y { s₁ with heap := h', toks := tk } := LCg.CompEnd.intro F N news' (fun _ h => h) off hS r
theorem fmod7 (a : Int) : 0 ≤ a.fmod 7 ∧ a.fmod 7 < 7 := by
  rw [Int.fmod_eq_emod_of_nonneg _ (by decide)]; omega
theorem news_drop3 {h₀ h : Heap} {L : Addr} {a b c d : Addr × Obj} {l : List (Addr × Obj)} (N : News h₀ L h (a :: b :: c :: d :: l)) : News h₀ L h (a :: l) := fun p hp => by
  rcases List.mem_cons.mp hp with e | e
  · exact N p (by rw [e]; exact .head _)
  · exact N p (.tail _ (.tail _ (.tail _ (.tail _ e))))
set_option maxRecDepth 100000 in
set_option maxHeartbeats 8000000 in
theorem steps_sum {w : World} {p : Program} {loose : List Str} {mean : ExcName → Option Value} {mg mb : Str → Option Value} (D : Addr) (a b c d e : Int) (ta tb tc td te : Tok) (n : Nat) (news : List (Addr × Obj)) :
    StepsClaim PySem.Challenge.rw_zn0002_01.row.prog w (hd.heap_39 w.params) p loose mean mg mb 89 D a b c d e ta tb tc td te n news := by
  w_top off
  k_fill
  dsimp only [StepsClaim]
  intro dp un gd cn cs la ccd cl outer A₀ base h₀ L m s Q E B F X N T hk r1 r2 hret
  have cbI : CbIn 89 := CbIn.mk
  have fa := fmod7 a
  have fb := fmod7 b
  have fc := fmod7 c
  have fd := fmod7 d
  refine wpAny_call ?_
  k_dflt cell_enter
  (repeat' (first | (k_unfold; (try dsimp only)) | (k_end; wrow_close) | ((with_reducible show wpAny _ _ (eval (Expr.Name _ _) (compEnvC _ _ _ _)) _ _ _); (first | (with_reducible ((name_kind "globalImplicit"); k_dflt (refine LCgL.ld_global (by k_asm) (by k_asm) (by k_asm) (by k_is) ?_))) | (with_reducible ((name_kind "local"); k_dflt (refine LCgL.ld_own (by k_asm) (by k_mem) (by assumption) (by assumption) ?_))) | (with_reducible (k_dflt (refine kcf_cell (by k_asm) (by rfl) (by k_mem) (by k_asm) ?_))))) | ((with_reducible show wpAny _ _ (callWith _ (Value.builtin _) (_ :: _) _ _) _ _ _); (first | (with_reducible (refine callWith_method1 ?_)) | (refine callWith_method1 ?_))) | ((with_reducible show wpAny _ _ (eval (Expr.Name _ _) _) _ _ _); (first | (with_reducible ((name_kind "local"); k_dflt (refine' nameX_L ?xFq260 ?xvq260 ?_ ?xaq260 ?xbq260; (case xaq260 => rfl); (case xbq260 => rfl); (case xFq260 => k_asm); (case xvq260 => rfl); k_whole))) | (with_reducible ((name_kind "globalImplicit"); k_dflt (refine' nameX_K ?yFq261 ?yXq261 ?yTq261 ?yeq261 ?_ ?yaq261 ?ybq261; (case yaq261 => rfl); (case ybq261 => rfl); (case yFq261 => k_asm); (case yXq261 => k_asm); (case yTq261 => k_asm); (case yeq261 => k_is); k_whole))))) | ((with_reducible show wpAny _ _ (callWith _ (Value.ref _) _ _ _) _ _ _); (with_reducible (k_dflt (refine' callWith_K ?zXq262 ?zkq262 ?_; (case zXq262 => k_asm); (case zkq262 => k_is); k_whole)))) | ((with_reducible show LCg.CompEnd ..); (with_reducible ((k_dflt (refine' compEnd_tail ?Fq255 ?Nq255 ?offq255 ?srcq255 ?_; (case Fq255 => k_asm); (case Nq255 => k_asm); (case offq255 => first | assumption | (simp only [LCg.Off3, and_true]; assumption) | (simp only [LCg.Off3]; trivial)); (case srcq255 => first | exact True.intro | exact Or.inr ⟨_, List.mem_cons_self, rfl, _, rfl⟩)))))) | walk1 | ((fail_if_success k_end); dsimp only) | (leave1; walk_say "STEP leave1"; (try dsimp only)) | fail "no step"))
  refine' hret _ _ _ _ _ _ _ _ _ _ _ _ _ ?b1 ?b2 ?b3 ?b4 ?b5 ?b6 ?b7 ?b8 ?b9 ?b10 ?bs ?F ?N ?L
  case F => k_asm
  case N => exact news_drop3 (by k_asm)
  case L =>
    rename_i l1 kF kN TT XX
    exact List.forall_mem_cons.mpr ⟨l1.2.2.2.1, of_allLt l1.2.2.2.2⟩
  all_goals omega
end Mine
end
section
open PySem PySem.W PyProof.Rows PySem.Spec PySem.Calls
namespace Mine
abbrev DeepClaim (prog : Program) (w : World) (K : Frag) (p : Program) (loose : List Str) (mean : ExcName → Option Value) (mg mb : Str → Option Value) (f : Addr) (news : List (Addr × Obj)) (vs : List Value) (R : Tok → Value) : Prop :=
  ∀ (dp un : Nat) (gd : Option (List Code)) (cn : Str) (cs : Scope) (a : Addr) (ccd : Value) (cl : List (Str × Addr)) (outer : List Env) (A₀ : Around) (base h₀ : Heap) (L : Addr) (m : Str → Option Value) (s : Shared) (Q E : Value → Shared → Prop),
    Below A₀ base outer h₀ → Fr h₀ L s.heap m → K.In h₀ → News h₀ L s.heap news → Top p loose mean mg mb h₀ → cs.kind = .function →
    dp + 3 < recursionLimit → un + 24 < cLine → CbRet h₀ L m news s Q R →
      wpAny (model prog w) (ktrTop dp un gd cn cs L a ccd cl outer) (call (.ref f) vs) Q E s
def one (x : Int) : Int := if 0 < x then 1 else 0
/-- how many of the first sums of five are above nought -/
def aboveF (a b c d e : Int) : Int := one a + one (a + b) + one (a + b + c) + one (a + b + c + d) + one (a + b + c + d + e)
theorem one_step {a b x z : Int} (h : 0 < x ∧ b = a + 1 ∨ ¬ 0 < x ∧ b = a) (e : x = z) : b = a + one z := by
  subst e
  unfold one
  split <;> omega
theorem above_eq {y0 y1 y2 y3 y4 r1 r2 r3 r4 r5 : Int} (h1 : 0 < 0 + y0 ∧ r1 = 0 + 1 ∨ ¬ 0 < 0 + y0 ∧ r1 = 0) (h2 : 0 < 0 + y0 + y1 ∧ r2 = r1 + 1 ∨ ¬ 0 < 0 + y0 + y1 ∧ r2 = r1) (h3 : 0 < 0 + y0 + y1 + y2 ∧ r3 = r2 + 1 ∨ ¬ 0 < 0 + y0 + y1 + y2 ∧ r3 = r2)
    (h4 : 0 < 0 + y0 + y1 + y2 + y3 ∧ r4 = r3 + 1 ∨ ¬ 0 < 0 + y0 + y1 + y2 + y3 ∧ r4 = r3) (h5 : 0 < 0 + y0 + y1 + y2 + y3 + y4 ∧ r5 = r4 + 1 ∨ ¬ 0 < 0 + y0 + y1 + y2 + y3 + y4 ∧ r5 = r4) : r5 = aboveF y0 y1 y2 y3 y4 := by
  have e1 := one_step h1 (z := y0) (by omega)
  have e2 := one_step h2 (z := y0 + y1) (by omega)
  have e3 := one_step h3 (z := y0 + y1 + y2) (by omega)
  have e4 := one_step h4 (z := y0 + y1 + y2 + y3) (by omega)
  have e5 := one_step h5 (z := y0 + y1 + y2 + y3 + y4) (by omega)
  unfold aboveF
  omega
theorem unrEnd_tail {h₀ : Heap} {L I : Addr} {it : Obj} {rest : (Str → Option Value) → List (Addr × Obj) → Prop} {s₁ : Shared} {h' : Heap} {tk : Nat} {m' : Str → Option Value} {news' : List (Addr × Obj)} (F : Fr h₀ L h' m') (N : News h₀ L h' ((I, it) :: news'))
    (off : ∀ p ∈ news', p.1 < I) (r : rest m' news') : UnrEnd h₀ L s₁ I it rest { s₁ with heap := h', toks := tk } := UnrEnd.intro F N news' (fun _ h => h) (fun p hp => Nat.ne_of_lt (off p hp)) r
theorem iter_five {prog : Program} {w : World} {A : Around} {E : Value → Shared → Prop} {s : Shared} {env : Env} {h₀ : Heap} {x : PySem.Str} {body : List Stmt} {Q : Flow → Shared → Prop} {a b c d e : UInt8} {t : Tok} {m₀ : PySem.Str → Option Value} {news : List (Addr × Obj)} (hh : A.handled = none) (F : Fr h₀ env.locals s.heap m₀) (N : News h₀ env.locals s.heap news)
    (rest₀ : ∀ I : Addr, (∀ p ∈ news, p.1 < I) → BytesRest prog w A E h₀ env x body Q s I [(a.toNat : Int), (b.toNat : Int), (c.toNat : Int), (d.toNat : Int), (e.toNat : Int)] m₀ news) :
    wpAny (model prog w) A (pyIter (.bytes #[a, b, c, d, e] t)) (fun it s₂ => LoopAtV prog w A h₀ env x body Q E it s₂) E s := iter_bytesUnr hh F N rfl rest₀
theorem unrPost_mono {h₀ : Heap} {L I : Addr} {s₁ s₂ : Shared} {it : Obj} {rest rest' : (Str → Option Value) → List (Addr × Obj) → Prop} {Q : Flow → Shared → Prop} {f : Flow} (hr : ∀ m n, rest m n → rest' m n) (h : UnrPost h₀ L s₁ I it rest Q f s₂) : UnrPost h₀ L s₁ I it rest' Q f s₂ := by
  have e : UnrEnd h₀ L s₁ I it rest s₂ → UnrEnd h₀ L s₁ I it rest' s₂ := fun ⟨h', tk, m', n', a, b, c, d, r⟩ => ⟨h', tk, m', n', a, b, c, d, hr _ _ r⟩
  cases f with
  | ret v => exact h
  | brk => exact h
  | next => exact e h
  | cont => exact e h
section
variable {prog : Program} {w : World} {A : Around} {E : Value → Shared → Prop} {s : Shared} {env : Env} {h₀ : Heap} {x : Str} {body : List Stmt} {Q : Flow → Shared → Prop} {I : Addr} {news : List (Addr × Obj)}
theorem bytes_chain : ∀ (l : List Int) (T : Nat → (Str → Option Value) → Prop) (m : Str → Option Value)
    (step : ∀ j c, l[j]? = some c → ∀ m, T j m → ∀ (u : Tok) (it : Obj) h tk, Fr h₀ env.locals h (fun y => if y = x then some (.int c u) else m y) → News h₀ env.locals h ((I, it) :: news) →
      wpAny (model prog w) A (execs body env) (UnrPost h₀ env.locals { s with heap := h, toks := tk } I it (fun m' news' => news' = news ∧ T (j + 1) m') Q) E { s with heap := h, toks := tk })
    (fin : ∀ m, T l.length m → ∀ h tk, Fr h₀ env.locals h m → News h₀ env.locals h news → Q .next { s with heap := h, toks := tk }) (h0 : T 0 m), BytesRest prog w A E h₀ env x body Q s I l m news
  | [], T, m, step, fin, h0 => BytesRest.zero fun h tk F N => fin m h0 h tk F N
  | c :: r, T, m, step, fin, h0 => BytesRest.succ fun _ _ u it h tk F N => by
    refine wpAny_mono (step 0 c rfl m h0 u it h tk F N) (fun f s2 hp => unrPost_mono (fun m' n' hm => ?_) hp) fun _ _ e => e
    obtain ⟨e, hT⟩ := hm
    rw [e]
    exact bytes_chain r (fun j => T (j + 1)) m' (fun j c hc => step (j + 1) c hc) (fun m hm => fin m hm) hT
end
abbrev lay1 (a : Str) (v : Value) (m : Str → Option Value) : Str → Option Value := fun y => if y = a then some v else m y
theorem lay1_eq {a : Str} {v : Value} {m : Str → Option Value} (e : m a = some v) : m = lay1 a v m := by
  funext y
  by_cases h : y = a
  · subst h; simp [lay1, e]
  · simp [lay1, h]
abbrev AboveAt (R C : Addr) (d ab : Nat → Int) (j : Nat) (m : Str → Option Value) : Prop :=
  Halt (∃ m' t1 t2 t3, m = lay1 (Str.ofString "depth") (.int (d j) t1) (lay1 (Str.ofString "clock") (.int (3600 * d j) t2) (lay1 (Str.ofString "above") (.int (ab j) t3) (lay1 (Str.ofString "replies") (.ref R) (lay1 (Str.ofString "clocks") (.ref C) m')))))
theorem lay5 {m : Str → Option Value} {a1 a2 a3 a4 a5 : Str} {v1 v2 v3 v4 v5 : Value} (e1 : m a1 = some v1) (e2 : m a2 = some v2) (e3 : m a3 = some v3) (e4 : m a4 = some v4) (e5 : m a5 = some v5) : m = lay1 a1 v1 (lay1 a2 v2 (lay1 a3 v3 (lay1 a4 v4 (lay1 a5 v5 m)))) := by
  rw [← lay1_eq e5, ← lay1_eq e4, ← lay1_eq e3, ← lay1_eq e2]
  exact lay1_eq e1
set_option maxRecDepth 100000 in
set_option maxHeartbeats 8000000 in
theorem above_any {w : World} {p : Program} {loose : List Str} {mean : ExcName → Option Value} {mg mb : Str → Option Value}
    (o0 o1 o2 o3 o4 : UInt8) (y k d ab : Nat → Int) (t u : Nat → Tok) (tb : Tok) (reps clks : Array Value) (R C : Addr) (cR cC : Nat)
    (b : ∀ j c, ([(o0.toNat : Int), (o1.toNat : Int), (o2.toNat : Int), (o3.toNat : Int), (o4.toNat : Int)] : List Int)[j]? = some c → 0 ≤ c ∧ c < 256 ∧ -11 ≤ y j ∧ y j ≤ 13 ∧ 0 ≤ k j ∧ k j < 4 ∧ reps[c.toNat]? = some (.bytes (replyB (y j) (k j)) (t j)) ∧ clks[c.toNat]? = some (.int (3600 * y j) (u j)) ∧ d (j + 1) = d j + y j ∧ ab (j + 1) = ab j + one (d (j + 1)) ∧ 0 ≤ ab j ∧ ab j ≤ 5 ∧ -100 ≤ d j ∧ d j ≤ 100)
    (d0 : d 0 = 0) (ab0 : ab 0 = 0)
    (news : List (Addr × Obj)) (mR : (R, listOf reps cR) ∈ news) (mC : (C, listOf clks cC) ∈ news) :
    DeepClaim PySem.Challenge.rw_zn0002_01.row.prog w (hd.heap_39 w.params) p loose mean mg mb 110 news [.bytes #[o0, o1, o2, o3, o4] tb, .ref R, .ref C] (fun t => .int (ab 5) t) := by
  w_top off
  k_fill
  dsimp only [DeepClaim, CbRet]
  intros
  rename_i hret
  have cbI : CbIn 110 := CbIn.mk
  refine wpAny_call ?_
  k_dflt ((refine' code_def ?k1q266 ?k2q266 ?k3q266 ?k4q266 ?k5q266 ?kAq266 ?kFq266 ?kKq266 ?k6q266 ?k7q266 ?k8q266 ?k9q266 ?kBq266 ?_ ?c2q266 ?c3q266 ?c4q266 ?c5q266; (case kAq266 => exact rfl); (case kFq266 => exact rfl); (case kKq266 => assumption); (case k1q266 => k_asm); (case k2q266 => k_asm); (case k3q266 => k_asm); (case k4q266 => k_asm); (case k5q266 => k_asm); (case k6q266 => k_is); (case k7q266 => k_is); (case k8q266 => ktr_room); (case k9q266 => first | exact BindsTo.of_eq rfl | exact binds_K (by k_in) rfl (by k_is) rfl rfl rfl); (case c5q266 => decide); (case kBq266 => exact locs rfl); (case c2q266 => exact rfl); (case c3q266 => exact rfl); (case c4q266 => exact rfl); k_whole; intro g' L' h' FG' F' N' B' X' T'; (try dsimp only); (try k_lift B'); (try k_fold)))
  (repeat' (first | (k_unfold; (try dsimp only)) | (k_end; wrow_close) | ((with_reducible show wpAny _ _ (eval (Expr.Name _ _) (compEnvC _ _ _ _)) _ _ _); (first | (with_reducible ((name_kind "globalImplicit"); k_dflt (refine LCgL.ld_global (by k_asm) (by k_asm) (by k_asm) (by k_is) ?_))) | (with_reducible ((name_kind "local"); k_dflt (refine LCgL.ld_own (by k_asm) (by k_mem) (by assumption) (by assumption) ?_))) | (with_reducible (k_dflt (refine kcf_cell (by k_asm) (by rfl) (by k_mem) (by k_asm) ?_))))) | ((with_reducible show wpAny _ _ (callWith _ (Value.builtin _) (_ :: _) _ _) _ _ _); (first | (with_reducible (refine callWith_method1 ?_)) | (refine callWith_method1 ?_))) | ((with_reducible show wpAny _ _ (eval (Expr.Name _ _) _) _ _ _); (first | (with_reducible ((name_kind "local"); k_dflt (refine' nameX_L ?xFq272 ?xvq272 ?_ ?xaq272 ?xbq272; (case xaq272 => rfl); (case xbq272 => rfl); (case xFq272 => k_asm); (case xvq272 => rfl); k_whole))) | (with_reducible ((name_kind "globalImplicit"); k_dflt (refine' nameX_K ?yFq273 ?yXq273 ?yTq273 ?yeq273 ?_ ?yaq273 ?ybq273; (case yaq273 => rfl); (case ybq273 => rfl); (case yFq273 => k_asm); (case yXq273 => k_asm); (case yTq273 => k_asm); (case yeq273 => k_is); k_whole))))) | ((with_reducible show wpAny _ _ (callWith _ (Value.ref _) _ _ _) _ _ _); (with_reducible (k_dflt (refine' callWith_K ?zXq274 ?zkq274 ?_; (case zXq274 => k_asm); (case zkq274 => k_is); k_whole)))) | ((with_reducible show wpAny _ _ (pyIter (Value.bytes _ _)) _ _ _); (with_reducible ((refine halt_at ?_)))) | ((with_reducible show wpAny _ _ (call (Value.ref _) _) _ _ _); (with_reducible ((k_dflt (refine paren_sum _ _ _ _ _ (by assumption) (by assumption) (by assumption) (by assumption) _ _ _ _ _ _ _ _ _ _ _ _ _ _ _ _ _ _ (by k_asm) (by k_asm) (by k_asm) (by k_asm) (by k_asm) (by first | exact rfl | assumption) (by trivial) (by ktr_room) (by ktr_units) ?_; intro t9 h9 tk9 F9 N9; (try dsimp only); (try k_sweep)))))) | ((with_reducible show wpAny _ _ (subscriptTail (Expr.Name _ _) (Expr.Name _ _) (Value.ref _) (Value.int _ _)) _ _ _); (with_reducible ((k_dflt (refine' sub_int ?lq264 ?aq264 ?bq264 ?xq264 ?_; (case lq264 => exact News.isList (by assumption) (by first | assumption | exact List.mem_cons_of_mem _ (by assumption))); (case aq264 => omega); (case bq264 => omega); (case xq264 => assumption); k_whole))))) | ((with_reducible show UnrEnd ..); (with_reducible ((k_dflt (refine' unrEnd_tail ?Fq263 ?Nq263 ?offq263 ?_; (case Fq263 => k_asm); (case Nq263 => k_asm); (case offq263 => first | assumption | exact of_allLt (by assumption))))))) | walk1 | ((fail_if_success k_end); dsimp only) | (leave1; walk_say "STEP leave1"; (try dsimp only)) | fail "no step"))
  refine Halt.mk ?_
  rename Fr _ _ _ _ => lF
  rename News _ _ _ _ => lN
  with_unfolding_all refine iter_five (by rfl) lF lN fun I hI => bytes_chain _ (AboveAt R C d ab) _ (fun j c hc m hT u' it' h' tk' F' N' => ?step) (fun m hT h' tk' F' N' => ?fin) (Halt.mk ⟨_, _, _, _, lay5 (by rw [d0]; rfl) (by rw [d0]; rfl) (by rw [ab0]; rfl) rfl rfl⟩)
  case step =>
    obtain ⟨c0, c1, y0, y1, k0, k1, r0, q0, e1, e2, a0, a1, d1, d2⟩ := b j c hc
    obtain ⟨m', t1, t2, t3, rfl⟩ := hT.go
    (try dsimp only [envOf] at F' N')
    (repeat' (first | (k_unfold; (try dsimp only)) | (k_end; wrow_close) | ((with_reducible show wpAny _ _ (eval (Expr.Name _ _) (compEnvC _ _ _ _)) _ _ _); (first | (with_reducible ((name_kind "globalImplicit"); k_dflt (refine LCgL.ld_global (by k_asm) (by k_asm) (by k_asm) (by k_is) ?_))) | (with_reducible ((name_kind "local"); k_dflt (refine LCgL.ld_own (by k_asm) (by k_mem) (by assumption) (by assumption) ?_))) | (with_reducible (k_dflt (refine kcf_cell (by k_asm) (by rfl) (by k_mem) (by k_asm) ?_))))) | ((with_reducible show wpAny _ _ (callWith _ (Value.builtin _) (_ :: _) _ _) _ _ _); (first | (with_reducible (refine callWith_method1 ?_)) | (refine callWith_method1 ?_))) | ((with_reducible show wpAny _ _ (eval (Expr.Name _ _) _) _ _ _); (first | (with_reducible ((name_kind "local"); k_dflt (refine' nameX_L ?xFq279 ?xvq279 ?_ ?xaq279 ?xbq279; (case xaq279 => rfl); (case xbq279 => rfl); (case xFq279 => k_asm); (case xvq279 => rfl); k_whole))) | (with_reducible ((name_kind "globalImplicit"); k_dflt (refine' nameX_K ?yFq280 ?yXq280 ?yTq280 ?yeq280 ?_ ?yaq280 ?ybq280; (case yaq280 => rfl); (case ybq280 => rfl); (case yFq280 => k_asm); (case yXq280 => k_asm); (case yTq280 => k_asm); (case yeq280 => k_is); k_whole))))) | ((with_reducible show wpAny _ _ (callWith _ (Value.ref _) _ _ _) _ _ _); (with_reducible (k_dflt (refine' callWith_K ?zXq281 ?zkq281 ?_; (case zXq281 => k_asm); (case zkq281 => k_is); k_whole)))) | ((with_reducible show wpAny _ _ (pyIter (Value.bytes _ _)) _ _ _); (with_reducible ((refine halt_at ?_)))) | ((with_reducible show wpAny _ _ (call (Value.ref _) _) _ _ _); (with_reducible ((k_dflt (refine paren_sum _ _ _ _ _ (by assumption) (by assumption) (by assumption) (by assumption) _ _ _ _ _ _ _ _ _ _ _ _ _ _ _ _ _ _ (by k_asm) (by k_asm) (by k_asm) (by k_asm) (by k_asm) (by first | exact rfl | assumption) (by trivial) (by ktr_room) (by ktr_units) ?_; intro t9 h9 tk9 F9 N9; (try dsimp only); (try k_sweep)))))) | ((with_reducible show wpAny _ _ (subscriptTail (Expr.Name _ _) (Expr.Name _ _) (Value.ref _) (Value.int _ _)) _ _ _); (with_reducible ((k_dflt (refine' sub_int ?lq264 ?aq264 ?bq264 ?xq264 ?_; (case lq264 => exact News.isList (by assumption) (by first | assumption | exact List.mem_cons_of_mem _ (by assumption))); (case aq264 => omega); (case bq264 => omega); (case xq264 => assumption); k_whole))))) | ((with_reducible show UnrEnd ..); (with_reducible ((k_dflt (refine' unrEnd_tail ?Fq263 ?Nq263 ?offq263 ?_; (case Fq263 => k_asm); (case Nq263 => k_asm); (case offq263 => first | assumption | exact of_allLt (by assumption))))))) | walk1 | ((fail_if_success k_end); dsimp only) | (leave1; walk_say "STEP leave1"; (try dsimp only)) | fail "no step"))
    all_goals first
      | (exfalso; omega)
      | (have z : ab (j + 1) = ab j + 1 := by (rw [e2]; unfold one; split <;> omega)
         exact Halt.mk ⟨_, _, _, _, lay5 (by rw [e1]; rfl) (by rw [e1, Int.mul_add]; rfl) (by rw [z]; rfl) rfl rfl⟩)
      | (have z : ab (j + 1) = ab j := by (rw [e2]; unfold one; split <;> omega)
         exact Halt.mk ⟨_, _, _, _, lay5 (by rw [e1]; rfl) (by rw [e1, Int.mul_add]; rfl) (by rw [z]; rfl) rfl rfl⟩)
  case fin =>
    obtain ⟨m', t1, t2, t3, rfl⟩ := hT.go
    (try dsimp only [envOf] at F' N')
    (repeat' (first | (k_unfold; (try dsimp only)) | (k_end; wrow_close) | ((with_reducible show wpAny _ _ (eval (Expr.Name _ _) (compEnvC _ _ _ _)) _ _ _); (first | (with_reducible ((name_kind "globalImplicit"); k_dflt (refine LCgL.ld_global (by k_asm) (by k_asm) (by k_asm) (by k_is) ?_))) | (with_reducible ((name_kind "local"); k_dflt (refine LCgL.ld_own (by k_asm) (by k_mem) (by assumption) (by assumption) ?_))) | (with_reducible (k_dflt (refine kcf_cell (by k_asm) (by rfl) (by k_mem) (by k_asm) ?_))))) | ((with_reducible show wpAny _ _ (callWith _ (Value.builtin _) (_ :: _) _ _) _ _ _); (first | (with_reducible (refine callWith_method1 ?_)) | (refine callWith_method1 ?_))) | ((with_reducible show wpAny _ _ (eval (Expr.Name _ _) _) _ _ _); (first | (with_reducible ((name_kind "local"); k_dflt (refine' nameX_L ?xFq286 ?xvq286 ?_ ?xaq286 ?xbq286; (case xaq286 => rfl); (case xbq286 => rfl); (case xFq286 => k_asm); (case xvq286 => rfl); k_whole))) | (with_reducible ((name_kind "globalImplicit"); k_dflt (refine' nameX_K ?yFq287 ?yXq287 ?yTq287 ?yeq287 ?_ ?yaq287 ?ybq287; (case yaq287 => rfl); (case ybq287 => rfl); (case yFq287 => k_asm); (case yXq287 => k_asm); (case yTq287 => k_asm); (case yeq287 => k_is); k_whole))))) | ((with_reducible show wpAny _ _ (callWith _ (Value.ref _) _ _ _) _ _ _); (with_reducible (k_dflt (refine' callWith_K ?zXq288 ?zkq288 ?_; (case zXq288 => k_asm); (case zkq288 => k_is); k_whole)))) | ((with_reducible show wpAny _ _ (pyIter (Value.bytes _ _)) _ _ _); (with_reducible ((refine halt_at ?_)))) | ((with_reducible show wpAny _ _ (call (Value.ref _) _) _ _ _); (with_reducible ((k_dflt (refine paren_sum _ _ _ _ _ (by assumption) (by assumption) (by assumption) (by assumption) _ _ _ _ _ _ _ _ _ _ _ _ _ _ _ _ _ _ (by k_asm) (by k_asm) (by k_asm) (by k_asm) (by k_asm) (by first | exact rfl | assumption) (by trivial) (by ktr_room) (by ktr_units) ?_; intro t9 h9 tk9 F9 N9; (try dsimp only); (try k_sweep)))))) | ((with_reducible show wpAny _ _ (subscriptTail (Expr.Name _ _) (Expr.Name _ _) (Value.ref _) (Value.int _ _)) _ _ _); (with_reducible ((k_dflt (refine' sub_int ?lq264 ?aq264 ?bq264 ?xq264 ?_; (case lq264 => exact News.isList (by assumption) (by first | assumption | exact List.mem_cons_of_mem _ (by assumption))); (case aq264 => omega); (case bq264 => omega); (case xq264 => assumption); k_whole))))) | ((with_reducible show UnrEnd ..); (with_reducible ((k_dflt (refine' unrEnd_tail ?Fq263 ?Nq263 ?offq263 ?_; (case Fq263 => k_asm); (case Nq263 => k_asm); (case offq263 => first | assumption | exact of_allLt (by assumption))))))) | walk1 | ((fail_if_success k_end); dsimp only) | (leave1; walk_say "STEP leave1"; (try dsimp only)) | fail "no step"))
    all_goals (refine' endI hret ?e ?F ?N ?S; (case F => k_asm); (case N => k_asm); (case S => exact fun p hp => hp); (case e => rfl))
theorem one_two (x : Int) : 0 ≤ one x ∧ one x ≤ 1 := by
  unfold one
  split <;> omega
theorem above_sum {w : World} {p : Program} {loose : List Str} {mean : ExcName → Option Value} {mg mb : Str → Option Value}
    (o0 o1 o2 o3 o4 : UInt8) (y0 y1 y2 y3 y4 k0 k1 k2 k3 k4 : Int) (t0 t1 t2 t3 t4 u0 u1 u2 u3 u4 tb : Tok) (reps clks : Array Value) (R C : Addr) (cR cC : Nat)
    (b0 : -11 ≤ y0) (c0 : y0 ≤ 13) (b1 : -11 ≤ y1) (c1 : y1 ≤ 13) (b2 : -11 ≤ y2) (c2 : y2 ≤ 13) (b3 : -11 ≤ y3) (c3 : y3 ≤ 13) (b4 : -11 ≤ y4) (c4 : y4 ≤ 13)
    (d0 : 0 ≤ k0) (e0 : k0 < 4) (d1 : 0 ≤ k1) (e1 : k1 < 4) (d2 : 0 ≤ k2) (e2 : k2 < 4) (d3 : 0 ≤ k3) (e3 : k3 < 4) (d4 : 0 ≤ k4) (e4 : k4 < 4)
    (r0 : reps[o0.toNat]? = some (.bytes (replyB y0 k0) t0)) (r1 : reps[o1.toNat]? = some (.bytes (replyB y1 k1) t1)) (r2 : reps[o2.toNat]? = some (.bytes (replyB y2 k2) t2)) (r3 : reps[o3.toNat]? = some (.bytes (replyB y3 k3) t3)) (r4 : reps[o4.toNat]? = some (.bytes (replyB y4 k4) t4))
    (q0 : clks[o0.toNat]? = some (.int (3600 * y0) u0)) (q1 : clks[o1.toNat]? = some (.int (3600 * y1) u1)) (q2 : clks[o2.toNat]? = some (.int (3600 * y2) u2)) (q3 : clks[o3.toNat]? = some (.int (3600 * y3) u3)) (q4 : clks[o4.toNat]? = some (.int (3600 * y4) u4))
    (news : List (Addr × Obj)) (mR : (R, listOf reps cR) ∈ news) (mC : (C, listOf clks cC) ∈ news) :
    DeepClaim PySem.Challenge.rw_zn0002_01.row.prog w (hd.heap_39 w.params) p loose mean mg mb 110 news [.bytes #[o0, o1, o2, o3, o4] tb, .ref R, .ref C] (fun t => .int (aboveF y0 y1 y2 y3 y4) t) := by
  have s0 := one_two y0
  have s1 := one_two (y0 + y1)
  have s2 := one_two (y0 + y1 + y2)
  have s3 := one_two (y0 + y1 + y2 + y3)
  have s4 := one_two (y0 + y1 + y2 + y3 + y4)
  have z0 := o0.toNat_lt
  have z1 := o1.toNat_lt
  have z2 := o2.toNat_lt
  have z3 := o3.toNat_lt
  have z4 := o4.toNat_lt
  refine above_any o0 o1 o2 o3 o4 (fun j => [y0, y1, y2, y3, y4].getD j 0) (fun j => [k0, k1, k2, k3, k4].getD j 0) (fun j => [0, y0, y0 + y1, y0 + y1 + y2, y0 + y1 + y2 + y3, y0 + y1 + y2 + y3 + y4].getD j 0)
    (fun j => [0, one y0, one y0 + one (y0 + y1), one y0 + one (y0 + y1) + one (y0 + y1 + y2), one y0 + one (y0 + y1) + one (y0 + y1 + y2) + one (y0 + y1 + y2 + y3), one y0 + one (y0 + y1) + one (y0 + y1 + y2) + one (y0 + y1 + y2 + y3) + one (y0 + y1 + y2 + y3 + y4)].getD j 0)
    (fun j => [t0, t1, t2, t3, t4].getD j 0) (fun j => [u0, u1, u2, u3, u4].getD j 0) tb reps clks R C cR cC (fun j c hc => ?_) rfl rfl news mR mC
  match j, hc with
  | 0, hc => cases hc; exact ⟨by omega, by omega, b0, c0, d0, e0, r0, q0, (Int.zero_add _).symm, (Int.zero_add _).symm, by show (0 : Int) ≤ 0; omega, by show (0 : Int) ≤ 5; omega, by show (-100 : Int) ≤ 0; omega, by show (0 : Int) ≤ 100; omega⟩
  | 1, hc => cases hc; exact ⟨by omega, by omega, b1, c1, d1, e1, r1, q1, rfl, rfl, by show 0 ≤ one y0; omega, by show one y0 ≤ 5; omega, by show -100 ≤ y0; omega, by show y0 ≤ 100; omega⟩
  | 2, hc => cases hc; exact ⟨by omega, by omega, b2, c2, d2, e2, r2, q2, rfl, rfl, by show 0 ≤ one y0 + one (y0 + y1); omega, by show one y0 + one (y0 + y1) ≤ 5; omega, by show -100 ≤ y0 + y1; omega, by show y0 + y1 ≤ 100; omega⟩
  | 3, hc => cases hc; exact ⟨by omega, by omega, b3, c3, d3, e3, r3, q3, rfl, rfl, by show 0 ≤ one y0 + one (y0 + y1) + one (y0 + y1 + y2); omega, by show one y0 + one (y0 + y1) + one (y0 + y1 + y2) ≤ 5; omega, by show -100 ≤ y0 + y1 + y2; omega, by show y0 + y1 + y2 ≤ 100; omega⟩
  | 4, hc => cases hc; exact ⟨by omega, by omega, b4, c4, d4, e4, r4, q4, rfl, rfl, by show 0 ≤ one y0 + one (y0 + y1) + one (y0 + y1 + y2) + one (y0 + y1 + y2 + y3); omega, by show one y0 + one (y0 + y1) + one (y0 + y1 + y2) + one (y0 + y1 + y2 + y3) ≤ 5; omega, by show -100 ≤ y0 + y1 + y2 + y3; omega, by show y0 + y1 + y2 + y3 ≤ 100; omega⟩
end Mine
end
section
open PySem PySem.W PyProof.Rows PySem.Spec PySem.Calls
set_option maxRecDepth 100000
namespace Mine
theorem rg_no_bytes : typeLookup (.type "range") "__bytes__" = pure none := by rw [typeLookup_type, builtinLookup_eq_fast]; kernel_rfl
theorem rg_no_index : typeLookup (.type "range") "__index__" = pure none := by rw [typeLookup_type, builtinLookup_eq_fast]; kernel_rfl
theorem rg_no_buffer : typeLookup (.type "range") "__buffer__" = pure none := by rw [typeLookup_type, builtinLookup_eq_fast]; kernel_rfl
theorem rg_split : splitId "range.__len__" = some ("range", "__len__") := by decide +kernel
theorem rg_sub : isSubtype (.type "range") (.type "range") = pure true := by rw [isSubtype_type]; kernel_rfl
abbrev rgIter (x left : Int) : Obj := { cls := .type "range_iterator", data := .fields #[rawInt x, rawInt left, rawInt 1] }
abbrev rgBytes (b : Array UInt8) : Obj := { cls := .type "bytearray", data := .bytearray b }
def bytesFrom (x : Nat) : Nat → Array UInt8 → Array UInt8
  | 0, b => b
  | n + 1, b => bytesFrom (x + 1) n (b.push x.toUInt8)
section
variable {prog : Program} {w : World} {A : Around} {E : Value → Shared → Prop} {s : Shared}
theorem rg_loop {R : Result → Shared → Prop} {I S : Addr} (hh : A.handled = none) (hIS : I ≠ S) :
    ∀ (n x : Nat) (b : Array UInt8) (s : Shared), x + n ≤ 200 → b.size = x → s.heap.get? I = some (rgIter x n) → s.heap.get? S = some (rgBytes b) →
      (∀ h' t k', (∀ a o, a ≠ I → a ≠ S → s.heap.get? a = some o → h'.get? a = some o) → R (.ok (.ret (.bytes (bytesFrom x n b) t))) { s with heap := h', toks := k' }) →
      codeAny (model prog w) A (.builtin "bytes.__new__.loop" ⟨[.type "bytes", .ref I, .ref S], []⟩) R s := by
  intro n
  induction n with
  | zero =>
    intro x b s hx hb hit hS hR
    refine codeAny_builtin F.bm_entry_loop ?_
    rw [Around.under_plainId F.bm_plain_loop _]
    show wpAny _ A.in1 (pyNext (.ref I) >>= _) _ _ s
    refine wpAny_bind (wpAny_pyNext_range_end hh hit (by omega) fun h' he => ?_)
    have hS' : h'.get? S = some (rgBytes b) := he S _ (Ne.symm hIS) hS
    refine wpAny_bind ?_
    unfold Builtin.Bytes.payload Builtin.Bytes.payload?
    refine wpAny_bind (wpAny_bind (wpAny_load hS' ?_))
    refine wpAny_pure (wpAny_pure ?_)
    refine wpAny_bind (wpAny_mkBytes ?_ (by unfold sizeLine; omega))
    show wpAny _ _ (if (Value.type "bytes" == Value.type "bytes") = true then _ else _) _ _ _
    refine bm_if_true (by decide) ?_
    first
      | exact wpAny_pure (hR h' _ _ fun a o hb _ e => he a o hb e)
      | exact wpAny_bind (wpAny_pure (wpAny_pure (hR h' _ _ fun a o hb _ e => he a o hb e)))
  | succ n ih =>
    intro x b s hx hb hit hS hR
    refine codeAny_builtin F.bm_entry_loop ?_
    rw [Around.under_plainId F.bm_plain_loop _]
    show wpAny _ A.in1 (pyNext (.ref I) >>= _) _ _ s
    refine wpAny_bind (wpAny_pyNext_range_item hit (by omega) fun h' hit' hs => ?_)
    have hS' : h'.get? S = some (rgBytes b) := (hs.2 S (Ne.symm hIS)).trans hS
    refine wpAny_bind (wpAny_holding (wpAny_of_eq (rfl : asIndex (.int (x : Int) s.toks) = pure (x : Int)) ?_))
    refine wpAny_bind (wpAny_letGo ?_)
    refine bm_if_false (by simp only [Bool.or_eq_false_iff, decide_eq_false_iff_not]; omega) ?_
    refine wpAny_bind ?_
    show wpAny _ _ (updateBytearray S (·.push x.toUInt8)) _ _ _
    unfold updateBytearray
    refine wpAny_bind (wpAny_load hS' ?_)
    show wpAny _ _ (update S (Obj.mapBytearray (·.push x.toUInt8)) >>= fun _ => lookBehind S) _ _ _
    refine wpAny_bind (wpAny_update hS' ?_)
    have hS₂ : (h'.update S (Obj.mapBytearray (·.push x.toUInt8))).get? S = some (rgBytes (b.push x.toUInt8)) :=
      Heap.get?_update_self (Obj.mapBytearray (·.push x.toUInt8)) hS' rfl
    have hI₂ : (h'.update S (Obj.mapBytearray (·.push x.toUInt8))).get? I = some (rgIter ((x + 1 : Nat) : Int) (n : Int)) := by
      rw [Heap.get?_update_other _ _ (Ne.symm hIS), hit']
      have e1 : ((x : Nat) : Int) + 1 = ((x + 1 : Nat) : Int) := by omega
      have e2 : ((n + 1 : Nat) : Int) - 1 = (n : Int) := by omega
      rw [e1, e2]
    refine wpAny_lookBehind hS₂ ?_ ?_
    · show (if (b.push x.toUInt8).size > sizeLine then some "bytearray:memory" else none) = none
      rw [if_neg]
      rw [Array.size_push]
      unfold sizeLine
      omega
    · refine wpAny_pure ⟨plainId_quiet F.bm_plain_loop _, ih (x + 1) (b.push x.toUInt8) { s with heap := h'.update S (Obj.mapBytearray (·.push x.toUInt8)), toks := s.toks + 1 } (by omega) (by rw [Array.size_push, hb]) hI₂ hS₂ fun h3 t' k' hk3 => ?_⟩
      exact hR h3 t' k' fun a o haI haS e => hk3 a o haI haS ((Heap.get?_update_other _ _ (Ne.symm haS)).trans (hs.extBut a o haI e))
theorem rg_hint {r : Addr} {a b c : Int} {t u v : Tok} {n : Nat} {Q : Unit → Shared → Prop} (hr : IsRange s.heap r a b c t u v) (hn : Builtin.Range.rangeSize a b c = n) (hlen : n ≤ 200)
    (h : Q () { s with toks := s.toks + 1 + 1 }) : wpAny (model prog w) A (Builtin.Bytes.lengthHint "bytes.__new__" (.ref r)) Q E s := by
  unfold Builtin.Bytes.lengthHint
  refine wpAny_bind (wpAny_specialOf ⟨_, hr, rfl⟩ F.slot_range_len.lookup ?_)
  dsimp only
  rw [rg_split]
  dsimp only
  refine wpAny_bind (wpAny_isInstance (T := "range") (b := true) ⟨_, hr, rfl⟩ rg_sub ?_)
  refine bm_if_false rfl ?_
  refine bm_if_false (by decide +kernel) ?_
  refine bm_if_true rfl ?_
  refine wpAny_bind (wpAny_rule ?_)
  refine wpAny_bind (wpAny_attempt (call_len_range hr hn (by omega) ?_))
  have htl : Builtin.Bytes.tooLong ((n : Int).toNat) = false := by simp [Builtin.Bytes.tooLong, sizeLine]; omega
  refine wpAny_bind (m := asInt? _) (wpAny_pure ?_)
  first
    | exact bm_if_false htl (wpAny_pure h)
    | exact wpAny_ite_split (fun hab => absurd hab (by rw [htl]; decide)) (fun _ => wpAny_pure h)
theorem rg_new {r : Addr} {t u v : Tok} {n : Nat} {Q : Value → Shared → Prop} (hh : A.handled = none) (hr : IsRange s.heap r 0 n 1 t u v) (hsm : Builtin.Range.small 0 n 1 = true) (hn : Builtin.Range.rangeSize 0 n 1 = n) (hz : n ≤ 200)
    (hQ : ∀ h' t k, (∀ b o, s.heap.get? b = some o → h'.get? b = some o) → Q (.bytes (bytesFrom 0 n #[]) t) { s with heap := h', toks := k }) :
    codeAny (model prog w) A (.call (.builtin "bytes.__new__") ⟨[.type "bytes", .ref r], []⟩) (wants Q E) s := by
  refine codeAny_of_tree ?_
  show wpAny _ A.in1 (do checkBuiltinCall "bytes.__new__" ⟨[.type "bytes", .ref r], []⟩; again (.builtin "bytes.__new__" ⟨[.type "bytes", .ref r], []⟩)) _ _ s
  refine wpAny_bind (wpAny_of_eq (F.bm_newCall _) (wpAny_pure ⟨plainId_quiet F.bm_plain _, codeAny_builtin F.bm_entry ?_⟩))
  rw [Around.under_plainId F.bm_plain _]
  have hT : s.TypeIs (.ref r) "range" := ⟨_, hr, rfl⟩
  unfold Builtin.«bytes.__new__»
  refine wpAny_bind (wpAny_of_eq (a := true) rfl ?_)
  refine bm_if_false rfl ?_
  refine wpAny_bind (wpAny_of_eq F.bm_sub ?_)
  refine bm_if_false rfl ?_
  refine wpAny_bind (wpAny_of_eq (F.bm_bind _) ?_)
  refine wpAny_bind (wpAny_of_eq (a := ()) rfl ?_)
  refine wpAny_bind (wpAny_of_eq (a := ()) rfl ?_)
  refine bm_if_false rfl ?_
  refine wpAny_bind (wpAny_specialOf hT rg_no_bytes ?_)
  refine wpAny_bind (wpAny_bind ?_)
  show wpAny _ _ (load r >>= _) _ _ _
  refine wpAny_bind (wpAny_load hr ?_)
  refine wpAny_pure (wpAny_pure ?_)
  refine bm_if_false rfl ?_
  refine wpAny_bind (wpAny_specialOf hT rg_no_index ?_)
  refine bm_if_true rfl ?_
  first
    | show wpAny _ _ (Builtin.Bytes.buffer? "bytes.__new__" (.ref r) true >>= _) _ _ _
    | (refine wpAny_bind ?_; show wpAny _ _ (Builtin.Bytes.buffer? "bytes.__new__" (.ref r) true >>= _) _ _ _)
  refine wpAny_bind ?_
  unfold Builtin.Bytes.buffer?
  refine wpAny_bind (wpAny_specialOf hT rg_no_buffer ?_)
  refine wpAny_bind (wpAny_specialOf hT rg_no_buffer ?_)
  refine wpAny_pure ?_
  refine wpAny_bind (wpAny_tryCatch (wpAny_pyIter_range hr hsm ?_))
  rw [hn]
  have hr₁ : IsRange (s.heap.push (rgIter 0 n)) r 0 n 1 t u v := Heap.get?_push_of_some _ hr
  refine wpAny_bind (wpAny_holding ?_)
  refine rg_hint (s := { s with heap := s.heap.push (rgIter 0 n) }) hr₁ hn hz ?_
  refine wpAny_bind ?_
  unfold Builtin.Bytes.newBytearray
  refine wpAny_newObj_type ?_ (Nat.zero_le _)
  have hI : ((s.heap.push (rgIter 0 n)).push (rgBytes #[])).get? s.heap.objs.size = some (rgIter ((0 : Nat) : Int) (n : Int)) := Heap.get?_push_of_some _ (Heap.get?_push_size _ rfl)
  have hsz : (s.heap.push (rgIter 0 n)).objs.size = s.heap.objs.size + 1 := Heap.size_push _ _
  have main := rg_loop (prog := prog) (w := w) (A := A) (R := wants Q E) (I := s.heap.objs.size) (S := (s.heap.push (rgIter 0 n)).objs.size) hh (by rw [hsz]; exact Nat.ne_of_lt (Nat.lt_succ_self _))
    n 0 #[] { s with heap := (s.heap.push (rgIter 0 n)).push (rgBytes #[]), toks := s.toks + 1 + 1 } (by omega) rfl hI (Heap.get?_push_size _ rfl)
    fun h' t k hk => hQ h' t k fun b o e => hk b o (Nat.ne_of_lt (Heap.lt_size e)) (by rw [hsz]; exact Nat.ne_of_lt (Nat.lt_succ_of_lt (Heap.lt_size e))) (Heap.get?_push_of_some _ (Heap.get?_push_of_some _ e))
  first
    | exact wpAny_pure ⟨plainId_quiet F.bm_plain_loop _, main⟩
    | exact wpAny_pure (wpAny_pure ⟨plainId_quiet F.bm_plain_loop _, main⟩)
theorem call_bytes_range {r : Addr} {t u v : Tok} {n : Nat} {Q : Value → Shared → Prop} (hr : IsRange s.heap r 0 n 1 t u v) (hsm : Builtin.Range.small 0 n 1 = true) (hn : Builtin.Range.rangeSize 0 n 1 = n) (hz : n ≤ 200) (hh : A.handled = none)
    (hQ : ∀ h' t k, (∀ b o, s.heap.get? b = some o → h'.get? b = some o) → Q (.bytes (bytesFrom 0 n #[]) t) { s with heap := h', toks := k }) : wpAny (model prog w) A (call (.type "bytes") [.ref r]) Q E s := by
  refine callType_codes (Q₁ := fun obj s₁ => s₁.TypeIs obj "bytes" ∧ Q obj s₁) F.bm_called (F.bm_typeCall _) F.entry_object_init
    (rg_new hh hr hsm hn hz fun h' t k hk => ⟨PySem.W.typeIs_bytes _ _ _, hQ h' t k hk⟩) fun obj s₁ h₁ => ?_
  exact ⟨h₁.1, F.args_object_init_2 obj _, object_init_meets F.bm_called.init.lookup F.bm_called.made (by decide) prog w A.in1 _ s₁ ⟨h₁.1, rfl, h₁.2⟩⟩
theorem bytes_five {h₀ : Heap} {L : Addr} {m : Str → Option Value} {news : List (Addr × Obj)} {r : Addr} {t u v : Tok} {Q : Value → Shared → Prop} (F : Fr h₀ L s.heap m) (N : News h₀ L s.heap news) (hr : IsRange s.heap r 0 5 1 t u v) (hh : A.handled = none)
    (hQ : ∀ h' t k, Fr h₀ L h' m → News h₀ L h' news → Q (.bytes #[0, 1, 2, 3, 4] t) { s with heap := h', toks := k }) : wpAny (model prog w) A (call (.type "bytes") [.ref r]) Q E s :=
  call_bytes_range (n := 5) hr (by decide) (by decide) (by decide) hh fun h' t k hk => hQ h' t k (F.keeps hk) (fun p hp => ⟨hk _ _ (N p hp).1, (N p hp).2⟩)
end
end Mine
end
section
open PySem PySem.W PyProof.Rows PySem.Spec PySem.Calls
set_option maxRecDepth 100000
namespace Mine
section
variable {prog : Program} {w : World} {A : Around} {E : Value → Shared → Prop} {s : Shared} {value slice : Expr} {h₀ : Heap} {L : Addr} {m : Str → Option Value} {news : List (Addr × Obj)} {Q : Value → Shared → Prop} {a b c d e : UInt8} {t ui u : Tok}
theorem byte0 (k : Int) (e' : (a.toNat : Int) = k) (h : Q (.int k s.toks) { s with toks := s.toks + 1 })
    (hs : subscripted slice false (.bytes #[a, b, c, d, e] t) (.int 0 ui) = operate [.bytes #[a, b, c, d, e] t, .int 0 ui] (getItem (.bytes #[a, b, c, d, e] t) (.int 0 ui)) := by with_unfolding_all rfl)
    (ht : ∀ r, letTemporaryGo value (.bytes #[a, b, c, d, e] t) r = pure () := by intro _; with_unfolding_all rfl) : wpAny (model prog w) A (subscriptTail value slice (.bytes #[a, b, c, d, e] t) (.int 0 ui)) Q E s :=
  bytes_item_K (x := [a, b, c, d, e]) (by show 5 ≤ 1099511627776; decide) (by decide) (by show (0 : Int) < ((5 : Nat) : Int); decide) e' h hs ht
theorem letter (k : Int) (x : Str) (h0 : 0 ≤ k) (h1 : k < 5) (hx : Txt.item (Str.ofString "abcde") k = x) (h : Q (.str x s.toks) { s with toks := s.toks + 1 })
    (hs : subscripted slice false (.str (Str.ofString "abcde") t) (.int k u) = operate [.str (Str.ofString "abcde") t, .int k u] (getItem (.str (Str.ofString "abcde") t) (.int k u)) := by with_unfolding_all rfl)
    (ht : ∀ r, letTemporaryGo value (.str (Str.ofString "abcde") t) r = pure () := by intro _; with_unfolding_all rfl) :
    wpAny (model prog w) A (subscriptTail value slice (.str (Str.ofString "abcde") t) (.int k u)) Q E s := by
  have e5 : (Str.ofString "abcde").length = 5 := by decide
  subst hx
  exact item_str (fitsSsize_of (N := 9223372036854775808) (by omega) (by omega) (Int.le_refl _)) (by omega) (by omega) (fun _ => h) hs ht
theorem join5 (h : ∀ t' k, Q (.bytes #[a, b, c, d, e] t') { s with toks := k }) : wpAny (model prog w) A (binaryOp .Add (.bytes #[a, b, c, d] t) (.bytes #[e] u)) Q E s :=
  KBy.add_bytes (by show 4 + 1 ≤ 16777216; decide) h
theorem cut4 (hF : Fr h₀ L s.heap m) (hN : News h₀ L s.heap news)
    (h : ∀ h' t' k, Fr h₀ L h' m → News h₀ L h' news → Q (.bytes #[a, b, c, d] t') { s with heap := h', toks := k })
    (hs : subscripted slice false (.bytes #[a, b, c, d, e] t) (.ref s.heap.objs.size) = operate [.ref s.heap.objs.size, .bytes #[a, b, c, d, e] t] (getItem (.bytes #[a, b, c, d, e] t) (.ref s.heap.objs.size)) := by with_unfolding_all rfl)
    (ht : ∀ r, letTemporaryGo value (.bytes #[a, b, c, d, e] t) r = pure () := by intro _; with_unfolding_all rfl) :
    wpAny (model prog w) A (subscriptTail value slice (.bytes #[a, b, c, d, e] t) (.ref s.heap.objs.size)) Q E { s with heap := s.heap.push { cls := .type "slice", data := .fields #[.none, .int 4 u, .none] } } :=
  KBy.slice_N (lo := none) (hi := some 4) hF hN (by constructor) (by constructor) (by rfl) (by show (KBy.picked #[a, b, c, d, e] none (some 4)).size ≤ _; rw [show KBy.picked #[a, b, c, d, e] none (some 4) = #[a, b, c, d] from rfl]; show 4 ≤ 16777216; decide)
    (fun h' t' k F N => by rw [show KBy.picked #[a, b, c, d, e] none (some 4) = #[a, b, c, d] from rfl]; exact h h' t' k F N) hs ht
theorem picked1 {a b c d e : UInt8} : KBy.picked #[a, b, c, d, e] (some 4) none = #[e] := by
  have h1 : sliceBounds (some 4) none none 5 = (4, 5, 1) := by decide +kernel
  have h2 : sliceRange 4 5 1 = [4] := by decide +kernel
  unfold KBy.picked
  show Builtin.Bytes.sliced #[a, b, c, d, e] (sliceBounds (some 4) none none 5).1 (sliceBounds (some 4) none none 5).2.1 (sliceBounds (some 4) none none 5).2.2 = _
  rw [h1]
  unfold Builtin.Bytes.sliced
  rw [h2]
  rfl
theorem cut1 (hF : Fr h₀ L s.heap m) (hN : News h₀ L s.heap news)
    (h : ∀ h' t' k, Fr h₀ L h' m → News h₀ L h' news → Q (.bytes #[e] t') { s with heap := h', toks := k })
    (hs : subscripted slice false (.bytes #[a, b, c, d, e] t) (.ref s.heap.objs.size) = operate [.ref s.heap.objs.size, .bytes #[a, b, c, d, e] t] (getItem (.bytes #[a, b, c, d, e] t) (.ref s.heap.objs.size)) := by with_unfolding_all rfl)
    (ht : ∀ r, letTemporaryGo value (.bytes #[a, b, c, d, e] t) r = pure () := by intro _; with_unfolding_all rfl) :
    wpAny (model prog w) A (subscriptTail value slice (.bytes #[a, b, c, d, e] t) (.ref s.heap.objs.size)) Q E { s with heap := s.heap.push { cls := .type "slice", data := .fields #[.int 4 u, .none, .none] } } :=
  KBy.slice_N (lo := some 4) (hi := none) hF hN (by constructor) (by constructor) (by rfl) (by show (KBy.picked #[a, b, c, d, e] (some 4) none).size ≤ _; rw [picked1]; show 1 ≤ 16777216; decide)
    (fun h' t' k F N => by rw [picked1]; exact h h' t' k F N) hs ht
end
end Mine
end
section
open PySem PySem.W PyProof.Rows PySem.Spec PySem.Calls
namespace Mine
theorem one_low (x : Int) : 0 ≤ one x ∧ one x ≤ 1 := by
  unfold one
  split <;> omega
theorem above_low (a b c d e : Int) : 0 ≤ aboveF a b c d e := by
  have h1 := one_low a
  have h2 := one_low (a + b)
  have h3 := one_low (a + b + c)
  have h4 := one_low (a + b + c + d)
  have h5 := one_low (a + b + c + d + e)
  unfold aboveF
  omega
theorem above_high (a b c d e : Int) : aboveF a b c d e ≤ 6 := by
  have h1 := one_low a
  have h2 := one_low (a + b)
  have h3 := one_low (a + b + c)
  have h4 := one_low (a + b + c + d)
  have h5 := one_low (a + b + c + d + e)
  unfold aboveF
  omega
theorem above_K {w : World} {p : Program} {loose : List Str} {mean : ExcName → Option Value} {mg mb : Str → Option Value}
    {o0 o1 o2 o3 o4 : UInt8} {y0 y1 y2 y3 y4 k0 k1 k2 k3 k4 : Int} {t0 t1 t2 t3 t4 u0 u1 u2 u3 u4 tb : Tok} {reps clks : Array Value} {R C : Addr} {cR cC : Nat} {news : List (Addr × Obj)} (mR : (R, listOf reps cR) ∈ news) (mC : (C, listOf clks cC) ∈ news)
    (r0 : reps[o0.toNat]? = some (.bytes (replyB y0 k0) t0)) (r1 : reps[o1.toNat]? = some (.bytes (replyB y1 k1) t1)) (r2 : reps[o2.toNat]? = some (.bytes (replyB y2 k2) t2)) (r3 : reps[o3.toNat]? = some (.bytes (replyB y3 k3) t3)) (r4 : reps[o4.toNat]? = some (.bytes (replyB y4 k4) t4))
    (q0 : clks[o0.toNat]? = some (.int (3600 * y0) u0)) (q1 : clks[o1.toNat]? = some (.int (3600 * y1) u1)) (q2 : clks[o2.toNat]? = some (.int (3600 * y2) u2)) (q3 : clks[o3.toNat]? = some (.int (3600 * y3) u3)) (q4 : clks[o4.toNat]? = some (.int (3600 * y4) u4))
    (b0 : -11 ≤ y0) (c0 : y0 ≤ 13) (b1 : -11 ≤ y1) (c1 : y1 ≤ 13) (b2 : -11 ≤ y2) (c2 : y2 ≤ 13) (b3 : -11 ≤ y3) (c3 : y3 ≤ 13) (b4 : -11 ≤ y4) (c4 : y4 ≤ 13)
    (d0 : 0 ≤ k0) (e0 : k0 < 4) (d1 : 0 ≤ k1) (e1 : k1 < 4) (d2 : 0 ≤ k2) (e2 : k2 < 4) (d3 : 0 ≤ k3) (e3 : k3 < 4) (d4 : 0 ≤ k4) (e4 : k4 < 4) :
    DeepClaim PySem.Challenge.rw_zn0002_01.row.prog w (hd.heap_39 w.params) p loose mean mg mb 110 news [.bytes #[o0, o1, o2, o3, o4] tb, .ref R, .ref C] (fun t => .int (aboveF y0 y1 y2 y3 y4) t) :=
  above_sum o0 o1 o2 o3 o4 y0 y1 y2 y3 y4 k0 k1 k2 k3 k4 t0 t1 t2 t3 t4 u0 u1 u2 u3 u4 tb reps clks R C cR cC b0 c0 b1 c1 b2 c2 b3 c3 b4 c4 d0 e0 d1 e1 d2 e2 d3 e3 d4 e4 r0 r1 r2 r3 r4 q0 q1 q2 q3 q4 news mR mC
theorem above_W {w : World} {p : Program} {loose : List Str} {mean : ExcName → Option Value} {mg mb : Str → Option Value}
    {o0 o1 o2 o3 o4 : UInt8} {y0 y1 y2 y3 y4 k0 k1 k2 k3 k4 : Int} {t0 t1 t2 t3 t4 u0 u1 u2 u3 u4 tb : Tok} {reps clks : Array Value} {R C : Addr} {cR cC : Nat} {news : List (Addr × Obj)}
    {dp un : Nat} {gd : Option (List Code)} {cn : Str} {cs : Scope} {a : Addr} {ccd : Value} {cl : List (Str × Addr)} {outer : List Env} {A₀ : Around} {base h₀ : Heap} {L : Addr} {m : Str → Option Value} {s : Shared} {Q E : Value → Shared → Prop}
    (F : Fr h₀ L s.heap m) (N : News h₀ L s.heap news) (mR : (R, listOf reps cR) ∈ news) (mC : (C, listOf clks cC) ∈ news)
    (r0 : reps[o0.toNat]? = some (.bytes (replyB y0 k0) t0)) (r1 : reps[o1.toNat]? = some (.bytes (replyB y1 k1) t1)) (r2 : reps[o2.toNat]? = some (.bytes (replyB y2 k2) t2)) (r3 : reps[o3.toNat]? = some (.bytes (replyB y3 k3) t3)) (r4 : reps[o4.toNat]? = some (.bytes (replyB y4 k4) t4))
    (q0 : clks[o0.toNat]? = some (.int (3600 * y0) u0)) (q1 : clks[o1.toNat]? = some (.int (3600 * y1) u1)) (q2 : clks[o2.toNat]? = some (.int (3600 * y2) u2)) (q3 : clks[o3.toNat]? = some (.int (3600 * y3) u3)) (q4 : clks[o4.toNat]? = some (.int (3600 * y4) u4))
    (b0 : -11 ≤ y0) (c0 : y0 ≤ 13) (b1 : -11 ≤ y1) (c1 : y1 ≤ 13) (b2 : -11 ≤ y2) (c2 : y2 ≤ 13) (b3 : -11 ≤ y3) (c3 : y3 ≤ 13) (b4 : -11 ≤ y4) (c4 : y4 ≤ 13)
    (d0 : 0 ≤ k0) (e0 : k0 < 4) (d1 : 0 ≤ k1) (e1 : k1 < 4) (d2 : 0 ≤ k2) (e2 : k2 < 4) (d3 : 0 ≤ k3) (e3 : k3 < 4) (d4 : 0 ≤ k4) (e4 : k4 < 4)
    (B : Below A₀ base outer h₀) (X : (hd.heap_39 w.params).In h₀) (T : Top p loose mean mg mb h₀) (hk : cs.kind = .function) (rm : dp + 3 < recursionLimit) (ru : un + 24 < cLine)
    (hret : ∀ (t : Tok) (h' : Heap) (tk' : Nat), Fr h₀ L h' m → News h₀ L h' news → Q (.int (aboveF y0 y1 y2 y3 y4) t) { s with heap := h', toks := tk' }) :
    wpAny (model PySem.Challenge.rw_zn0002_01.row.prog w) (ktrTop dp un gd cn cs L a ccd cl outer) (call (.ref 110) [.bytes #[o0, o1, o2, o3, o4] tb, .ref R, .ref C]) Q E s :=
  above_K mR mC r0 r1 r2 r3 r4 q0 q1 q2 q3 q4 b0 c0 b1 c1 b2 c2 b3 c3 b4 c4 d0 e0 d1 e1 d2 e2 d3 e3 d4 e4 dp un gd cn cs a ccd cl outer A₀ base h₀ L m s Q E B F X N T hk rm ru hret
end Mine
end
section
open PySem PySem.W PyProof.Rows PySem.Spec PySem.Calls
open Sem (wp)
set_option maxRecDepth 100000
namespace Mine
abbrev atOnce (r : Result) : Sem Fin := match r with | .ok f => pure (.done f) | .error e => .raise e
theorem post_point {M : Model} {s₁ s' : Shared} {cw : ClaimW} {cl : Str → Option Addr} {mean : ExcName → Option Value} {args : List WData} {tabs : List (Addr × Addr)} (hT : TabsAt tabs s₁.heap) (hr : ∀ a x, cw.raises a x = false) {r : Result}
    (H : GoodW cw cl mean args { s₁ with heap := ghostOf s₁.heap tabs } r s' ∧ GrownAll tabs s'.heap) : GoodWG cw cl mean args s₁ r s' := by
  have k : codeAny { M with den := fun _ => atOnce r } callerA (.builtin "claim.caller" {}) (GoodWG cw cl mean args s₁) s' := by
    refine kn_post hT hr fun Γ p hc hΓ => ?_
    rw [wpCode_iff_wp]
    cases r with
    | ok f => exact H
    | error e =>
      show Sem.wp _ _ (.raise e) _ _ _ _
      rw [Sem.wp_raise]
      exact H
  have hB := caller_in.enter (.builtin "claim.caller" {}) none default (by intro x; cases x)
  have z := k _ default rfl hB
  rw [wpCode_iff_wp] at z
  cases r with
  | ok f => exact z
  | error e =>
    have z' : Sem.wp _ _ (.raise e) _ _ _ _ := z
    rw [Sem.wp_raise] at z'
    exact z'
theorem calm_post {M : Model} {A : Around} {cd : Code} {s s₁ : Shared} {cw : ClaimW} {cl : Str → Option Addr} {mean : ExcName → Option Value} {args : List WData} {tabs : List (Addr × Addr)} (hT : TabsAt tabs s₁.heap) (hr : ∀ a x, cw.raises a x = false)
    (h : calmCode M A cd (fun r s' => GoodW cw cl mean args { s₁ with heap := ghostOf s₁.heap tabs } r s' ∧ GrownAll tabs s'.heap) s) : calmCode M A cd (GoodWG cw cl mean args s₁) s :=
  calmCode_mono h fun r s' H => post_point (M := M) hT hr H
theorem calm_cellsN {prog : Program} {w : World} {A : Around} {R : Result → Shared → Prop} {s : Shared} {name : Str} {params : Arguments} {body : List Stmt} {scope : Scope}
    {pm cd doc : Value} {a : Addr} {o : Obj} {args : List Value} {binds : List (Str × Value)}
    (hroom : A.depth < recursionLimit) (ho : s.heap.get? a = some o) (hdata : o.data = .func (Calls.docDef name params body scope pm cd doc)) (hlim : s.heap.NoLimit) (hcd : s.heap.CodeRec cd name)
    (hbind : bindArgs (Calls.docDef name params body scope pm cd doc) ⟨args, []⟩ = pure binds)
    (hkind : ∀ x ∈ binds, scope.names.lookup x.1 = some .local ∨ (scope.names.lookup x.1 = some .cell ∧ ((cellsFrom (s.heap.objs.size + 1) scope.names []).lookup x.1).isSome = true))
    (hnd : ((cellsFrom 0 scope.names []).map (·.1)).Nodup)
    (h : ∀ h₁ tk cells, Fr s.heap s.heap.objs.size h₁ (bindL (envOfC name scope s.heap.objs.size a cd).kindOf binds fun _ => none) → News s.heap s.heap.objs.size h₁ cells →
      CellsAre (bindC (envOfC name scope s.heap.objs.size a cd).kindOf binds fun _ => none) (cellsFrom (s.heap.objs.size + 1) scope.names []) cells →
      calmTree (model prog w) (A.deeper (envOfC name scope s.heap.objs.size a cd)) (execs body (envOfC name scope s.heap.objs.size a cd))
        (fun f s' => R (.ok (.ret (match f with | .ret v => v | _ => .none))) s') Nope
        { s with heap := h₁, toks := tk })
    (hco : scope.isCoroutine = false := by rfl) (hgen : scope.isGenerator = false := by rfl) (hk : scope.kind = .function := by rfl) :
    calmCode (model prog w) A (.call (.ref a) ⟨args, []⟩) R s := by
  refine calmCode_call_function hroom ho hdata hco hgen rfl hcd (wpAny_of_eq hbind ?_)
  refine wpAny_newFunctionEnv_cells hk hkind fun env' he s' x => ?_
  subst he
  refine ⟨hlim.keeps x.toInCall.keep, calmCode_func ?_⟩
  obtain ⟨h₁, tk, rfl, _⟩ := x.done
  obtain ⟨cells, N, Y⟩ := Cl.news (h₀ := s.heap) (Nat.le_refl _) fun n c hm => ⟨x.cell n c (lookup_of_mem_nodup (cellsFrom_names scope.names 0 (s.heap.objs.size + 1) [] [] rfl ▸ hnd) hm), x.above n c hm⟩
  exact calm_mono (h h₁ tk cells ⟨x.toInCall.ns, x.toInCall.keep, x.toInCall.fresh⟩ N Y) (fun _ _ y => y) fun _ _ y => y.elim
end Mine
end
section
open PySem PySem.W PyProof.Rows PySem.Spec PySem.Calls
namespace Mine
theorem fmod_low (a : Int) {b : Int} (h : 0 < b) : 0 ≤ a.fmod b := Int.fmod_nonneg_of_pos a h
theorem fmod_high (a : Int) {b : Int} (h : 0 < b) : a.fmod b < b := Int.fmod_lt_of_pos a h
section
variable {prog : Program} {w : World} {A : Around} {E : Value → Shared → Prop} {s : Shared}
theorem sub5_0 {l : Addr} {a b c d e : Value} {k : Int} {t : Tok} {value slice : Expr} {Q : Value → Shared → Prop} (hl : s.heap.IsList l #[a, b, c, d, e]) (hk : k = 0) (h : Q a s)
    (hs : subscripted slice false (.ref l) (.int k t) = operate [.ref l, .int k t] (getItem (.ref l) (.int k t)) := by with_unfolding_all rfl) (ht : ∀ r, letTemporaryGo value (.ref l) r = pure () := by intro _; with_unfolding_all rfl) :
    wpAny (model prog w) A (subscriptTail value slice (.ref l) (.int k t)) Q E s := by
  subst hk
  exact sub_int hl (by decide) (by decide) rfl h hs ht
theorem sub5_1 {l : Addr} {a b c d e : Value} {k : Int} {t : Tok} {value slice : Expr} {Q : Value → Shared → Prop} (hl : s.heap.IsList l #[a, b, c, d, e]) (hk : k = 1) (h : Q b s)
    (hs : subscripted slice false (.ref l) (.int k t) = operate [.ref l, .int k t] (getItem (.ref l) (.int k t)) := by with_unfolding_all rfl) (ht : ∀ r, letTemporaryGo value (.ref l) r = pure () := by intro _; with_unfolding_all rfl) :
    wpAny (model prog w) A (subscriptTail value slice (.ref l) (.int k t)) Q E s := by
  subst hk
  exact sub_int hl (by decide) (by decide) rfl h hs ht
theorem sub5_2 {l : Addr} {a b c d e : Value} {k : Int} {t : Tok} {value slice : Expr} {Q : Value → Shared → Prop} (hl : s.heap.IsList l #[a, b, c, d, e]) (hk : k = 2) (h : Q c s)
    (hs : subscripted slice false (.ref l) (.int k t) = operate [.ref l, .int k t] (getItem (.ref l) (.int k t)) := by with_unfolding_all rfl) (ht : ∀ r, letTemporaryGo value (.ref l) r = pure () := by intro _; with_unfolding_all rfl) :
    wpAny (model prog w) A (subscriptTail value slice (.ref l) (.int k t)) Q E s := by
  subst hk
  exact sub_int hl (by decide) (by decide) rfl h hs ht
theorem sub5_3 {l : Addr} {a b c d e : Value} {k : Int} {t : Tok} {value slice : Expr} {Q : Value → Shared → Prop} (hl : s.heap.IsList l #[a, b, c, d, e]) (hk : k = 3) (h : Q d s)
    (hs : subscripted slice false (.ref l) (.int k t) = operate [.ref l, .int k t] (getItem (.ref l) (.int k t)) := by with_unfolding_all rfl) (ht : ∀ r, letTemporaryGo value (.ref l) r = pure () := by intro _; with_unfolding_all rfl) :
    wpAny (model prog w) A (subscriptTail value slice (.ref l) (.int k t)) Q E s := by
  subst hk
  exact sub_int hl (by decide) (by decide) rfl h hs ht
theorem sub5_4 {l : Addr} {a b c d e : Value} {k : Int} {t : Tok} {value slice : Expr} {Q : Value → Shared → Prop} (hl : s.heap.IsList l #[a, b, c, d, e]) (hk : k = 4) (h : Q e s)
    (hs : subscripted slice false (.ref l) (.int k t) = operate [.ref l, .int k t] (getItem (.ref l) (.int k t)) := by with_unfolding_all rfl) (ht : ∀ r, letTemporaryGo value (.ref l) r = pure () := by intro _; with_unfolding_all rfl) :
    wpAny (model prog w) A (subscriptTail value slice (.ref l) (.int k t)) Q E s := by
  subst hk
  exact sub_int hl (by decide) (by decide) rfl h hs ht
end
theorem compEnd_tail1 {h₀ : Heap} {L I C D : Addr} {m : Str → Option Value} {s₁ : Shared} {oI oC oD : Obj} {S : List (Addr × Obj) → Prop} {rest : Value → List (Addr × Obj) → Prop} {y : Value} {h' : Heap} {tk : Nat} {x : Addr × Obj} {news' : List (Addr × Obj)}
    (F : Fr h₀ L h' m) (N : News h₀ L h' (x :: (I, oI) :: (C, oC) :: (D, oD) :: news')) (off : LCg.Off3 I C D news') (hS : S news') (r : rest y news') :
    LCg.CompEnd h₀ L m s₁ I oI C oC D oD S rest y { s₁ with heap := h', toks := tk } := LCg.CompEnd.intro F N news' (fun _ h => .tail _ h) off hS r
theorem fn_there {h₀ h : Heap} {L a : Addr} {m : Str → Option Value} {K : Frag} {o : Obj} {fd : FuncData} (F : Fr h₀ L h m) (X : K.In h₀) (ho : K.lookup a = some o) (hd : o.data = .func fd) : ∃ o fd, h.get? a = some o ∧ o.data = .func fd :=
  ⟨o, fd, F.keep _ _ (X _ _ ho), hd⟩
end Mine
end
section
open PySem PySem.W PyProof.Rows PySem.Spec PySem.Calls
set_option maxRecDepth 100000
namespace Mine
def runT {α : Type} (lt : Nat → Nat → Bool) : KasT α → α
  | .ret a => a
  | .ask i j k => runT lt (k (lt i j))
def okT {α : Type} (n : Nat) : KasT α → Bool
  | .ret _ => true
  | .ask i j k => decide (i < n) && decide (j < n) && okT n (k true) && okT n (k false)
theorem okT_ask {α : Type} {n i j : Nat} {k : Bool → KasT α} (h : okT n (.ask i j k) = true) : i < n ∧ j < n ∧ ∀ b, okT n (k b) = true := by
  simp only [okT, Bool.and_eq_true, decide_eq_true_eq] at h
  exact ⟨h.1.1.1, h.1.1.2, fun b => by cases b <;> simp [h]⟩
theorem runT_wp {α : Type} {n : Nat} {cmp : Nat → Nat → (Bool → Shared → Prop) → Shared → Prop} {lt : Nat → Nat → Bool} {Q : α → Shared → Prop} (hc : ∀ i j (C : Bool → Shared → Prop) s, i < n → j < n → C (lt i j) s → cmp i j C s) :
    ∀ (t : KasT α) (s : Shared), okT n t = true → Q (runT lt t) s → t.kasWp cmp Q s
  | .ret a, s, _, h => h
  | .ask i j k, s, ho, h => by
    obtain ⟨hi, hj, hk⟩ := okT_ask ho
    exact hc i j _ s hi hj (runT_wp hc (k (lt i j)) s (hk _) h)
theorem runT_congr {α : Type} {n : Nat} {lt lt' : Nat → Nat → Bool} (e : ∀ i j, i < n → j < n → lt i j = lt' i j) : ∀ t : KasT α, okT n t = true → runT lt t = runT lt' t
  | .ret a, _ => rfl
  | .ask i j k, ho => by
    obtain ⟨hi, hj, hk⟩ := okT_ask ho
    show runT lt (k (lt i j)) = runT lt' (k (lt' i j))
    rw [e i j hi hj]
    exact runT_congr e _ (hk _)
theorem ok5 : okT 5 (kas_sort 5) = true := by decide +kernel
def dig (f i : Nat) : Nat := f / 5 ^ i % 5
def b2n (b : Bool) : Nat := if b then 1 else 0
def condG (le lt : Nat → Nat → Bool) (k i : Nat) : Bool := if i < k then le i k else (decide (k < i) && lt i k)
/-- the place of k, counted from 1, in the stable order -/
def plG (le lt : Nat → Nat → Bool) (k : Nat) : Nat := 1 + (b2n (condG le lt k 0) + b2n (condG le lt k 1) + b2n (condG le lt k 2) + b2n (condG le lt k 3) + b2n (condG le lt k 4))
theorem plG_congr {le lt le' lt' : Nat → Nat → Bool} (e1 : ∀ i j, i < 5 → j < 5 → le i j = le' i j) (e2 : ∀ i j, i < 5 → j < 5 → lt i j = lt' i j) {k : Nat} (hk : k < 5) : plG le lt k = plG le' lt' k := by
  unfold plG condG
  rw [e1 0 k (by decide) hk, e1 1 k (by decide) hk, e1 2 k (by decide) hk, e1 3 k (by decide) hk, e1 4 k (by decide) hk, e2 0 k (by decide) hk, e2 1 k (by decide) hk, e2 2 k (by decide) hk, e2 3 k (by decide) hk, e2 4 k (by decide) hk]
def validN (f : Nat) : Bool := [0, 1, 2, 3, 4].all fun i => dig f i == b2n (decide (dig f 0 < dig f i)) + b2n (decide (dig f 1 < dig f i)) + b2n (decide (dig f 2 < dig f i)) + b2n (decide (dig f 3 < dig f i)) + b2n (decide (dig f 4 < dig f i))
def goodN (lt : Nat → Nat → Bool) (le : Nat → Nat → Bool) : Bool :=
  let ns := (runT lt (kas_sort 5)).toList
  ns.length == 5 && ns.all (fun n => decide (n < 5)) && [0, 1, 2, 3, 4].all fun k => ns.idxOf k + 1 == plG le lt k
def chk (f : Nat) : Bool := !validN f || goodN (fun i j => decide (dig f i < dig f j)) fun i j => decide (dig f i ≤ dig f j)
set_option maxHeartbeats 4000000 in
theorem chk0 : ∀ f : Fin 1000, chk f.val = true := by decide +kernel
set_option maxHeartbeats 4000000 in
theorem chk1 : ∀ f : Fin 1000, chk (f.val + 1000) = true := by decide +kernel
set_option maxHeartbeats 4000000 in
theorem chk2 : ∀ f : Fin 1125, chk (f.val + 2000) = true := by decide +kernel
theorem chk_all {f : Nat} (h : f < 3125) : chk f = true := by
  by_cases h0 : f < 1000
  · exact chk0 ⟨f, h0⟩
  · by_cases h1 : f < 2000
    · have := chk1 ⟨f - 1000, by omega⟩
      rwa [show (⟨f - 1000, by omega⟩ : Fin 1000).val + 1000 = f by show f - 1000 + 1000 = f; omega] at this
    · have := chk2 ⟨f - 2000, by omega⟩
      rwa [show (⟨f - 2000, by omega⟩ : Fin 1125).val + 2000 = f by show f - 2000 + 2000 = f; omega] at this
def bb (x a : Int) : Nat := b2n (decide (x < a))
theorem bb_mono {x a b : Int} (h : a ≤ b) : bb x a ≤ bb x b := by
  unfold bb b2n
  by_cases h1 : x < a <;> by_cases h2 : x < b <;> simp [h1, h2] <;> omega
theorem bb_self (a : Int) : bb a a = 0 := by simp [bb, b2n]
theorem bb_lt {a b : Int} (h : a < b) : bb a b = 1 := by simp [bb, b2n, h]
theorem bb_le (x a : Int) : bb x a ≤ 1 := by
  unfold bb b2n
  split <;> omega
def cc (key : Nat → Int) (a : Int) : Nat := bb (key 0) a + bb (key 1) a + bb (key 2) a + bb (key 3) a + bb (key 4) a
theorem cc_mono (key : Nat → Int) {a b : Int} (h : a ≤ b) : cc key a ≤ cc key b := by
  have h0 := bb_mono (x := key 0) h
  have h1 := bb_mono (x := key 1) h
  have h2 := bb_mono (x := key 2) h
  have h3 := bb_mono (x := key 3) h
  have h4 := bb_mono (x := key 4) h
  unfold cc
  omega
theorem cc_lt (key : Nat → Int) {i : Nat} (hi : i < 5) {b : Int} (h : key i < b) : cc key (key i) < cc key b := by
  have m : key i ≤ b := Int.le_of_lt h
  have h0 := bb_mono (x := key 0) m
  have h1 := bb_mono (x := key 1) m
  have h2 := bb_mono (x := key 2) m
  have h3 := bb_mono (x := key 3) m
  have h4 := bb_mono (x := key 4) m
  have e1 := bb_self (key i)
  have e2 := bb_lt h
  match i, hi with
  | 0, _ => unfold cc; omega
  | 1, _ => unfold cc; omega
  | 2, _ => unfold cc; omega
  | 3, _ => unfold cc; omega
  | 4, _ => unfold cc; omega
theorem cc_lt5 (key : Nat → Int) {i : Nat} (hi : i < 5) : cc key (key i) < 5 := by
  have h0 := bb_le (key 0) (key i)
  have h1 := bb_le (key 1) (key i)
  have h2 := bb_le (key 2) (key i)
  have h3 := bb_le (key 3) (key i)
  have h4 := bb_le (key 4) (key i)
  have e1 := bb_self (key i)
  match i, hi with
  | 0, _ => unfold cc; omega
  | 1, _ => unfold cc; omega
  | 2, _ => unfold cc; omega
  | 3, _ => unfold cc; omega
  | 4, _ => unfold cc; omega
theorem cc_iff (key : Nat → Int) {i j : Nat} (hi : i < 5) : key i < key j ↔ cc key (key i) < cc key (key j) := by
  constructor
  · exact cc_lt key hi
  · intro h
    by_cases q : key i < key j
    · exact q
    · have := cc_mono key (a := key j) (b := key i) (by omega)
      omega
def codeF (key : Nat → Int) : Nat := cc key (key 0) + 5 * cc key (key 1) + 25 * cc key (key 2) + 125 * cc key (key 3) + 625 * cc key (key 4)
theorem dig_code (key : Nat → Int) {i : Nat} (hi : i < 5) : dig (codeF key) i = cc key (key i) := by
  have h0 := cc_lt5 key (i := 0) (by decide)
  have h1 := cc_lt5 key (i := 1) (by decide)
  have h2 := cc_lt5 key (i := 2) (by decide)
  have h3 := cc_lt5 key (i := 3) (by decide)
  have h4 := cc_lt5 key (i := 4) (by decide)
  match i, hi with
  | 0, _ => show codeF key / 1 % 5 = _; unfold codeF; omega
  | 1, _ => show codeF key / 5 % 5 = _; unfold codeF; omega
  | 2, _ => show codeF key / 25 % 5 = _; unfold codeF; omega
  | 3, _ => show codeF key / 125 % 5 = _; unfold codeF; omega
  | 4, _ => show codeF key / 625 % 5 = _; unfold codeF; omega
theorem code_small (key : Nat → Int) : codeF key < 3125 := by
  have h0 := cc_lt5 key (i := 0) (by decide)
  have h1 := cc_lt5 key (i := 1) (by decide)
  have h2 := cc_lt5 key (i := 2) (by decide)
  have h3 := cc_lt5 key (i := 3) (by decide)
  have h4 := cc_lt5 key (i := 4) (by decide)
  unfold codeF
  omega
theorem lt_code (key : Nat → Int) {i j : Nat} (hi : i < 5) (hj : j < 5) : decide (dig (codeF key) i < dig (codeF key) j) = decide (key i < key j) := by
  rw [dig_code key hi, dig_code key hj]
  exact (decide_eq_decide.mpr (cc_iff key hi)).symm
theorem le_code (key : Nat → Int) {i j : Nat} (hi : i < 5) (hj : j < 5) : decide (dig (codeF key) i ≤ dig (codeF key) j) = decide (key i ≤ key j) := by
  rw [dig_code key hi, dig_code key hj]
  refine decide_eq_decide.mpr ?_
  have := cc_iff key (i := j) (j := i) hj
  omega
theorem valid_code (key : Nat → Int) : validN (codeF key) = true := by
  have all : ∀ i, i < 5 → (dig (codeF key) i == b2n (decide (dig (codeF key) 0 < dig (codeF key) i)) + b2n (decide (dig (codeF key) 1 < dig (codeF key) i)) + b2n (decide (dig (codeF key) 2 < dig (codeF key) i)) + b2n (decide (dig (codeF key) 3 < dig (codeF key) i)) + b2n (decide (dig (codeF key) 4 < dig (codeF key) i))) = true := by
    intro i hi
    rw [lt_code key (by decide) hi, lt_code key (by decide) hi, lt_code key (by decide) hi, lt_code key (by decide) hi, lt_code key (by decide) hi, dig_code key hi]
    exact beq_iff_eq.mpr rfl
  unfold validN
  simp only [List.all_cons, List.all_nil, Bool.and_true, Bool.and_eq_true]
  exact ⟨all 0 (by decide), all 1 (by decide), all 2 (by decide), all 3 (by decide), all 4 (by decide)⟩
theorem sort5 (key : Nat → Int) : let ns := (runT (fun i j => decide (key i < key j)) (kas_sort 5)).toList
    ns.length = 5 ∧ (∀ n ∈ ns, n < 5) ∧ ∀ k, k < 5 → ns.idxOf k + 1 = plG (fun i j => decide (key i ≤ key j)) (fun i j => decide (key i < key j)) k := by
  have h := chk_all (code_small key)
  unfold chk at h
  rw [valid_code key, Bool.not_true, Bool.false_or] at h
  unfold goodN at h
  rw [runT_congr (n := 5) (fun i j hi hj => lt_code key hi hj) _ ok5] at h
  simp only [Bool.and_eq_true, beq_iff_eq, List.all_eq_true, decide_eq_true_eq] at h
  refine ⟨h.1.1, h.1.2, fun k hk => ?_⟩
  have hm : k ∈ [0, 1, 2, 3, 4] := by
    match k, hk with
    | 0, _ => decide
    | 1, _ => decide
    | 2, _ => decide
    | 3, _ => decide
    | 4, _ => decide
  rw [h.2 k hm]
  exact plG_congr (fun i j hi hj => le_code key hi hj) (fun i j hi hj => lt_code key hi hj) hk
end Mine
end
section
open PySem PySem.W PyProof.Rows PySem.Spec PySem.Calls
set_option maxRecDepth 100000
namespace Mine
theorem ItemsOf.five {a : Int} {acc : Array Value} (h : ItemsOf (fun i v => ∃ t, v = Value.int (a + i * 1) t) acc 5) : ∃ t0 t1 t2 t3 t4 : Tok, acc = #[.int (a + 0) t0, .int (a + 1) t1, .int (a + 2) t2, .int (a + 3) t3, .int (a + 4) t4] := by
  obtain ⟨hs, hg⟩ := h
  obtain ⟨l⟩ := acc
  simp only [List.size_toArray] at hs
  match l, hs with
  | [v0, v1, v2, v3, v4], _ =>
    obtain ⟨t0, e0⟩ := hg 0 v0 rfl
    obtain ⟨t1, e1⟩ := hg 1 v1 rfl
    obtain ⟨t2, e2⟩ := hg 2 v2 rfl
    obtain ⟨t3, e3⟩ := hg 3 v3 rfl
    obtain ⟨t4, e4⟩ := hg 4 v4 rfl
    refine ⟨t0, t1, t2, t3, t4, ?_⟩
    rw [e0, e1, e2, e3, e4]
    simp
section
variable {prog : Program} {w : World} {A : Around} {E : Value → Shared → Prop} {s : Shared} {h₀ : Heap} {L : Addr} {m : Str → Option Value} {news : List (Addr × Obj)}
def afterAll (v : Value) : Sem (List Value) :=
  match v with
  | .ref a => do
    let o ← load a
    match o.data with
    | .seq xs _ => pure xs.toList
    | _ => unsupported "internal:collect"
  | _ => unsupported "internal:collect"
theorem collect_range5 {r : Addr} {t u v : Tok} {Q : List Value → Shared → Prop} (hh : A.handled = none) (hr : IsRange s.heap r 0 5 1 t u v)
    (h : ∀ h' tk t0 t1 t2 t3 t4, (∀ b o, s.heap.get? b = some o → h'.get? b = some o) → Q [.int 0 t0, .int 1 t1, .int 2 t2, .int 3 t3, .int 4 t4] { s with heap := h', toks := tk }) :
    wpAny (model prog w) A (collect (.ref r)) Q E s := by
  unfold collect
  refine wpAny_bind (wpAny_runValue (codeAny_builtin entry_proto_collect' ?_))
  show wpAny _ _ (do again (.builtin "list.__iadd__" ⟨[← newList [], .ref r], []⟩)) _ _ s
  refine wpAny_bind (wpAny_newList (wpAny_pure ⟨Code.quiet_builtin _ (by decide +kernel), codeAny_builtin entry_list_iadd' ?_⟩))
  rw [Around.under_plainId (show plainId "list.__iadd__" = true by decide +kernel) _]
  show wpAny _ _ (Builtin.List.listExtendWith (.ref s.heap.objs.size) (.ref r) (.ref s.heap.objs.size)) _ _ { s with heap := s.heap.push (seqObj "list" #[] 0) }
  have hr' : IsRange (s.heap.push (seqObj "list" #[] 0)) r 0 5 1 t u v := Heap.get?_push_of_some _ hr
  refine wpAny_mono (wpAny_extend_range (s := { s with heap := s.heap.push (seqObj "list" #[] 0) }) (n := 5) (R := fun r s' => match r with
      | .ok (.ret v) => wpAny (model prog w) A (afterAll v) Q E s'
      | .ok _ => False
      | .error e => E e s') hh hr' (by decide) (by decide) (by decide) s.heap.objs.size (.ref s.heap.objs.size) 0 (Heap.get?_push_size _ rfl) fun h' tk acc c hk hS hI => ?_) (fun fin s' hf => ?_) fun e s' hf => hf
  · obtain ⟨t0, t1, t2, t3, t4, rfl⟩ := ItemsOf.five hI
    show wpAny (model prog w) A (do
        let o ← load s.heap.objs.size
        match o.data with
        | .seq xs _ => pure xs.toList
        | _ => unsupported "internal:collect") Q E { s with heap := h', toks := tk }
    refine wpAny_bind (wpAny_load hS ?_)
    refine wpAny_pure ?_
    exact h h' tk t0 t1 t2 t3 t4 fun b o e => hk b o (Nat.ne_of_lt (Heap.lt_size e)) (Heap.get?_push_of_some _ e)
  · cases fin with
    | done f => cases f <;> exact hf
    | again c' => exact hf

theorem kat_step {f v : Value} {kS a : Addr} {k : Int} {ks : List Value} {e e1 : Nat} {r : List Value} {Fin : List Value → Nat → Shared → Prop} (hkn : ∀ p ∈ news, p.1 ≠ kS) (hka : a ≠ kS)
    (turn : wpAny (model prog w) A (call f [v]) (KskEnd h₀ L m (news ++ [(kS, seqObj "list" (List.toArray ks) e), (a, seqObj "list" #[] e1)]) k s) (fun _ _ => False) s)
    (next : ∀ t' h' tk c, Fr h₀ L h' m → News h₀ L h' (news ++ [(kS, seqObj "list" (List.toArray (ks ++ [.int k t'])) c), (a, seqObj "list" #[] e1)]) → KatKeys prog w A h₀ L m kS f Fin r (ks ++ [.int k t']) c { s with heap := h', toks := tk }) :
    KatKeys prog w A h₀ L m kS f Fin (v :: r) ks e s := by
  refine KatKeys.cons (wpAny_mono turn (fun x s' hx => ?_) fun _ _ x => x)
  obtain ⟨h', tk, t', rfl, rfl, F, N⟩ := hx
  have N' : News h₀ L h' ((kS, seqObj "list" (List.toArray ks) e) :: (a, seqObj "list" #[] e1) :: news) := fun p hp => by
    rcases List.mem_cons.mp hp with q | hp
    · exact N p (List.mem_append_right _ (by rw [q]; exact .head _))
    · rcases List.mem_cons.mp hp with q | hp
      · exact N p (List.mem_append_right _ (by rw [q]; exact .tail _ (.head _)))
      · exact N p (List.mem_append_left _ hp)
  refine KatBack.intro F N' (UpdF.head fun p hp => ?_) fun h2 c F2 N2 => ?_
  · rcases List.mem_cons.mp hp with q | hp
    · rw [q]; exact hka
    · exact hkn p hp
  · refine next t' h2 tk c F2 fun p hp => ?_
    rcases List.mem_append.mp hp with hp | hp
    · exact N2 p (.tail _ (.tail _ hp))
    · rcases List.mem_cons.mp hp with q | hp
      · rw [q]; exact N2 _ (.head _)
      · rw [List.mem_singleton.mp hp]; exact N2 _ (.tail _ (.head _))
end
def keyF (g : Int → Int) (i : Nat) : Int := g (i : Int)
theorem getD5 {g : Int → Int} {t0 t1 t2 t3 t4 : Tok} {i : Nat} (hi : i < 5) : ∃ t, ([.int (g 0) t0, .int (g 1) t1, .int (g 2) t2, .int (g 3) t3, .int (g 4) t4] : List Value).getD i Value.none = .int (keyF g i) t := by
  match i, hi with
  | 0, _ => exact ⟨_, rfl⟩
  | 1, _ => exact ⟨_, rfl⟩
  | 2, _ => exact ⟨_, rfl⟩
  | 3, _ => exact ⟨_, rfl⟩
  | 4, _ => exact ⟨_, rfl⟩
theorem getV5 {t0 t1 t2 t3 t4 : Tok} {i : Nat} (hi : i < 5) : ∃ t, ([.int 0 t0, .int 1 t1, .int 2 t2, .int 3 t3, .int 4 t4] : List Value).getD i Value.none = .int (i : Int) t := getD5 (g := fun n => n) hi
theorem list5 {l : List Nat} (h : l.length = 5) : ∃ a b c d e, l = [a, b, c, d, e] := by
  match l, h with
  | [a, b, c, d, e], _ => exact ⟨a, b, c, d, e, rfl⟩
theorem idx_cast (k : Nat) : ∀ l : List Nat, (l.map fun n : Nat => (n : Int)).idxOf (k : Int) = l.idxOf k
  | [] => rfl
  | n :: l => by
    rw [List.map_cons, List.idxOf_cons, List.idxOf_cons, idx_cast k l]
    by_cases h : n = k
    · subst h; simp
    · have h' : ((n : Int) == (k : Int)) = false := by simp; omega
      have h2 : (n == k) = false := by simp [h]
      rw [h', h2]
/-- the place of k, counted from 1, by the keys g -/
def placeOf (g : Int → Int) (k : Nat) : Nat := plG (fun i j => decide (keyF g i ≤ keyF g j)) (fun i j => decide (keyF g i < keyF g j)) k
section
variable {prog : Program} {w : World} {A : Around} {E : Value → Shared → Prop} {s : Shared} {h₀ : Heap} {L : Addr} {m : Str → Option Value} {news : List (Addr × Obj)}
theorem sorted_range5 {r : Addr} {t u v : Tok} {f : Value} {kw : List (Str × Value)} {Q : Value → Shared → Prop} (g : Int → Int) (F : Fr h₀ L s.heap m) (N : News h₀ L s.heap news) (hh : A.handled = none) (hr : IsRange s.heap r 0 5 1 t u v)
    (ha1 : argsOk "sorted" ⟨[.ref r], kw⟩) (ha2 : ∀ x, argsOk "list.sort" ⟨[.ref x], kw⟩) (ht : ∀ x, Builtin.«list.sort» ⟨[.ref x], kw⟩ = ksk_tree x f false)
    (turn : ∀ (n : Int) (t : Tok) (h : Heap) (tk : Nat) (own : List (Addr × Obj)), n ∈ ([0, 1, 2, 3, 4] : List Int) → Fr h₀ L h m → News h₀ L h (news ++ own) →
      wpAny (model prog w) A.in1.in1 (call f [.int n t]) (KskEnd h₀ L m (news ++ own) (g n) { s with heap := h, toks := tk }) (fun _ _ => False) { s with heap := h, toks := tk })
    (done : ∀ D (n0 n1 n2 n3 n4 : Int) (u0 u1 u2 u3 u4 : Tok) c h' tk, Fr h₀ L h' m → News h₀ L h' ((D, PySem.W.listOf #[.int n0 u0, .int n1 u1, .int n2 u2, .int n3 u3, .int n4 u4] c) :: news) → (∀ q ∈ news, q.1 < D) →
      (∀ k : Nat, k < 5 → ([n0, n1, n2, n3, n4] : List Int).idxOf (k : Int) + 1 = placeOf g k) → Q (.ref D) { s with heap := h', toks := tk }) :
    wpAny (model prog w) A (call (.builtin "sorted") [.ref r] kw) Q E s := by
  refine call_function_entry_kw kind_sorted plain_sorted entry_sorted ha1 ?_
  unfold Builtin.«sorted»
  refine wpAny_bind (m := checkCount "sorted" 1 1 _) (wpAny_pure ?_)
  refine wpAny_bind (collect_range5 hh hr fun h1 tk1 t0 t1 t2 t3 t4 keep1 => ?_)
  refine wpAny_bind (wpAny_newList ?_ (by show 5 ≤ sizeLine; rw [sizeLine_eq]; decide))
  have F1 : Fr h₀ L h1 m := F.keeps keep1
  have N1 : News h₀ L h1 news := fun p hp => ⟨keep1 _ _ (N p hp).1, (N p hp).2⟩
  have hL : L < h1.objs.size := F1.ns.lt
  have hoL : (h1.push (seqObj "list" #[.int 0 t0, .int 1 t1, .int 2 t2, .int 3 t3, .int 4 t4] 0)).get? h1.objs.size = some (seqObj "list" #[.int 0 t0, .int 1 t1, .int 2 t2, .int 3 t3, .int 4 t4] 0) := Heap.get?_push_size _ rfl
  refine wpAny_bind (wpAny_holding (wpAny_call_entry_kw slot_list_sort ⟨_, hoL, rfl⟩ entry_list_sort ?body (ha2 _)))
  case body =>
    have ht' := ht h1.objs.size
    show wpAny (model prog w) A.in1.in1 (Builtin.«list.sort» ⟨[.ref h1.objs.size], kw⟩) _ _ _
    rw [ht']
    refine kat_keyed (vs := [.int 0 t0, .int 1 t1, .int 2 t2, .int 3 t3, .int 4 t4]) (s := { s with heap := h1.push (seqObj "list" #[.int 0 t0, .int 1 t1, .int 2 t2, .int 3 t3, .int 4 t4] 0), toks := tk1 })
      (F1.push _) (N1.grown fun b o e => Heap.get?_push_of_some _ e) hoL (Nat.ne_of_gt hL) (Heap.get?_none_of_le (Nat.le_trans F1.above (Nat.le_of_lt hL))) (fun p hp => Nat.ne_of_lt (Heap.lt_size (N1 p hp).1)) (by show 2 ≤ 5; decide) (by show 5 < 64; decide)
      fun kS e1 h2 F2 N2 l0 l1 => ?_
    have hkn : ∀ p ∈ news, p.1 ≠ kS := fun p hp => Nat.ne_of_lt (l1 p hp)
    have hka : h1.objs.size ≠ kS := Nat.ne_of_lt l0
    have hna : ∀ p ∈ news, p.1 ≠ h1.objs.size := fun p hp => Nat.ne_of_lt (Heap.lt_size (N1 p hp).1)
    have N2' : News h₀ L h2 (news ++ [(kS, seqObj "list" #[] 0), (h1.objs.size, seqObj "list" #[] e1)]) := fun p hp => by
      rcases List.mem_append.mp hp with hp | hp
      · exact N2 p (.tail _ (.tail _ hp))
      · rcases List.mem_cons.mp hp with q | hp
        · rw [q]; exact N2 _ (.head _)
        · rw [List.mem_singleton.mp hp]; exact N2 _ (.tail _ (.head _))
    refine kat_step (k := g 0) hkn hka (turn 0 _ _ _ _ (by decide) F2 N2') fun k0 h3 tk3 c3 F3 N3 => ?_
    refine kat_step (k := g 1) hkn hka (turn 1 _ _ _ _ (by decide) F3 N3) fun k1 h4 tk4 c4 F4 N4 => ?_
    refine kat_step (k := g 2) hkn hka (turn 2 _ _ _ _ (by decide) F4 N4) fun k2 h5 tk5 c5 F5 N5 => ?_
    refine kat_step (k := g 3) hkn hka (turn 3 _ _ _ _ (by decide) F5 N5) fun k3 h6 tk6 c6 F6 N6 => ?_
    refine kat_step (k := g 4) hkn hka (turn 4 _ _ _ _ (by decide) F6 N6) fun k4 h7 tk7 c7 F7 N7 => ?_
    refine KatKeys.nil ?_
    simp only [List.nil_append, List.cons_append] at N7 ⊢
    have hI : IntsAre (List.toArray [Value.int (g 0) k0, .int (g 1) k1, .int (g 2) k2, .int (g 3) k3, .int (g 4) k4]).toList [g 0, g 1, g 2, g 3, g 4] := by
      simp only [List.toList_toArray]
      repeat constructor
    rw [ksk_kind hI (by show 2 ≤ 5; decide)]
    refine wpAny_pure ?_
    refine runT_wp (n := 5) (lt := fun i j => decide (keyF g i < keyF g j)) (fun i j C s9 hi hj hC => ?_) _ _ ok5 ?_
    · unfold kas_ask
      show wpAny _ _ (keyLt' _ (([Value.int (g 0) k0, .int (g 1) k1, .int (g 2) k2, .int (g 3) k3, .int (g 4) k4] : List Value).getD i _) (([Value.int (g 0) k0, .int (g 1) k1, .int (g 2) k2, .int (g 3) k3, .int (g 4) k4] : List Value).getD j _)) _ _ _
      obtain ⟨ti, ei⟩ := getD5 (g := g) (t0 := k0) (t1 := k1) (t2 := k2) (t3 := k3) (t4 := k4) hi
      obtain ⟨tj, ej⟩ := getD5 (g := g) (t0 := k0) (t1 := k1) (t2 := k2) (t3 := k3) (t4 := k4) hj
      rw [ei, ej]
      exact kat_lt_int hC
    · obtain ⟨z1, z2, z3⟩ := sort5 (keyF g)
      generalize runT (fun i j => decide (keyF g i < keyF g j)) (kas_sort 5) = p at z1 z2 z3 ⊢
      obtain ⟨m0, m1, m2, m3, m4, hp⟩ := list5 z1
      rw [hp] at z2 z3 ⊢
      have N7' : News h₀ L h7 ((kS, seqObj "list" (List.toArray [Value.int (g 0) k0, .int (g 1) k1, .int (g 2) k2, .int (g 3) k3, .int (g 4) k4]) c7) :: (h1.objs.size, seqObj "list" #[] e1) :: news) := fun q hq => by
        rcases List.mem_cons.mp hq with e | hq
        · rw [e]; exact N7 _ (List.mem_append_right _ (.head _))
        · rcases List.mem_cons.mp hq with e | hq
          · rw [e]; exact N7 _ (List.mem_append_right _ (.tail _ (.head _)))
          · exact N7 q (List.mem_append_left _ hq)
      refine KatFin.intro F7 N7' (UpdF.head fun q hq => ?_) fun h8 c8 F8 N8 => ?_
      · rcases List.mem_cons.mp hq with e | hq
        · rw [e]; exact hka
        · exact hkn q hq
      · refine KasFin.intro F8 (news := (h1.objs.size, seqObj "list" #[] e1) :: news) (fun q hq => N8 q (.tail _ hq)) (UpdF.head hna) fun h9 c9 F9 N9 => ?_
        obtain ⟨v0, f0⟩ := getV5 (t0 := t0) (t1 := t1) (t2 := t2) (t3 := t3) (t4 := t4) (z2 m0 (by simp))
        obtain ⟨v1, f1⟩ := getV5 (t0 := t0) (t1 := t1) (t2 := t2) (t3 := t3) (t4 := t4) (z2 m1 (by simp))
        obtain ⟨v2, f2⟩ := getV5 (t0 := t0) (t1 := t1) (t2 := t2) (t3 := t3) (t4 := t4) (z2 m2 (by simp))
        obtain ⟨v3, f3⟩ := getV5 (t0 := t0) (t1 := t1) (t2 := t2) (t3 := t3) (t4 := t4) (z2 m3 (by simp))
        obtain ⟨v4, f4⟩ := getV5 (t0 := t0) (t1 := t1) (t2 := t2) (t3 := t3) (t4 := t4) (z2 m4 (by simp))
        have out : (katRev false ([m0, m1, m2, m3, m4].map fun i => (katRev false ([.int 0 t0, .int 1 t1, .int 2 t2, .int 3 t3, .int 4 t4] : List Value)).getD i Value.none)) = [.int (m0 : Int) v0, .int (m1 : Int) v1, .int (m2 : Int) v2, .int (m3 : Int) v3, .int (m4 : Int) v4] := by
          show [_, _, _, _, _] = _
          show [([.int 0 t0, .int 1 t1, .int 2 t2, .int 3 t3, .int 4 t4] : List Value).getD m0 Value.none, ([.int 0 t0, .int 1 t1, .int 2 t2, .int 3 t3, .int 4 t4] : List Value).getD m1 Value.none, ([.int 0 t0, .int 1 t1, .int 2 t2, .int 3 t3, .int 4 t4] : List Value).getD m2 Value.none, ([.int 0 t0, .int 1 t1, .int 2 t2, .int 3 t3, .int 4 t4] : List Value).getD m3 Value.none, ([.int 0 t0, .int 1 t1, .int 2 t2, .int 3 t3, .int 4 t4] : List Value).getD m4 Value.none] = _
          rw [f0, f1, f2, f3, f4]
        rw [out] at N9
        refine ⟨_, rfl, ?_⟩
        refine wpAny_pure ⟨_, rfl, done h1.objs.size m0 m1 m2 m3 m4 v0 v1 v2 v3 v4 c9 h9 _ F9 N9 (fun q hq => Heap.lt_size (N1 q hq).1) fun k hk => ?_⟩
        have e := idx_cast k [m0, m1, m2, m3, m4]
        have e' : ([(m0 : Int), m1, m2, m3, m4] : List Int).idxOf (k : Int) = [m0, m1, m2, m3, m4].idxOf k := e
        rw [e']
        exact z3 k hk
end
theorem mem5 {n : Int} (h : n ∈ ([0, 1, 2, 3, 4] : List Int)) : n = 0 ∨ n = 1 ∨ n = 2 ∨ n = 3 ∨ n = 4 := by
  simp only [List.mem_cons, List.not_mem_nil, or_false] at h
  exact h
abbrev negAt (h0 h1 h2 h3 h4 : Int) (n : Int) : Int := -(([h0, h1, h2, h3, h4] : List Int).getD n.toNat 0)
theorem sorted_heights {prog : Program} {w : World} {A : Around} {E : Value → Shared → Prop} {s : Shared} {h₀ : Heap} {L Dh : Addr} {m : Str → Option Value} {news : List (Addr × Obj)} {h0 h1 h2 h3 h4 : Int} {a0 a1 a2 a3 a4 : Tok} {ch : Nat}
    {r : Addr} {t u v : Tok} {f : Value} {kw : List (Str × Value)} {Q : Value → Shared → Prop} (F : Fr h₀ L s.heap m) (N : News h₀ L s.heap news) (mH : (Dh, PySem.W.listOf #[.int h0 a0, .int h1 a1, .int h2 a2, .int h3 a3, .int h4 a4] ch) ∈ news) (hh : A.handled = none) (hr : IsRange s.heap r 0 5 1 t u v)
    (ha1 : argsOk "sorted" ⟨[.ref r], kw⟩) (ha2 : ∀ x, argsOk "list.sort" ⟨[.ref x], kw⟩) (ht : ∀ x, Builtin.«list.sort» ⟨[.ref x], kw⟩ = ksk_tree x f false)
    (turn : ∀ (n : Int) (t : Tok) (h : Heap) (tk : Nat) (own : List (Addr × Obj)), n ∈ ([0, 1, 2, 3, 4] : List Int) → Fr h₀ L h m → News h₀ L h (news ++ own) →
      wpAny (model prog w) A.in1.in1 (call f [.int n t]) (KskEnd h₀ L m (news ++ own) (negAt h0 h1 h2 h3 h4 n) { s with heap := h, toks := tk }) (fun _ _ => False) { s with heap := h, toks := tk })
    (done : ∀ D (n0 n1 n2 n3 n4 : Int) (u0 u1 u2 u3 u4 : Tok) c h' tk, Fr h₀ L h' m → News h₀ L h' ((D, PySem.W.listOf #[.int n0 u0, .int n1 u1, .int n2 u2, .int n3 u3, .int n4 u4] c) :: news) → (∀ q ∈ news, q.1 < D) →
      (∀ k : Nat, k < 5 → ([n0, n1, n2, n3, n4] : List Int).idxOf (k : Int) + 1 = placeOf (negAt h0 h1 h2 h3 h4) k) → Q (.ref D) { s with heap := h', toks := tk }) :
    wpAny (model prog w) A (call (.builtin "sorted") [.ref r] kw) Q E s :=
  sorted_range5 (negAt h0 h1 h2 h3 h4) F N hh hr ha1 ha2 ht turn done
abbrev rangeObj (n : Int) (t u v : Tok) : Obj := { cls := .type "range", dict := none, data := .fields #[.int 0 t, .int n u, .int 1 v], slots := #[] }
theorem range_led {prog : Program} {w : World} {A : Around} {E : Value → Shared → Prop} {s : Shared} {h₀ : Heap} {L : Addr} {m : Str → Option Value} {news : List (Addr × Obj)} {n : Int} {t : Tok} {Q : Value → Shared → Prop} (F : Fr h₀ L s.heap m) (N : News h₀ L s.heap news)
    (h : ∀ r h' tk t u v, Fr h₀ L h' m → News h₀ L h' ((r, rangeObj n t u v) :: news) → (∀ p ∈ news, p.1 < r) → Q (.ref r) { s with heap := h', toks := tk }) : wpAny (model prog w) A (call (.type "range") [.int n t]) Q E s := by
  have hN : News h₀ L (s.heap.push (rangeObj n s.toks t (s.toks + 1))) ((s.heap.objs.size, rangeObj n s.toks t (s.toks + 1)) :: news) := fun p hp => by
    rcases List.mem_cons.mp hp with e | hp
    · subst e
      refine ⟨Heap.get?_push_size _ rfl, Nat.ne_of_gt F.ns.lt, ?_⟩
      cases hq : h₀.get? s.heap.objs.size with
      | none => rfl
      | some o => exact absurd (Heap.lt_size (F.keep _ o hq)) (Nat.lt_irrefl _)
    · exact ⟨Heap.get?_push_of_some _ (N p hp).1, (N p hp).2⟩
  exact PySem.call_range_1 (h s.heap.objs.size _ _ s.toks t (s.toks + 1) (F.push _) hN fun p hp => Heap.lt_size (N p hp).1)
theorem sorted_led {prog : Program} {w : World} {A : Around} {E : Value → Shared → Prop} {s : Shared} {h₀ : Heap} {L Dh : Addr} {m : Str → Option Value} {news : List (Addr × Obj)} {h0 h1 h2 h3 h4 : Int} {a0 a1 a2 a3 a4 : Tok} {ch : Nat}
    {r : Addr} {t u v : Tok} {f : Value} {kw : List (Str × Value)} {Q : Value → Shared → Prop} (F : Fr h₀ L s.heap m) (N : News h₀ L s.heap news) (mr : (r, rangeObj 5 t u v) ∈ news) (mH : (Dh, PySem.W.listOf #[.int h0 a0, .int h1 a1, .int h2 a2, .int h3 a3, .int h4 a4] ch) ∈ news) (hh : A.handled = none)
    (ha1 : argsOk "sorted" ⟨[.ref r], kw⟩) (ha2 : ∀ x, argsOk "list.sort" ⟨[.ref x], kw⟩) (ht : ∀ x, Builtin.«list.sort» ⟨[.ref x], kw⟩ = ksk_tree x f false)
    (turn : ∀ (n : Int) (t : Tok) (h : Heap) (tk : Nat) (own : List (Addr × Obj)), n ∈ ([0, 1, 2, 3, 4] : List Int) → Fr h₀ L h m → News h₀ L h (news ++ own) →
      wpAny (model prog w) A.in1.in1 (call f [.int n t]) (KskEnd h₀ L m (news ++ own) (negAt h0 h1 h2 h3 h4 n) { s with heap := h, toks := tk }) (fun _ _ => False) { s with heap := h, toks := tk })
    (done : ∀ D (n0 n1 n2 n3 n4 : Int) (u0 u1 u2 u3 u4 : Tok) c h' tk, Fr h₀ L h' m → News h₀ L h' ((D, PySem.W.listOf #[.int n0 u0, .int n1 u1, .int n2 u2, .int n3 u3, .int n4 u4] c) :: news) → (∀ q ∈ news, q.1 < D) →
      (∀ k : Nat, k < 5 → ([n0, n1, n2, n3, n4] : List Int).idxOf (k : Int) + 1 = placeOf (negAt h0 h1 h2 h3 h4) k) → Q (.ref D) { s with heap := h', toks := tk }) :
    wpAny (model prog w) A (call (.builtin "sorted") [.ref r] kw) Q E s :=
  sorted_range5 (negAt h0 h1 h2 h3 h4) F N hh (N _ mr).1 ha1 ha2 ht turn done
theorem sub5_any {prog : Program} {w : World} {A : Around} {E : Value → Shared → Prop} {s : Shared} {l : Addr} {h0 h1 h2 h3 h4 : Int} {a0 a1 a2 a3 a4 t : Tok} {n : Int} {value slice : Expr} {Q : Value → Shared → Prop}
    (hl : s.heap.IsList l #[.int h0 a0, .int h1 a1, .int h2 a2, .int h3 a3, .int h4 a4]) (hn : n ∈ ([0, 1, 2, 3, 4] : List Int)) (h : ∀ t', Q (.int (([h0, h1, h2, h3, h4] : List Int).getD n.toNat 0) t') s)
    (hs : subscripted slice false (.ref l) (.int n t) = operate [.ref l, .int n t] (getItem (.ref l) (.int n t)) := by with_unfolding_all rfl) (ht : ∀ r, letTemporaryGo value (.ref l) r = pure () := by intro _; with_unfolding_all rfl) :
    wpAny (model prog w) A (subscriptTail value slice (.ref l) (.int n t)) Q E s := by
  rcases mem5 hn with rfl | rfl | rfl | rfl | rfl
  · exact subscriptTail_builtin hl.typeIs slot_list_getitem.lookup (wpAny_getItem_list hl (by decide) (by decide) rfl (h a0)) hs ht
  · exact subscriptTail_builtin hl.typeIs slot_list_getitem.lookup (wpAny_getItem_list hl (by decide) (by decide) rfl (h a1)) hs ht
  · exact subscriptTail_builtin hl.typeIs slot_list_getitem.lookup (wpAny_getItem_list hl (by decide) (by decide) rfl (h a2)) hs ht
  · exact subscriptTail_builtin hl.typeIs slot_list_getitem.lookup (wpAny_getItem_list hl (by decide) (by decide) rfl (h a3)) hs ht
  · exact subscriptTail_builtin hl.typeIs slot_list_getitem.lookup (wpAny_getItem_list hl (by decide) (by decide) rfl (h a4)) hs ht
end Mine
end
section
open PySem PySem.W PyProof.Rows PySem.Spec PySem.Calls
set_option maxRecDepth 100000
namespace Mine
theorem b2n_one {P : Prop} [Decidable P] {x : Int} (h : P ↔ 0 < x) : ((b2n (decide P) : Nat) : Int) = one x := by
  unfold b2n one
  by_cases q : P
  · have : 0 < x := h.mp q
    simp [q, this]
  · have : ¬ 0 < x := fun z => q (h.mpr z)
    simp [q, this]
theorem one_pos {x : Int} (h : 0 < x) : one x = 1 := by
  unfold one
  rw [if_pos h]
theorem one_flip {y z : Int} (h : y + z = 1) : one y = 1 - one z := by
  unfold one
  split <;> split <;> omega
theorem above_flip {a b c d e : Int} (h : a + b + c + d + e = 1) : aboveF e d c b a = 6 - aboveF a b c d e := by
  have h1 := one_flip (y := e) (z := a + b + c + d) (by omega)
  have h2 := one_flip (y := e + d) (z := a + b + c) (by omega)
  have h3 := one_flip (y := e + d + c) (z := a + b) (by omega)
  have h4 := one_flip (y := e + d + c + b) (z := a) (by omega)
  have h5 := one_pos (x := e + d + c + b + a) (by omega)
  have h6 := one_pos (x := a + b + c + d + e) (by omega)
  unfold aboveF
  omega
abbrev hts (x0 x1 x2 x3 : Int) : Int → Int := negAt 0 (x0 + 0) (x0 + (x1 + 0)) (x0 + (x1 + (x2 + 0))) (x0 + (x1 + (x2 + (x3 + 0))))
section
variable {x0 x1 x2 x3 x4 : Int}
theorem k0 : keyF (hts x0 x1 x2 x3) 0 = -0 := rfl
theorem k1 : keyF (hts x0 x1 x2 x3) 1 = -(x0 + 0) := rfl
theorem k2 : keyF (hts x0 x1 x2 x3) 2 = -(x0 + (x1 + 0)) := rfl
theorem k3 : keyF (hts x0 x1 x2 x3) 3 = -(x0 + (x1 + (x2 + 0))) := rfl
theorem k4 : keyF (hts x0 x1 x2 x3) 4 = -(x0 + (x1 + (x2 + (x3 + 0)))) := rfl
theorem place0 (h : x0 + x1 + x2 + x3 + x4 = 1) : ((placeOf (hts x0 x1 x2 x3) 0 : Nat) : Int) = aboveF x0 x1 x2 x3 x4 := by
  have e : placeOf (hts x0 x1 x2 x3) 0 = 1 + (0 + b2n (decide (keyF (hts x0 x1 x2 x3) 1 < keyF (hts x0 x1 x2 x3) 0)) + b2n (decide (keyF (hts x0 x1 x2 x3) 2 < keyF (hts x0 x1 x2 x3) 0)) + b2n (decide (keyF (hts x0 x1 x2 x3) 3 < keyF (hts x0 x1 x2 x3) 0)) + b2n (decide (keyF (hts x0 x1 x2 x3) 4 < keyF (hts x0 x1 x2 x3) 0))) := rfl
  rw [e, k0, k1, k2, k3, k4]
  have e1 := b2n_one (P := -(x0 + 0) < -0) (x := x0) (by omega)
  have e2 := b2n_one (P := -(x0 + (x1 + 0)) < -0) (x := x0 + x1) (by omega)
  have e3 := b2n_one (P := -(x0 + (x1 + (x2 + 0))) < -0) (x := x0 + x1 + x2) (by omega)
  have e4 := b2n_one (P := -(x0 + (x1 + (x2 + (x3 + 0)))) < -0) (x := x0 + x1 + x2 + x3) (by omega)
  have e5 := one_pos (x := x0 + x1 + x2 + x3 + x4) (by omega)
  unfold aboveF
  omega
theorem place1 (h : x0 + x1 + x2 + x3 + x4 = 1) : ((placeOf (hts x0 x1 x2 x3) 1 : Nat) : Int) = aboveF x1 x2 x3 x4 x0 := by
  have e : placeOf (hts x0 x1 x2 x3) 1 = 1 + (b2n (decide (keyF (hts x0 x1 x2 x3) 0 ≤ keyF (hts x0 x1 x2 x3) 1)) + 0 + b2n (decide (keyF (hts x0 x1 x2 x3) 2 < keyF (hts x0 x1 x2 x3) 1)) + b2n (decide (keyF (hts x0 x1 x2 x3) 3 < keyF (hts x0 x1 x2 x3) 1)) + b2n (decide (keyF (hts x0 x1 x2 x3) 4 < keyF (hts x0 x1 x2 x3) 1))) := rfl
  rw [e, k0, k1, k2, k3, k4]
  have e1 := b2n_one (P := -0 ≤ -(x0 + 0)) (x := x1 + x2 + x3 + x4) (by omega)
  have e2 := b2n_one (P := -(x0 + (x1 + 0)) < -(x0 + 0)) (x := x1) (by omega)
  have e3 := b2n_one (P := -(x0 + (x1 + (x2 + 0))) < -(x0 + 0)) (x := x1 + x2) (by omega)
  have e4 := b2n_one (P := -(x0 + (x1 + (x2 + (x3 + 0)))) < -(x0 + 0)) (x := x1 + x2 + x3) (by omega)
  have e5 := one_pos (x := x1 + x2 + x3 + x4 + x0) (by omega)
  unfold aboveF
  omega
theorem place2 (h : x0 + x1 + x2 + x3 + x4 = 1) : ((placeOf (hts x0 x1 x2 x3) 2 : Nat) : Int) = aboveF x2 x3 x4 x0 x1 := by
  have e : placeOf (hts x0 x1 x2 x3) 2 = 1 + (b2n (decide (keyF (hts x0 x1 x2 x3) 0 ≤ keyF (hts x0 x1 x2 x3) 2)) + b2n (decide (keyF (hts x0 x1 x2 x3) 1 ≤ keyF (hts x0 x1 x2 x3) 2)) + 0 + b2n (decide (keyF (hts x0 x1 x2 x3) 3 < keyF (hts x0 x1 x2 x3) 2)) + b2n (decide (keyF (hts x0 x1 x2 x3) 4 < keyF (hts x0 x1 x2 x3) 2))) := rfl
  rw [e, k0, k1, k2, k3, k4]
  have e1 := b2n_one (P := -0 ≤ -(x0 + (x1 + 0))) (x := x2 + x3 + x4) (by omega)
  have e2 := b2n_one (P := -(x0 + 0) ≤ -(x0 + (x1 + 0))) (x := x2 + x3 + x4 + x0) (by omega)
  have e3 := b2n_one (P := -(x0 + (x1 + (x2 + 0))) < -(x0 + (x1 + 0))) (x := x2) (by omega)
  have e4 := b2n_one (P := -(x0 + (x1 + (x2 + (x3 + 0)))) < -(x0 + (x1 + 0))) (x := x2 + x3) (by omega)
  have e5 := one_pos (x := x2 + x3 + x4 + x0 + x1) (by omega)
  unfold aboveF
  omega
theorem place3 (h : x0 + x1 + x2 + x3 + x4 = 1) : ((placeOf (hts x0 x1 x2 x3) 3 : Nat) : Int) = aboveF x3 x4 x0 x1 x2 := by
  have e : placeOf (hts x0 x1 x2 x3) 3 = 1 + (b2n (decide (keyF (hts x0 x1 x2 x3) 0 ≤ keyF (hts x0 x1 x2 x3) 3)) + b2n (decide (keyF (hts x0 x1 x2 x3) 1 ≤ keyF (hts x0 x1 x2 x3) 3)) + b2n (decide (keyF (hts x0 x1 x2 x3) 2 ≤ keyF (hts x0 x1 x2 x3) 3)) + 0 + b2n (decide (keyF (hts x0 x1 x2 x3) 4 < keyF (hts x0 x1 x2 x3) 3))) := rfl
  rw [e, k0, k1, k2, k3, k4]
  have e1 := b2n_one (P := -0 ≤ -(x0 + (x1 + (x2 + 0)))) (x := x3 + x4) (by omega)
  have e2 := b2n_one (P := -(x0 + 0) ≤ -(x0 + (x1 + (x2 + 0)))) (x := x3 + x4 + x0) (by omega)
  have e3 := b2n_one (P := -(x0 + (x1 + 0)) ≤ -(x0 + (x1 + (x2 + 0)))) (x := x3 + x4 + x0 + x1) (by omega)
  have e4 := b2n_one (P := -(x0 + (x1 + (x2 + (x3 + 0)))) < -(x0 + (x1 + (x2 + 0)))) (x := x3) (by omega)
  have e5 := one_pos (x := x3 + x4 + x0 + x1 + x2) (by omega)
  unfold aboveF
  omega
theorem place4 (h : x0 + x1 + x2 + x3 + x4 = 1) : ((placeOf (hts x0 x1 x2 x3) 4 : Nat) : Int) = aboveF x4 x0 x1 x2 x3 := by
  have e : placeOf (hts x0 x1 x2 x3) 4 = 1 + (b2n (decide (keyF (hts x0 x1 x2 x3) 0 ≤ keyF (hts x0 x1 x2 x3) 4)) + b2n (decide (keyF (hts x0 x1 x2 x3) 1 ≤ keyF (hts x0 x1 x2 x3) 4)) + b2n (decide (keyF (hts x0 x1 x2 x3) 2 ≤ keyF (hts x0 x1 x2 x3) 4)) + b2n (decide (keyF (hts x0 x1 x2 x3) 3 ≤ keyF (hts x0 x1 x2 x3) 4)) + 0) := rfl
  rw [e, k0, k1, k2, k3, k4]
  have e1 := b2n_one (P := -0 ≤ -(x0 + (x1 + (x2 + (x3 + 0))))) (x := x4) (by omega)
  have e2 := b2n_one (P := -(x0 + 0) ≤ -(x0 + (x1 + (x2 + (x3 + 0))))) (x := x4 + x0) (by omega)
  have e3 := b2n_one (P := -(x0 + (x1 + 0)) ≤ -(x0 + (x1 + (x2 + (x3 + 0))))) (x := x4 + x0 + x1) (by omega)
  have e4 := b2n_one (P := -(x0 + (x1 + (x2 + 0))) ≤ -(x0 + (x1 + (x2 + (x3 + 0))))) (x := x4 + x0 + x1 + x2) (by omega)
  have e5 := one_pos (x := x4 + x0 + x1 + x2 + x3) (by omega)
  unfold aboveF
  omega
end
theorem b2n_le (b : Bool) : b2n b ≤ 1 := by cases b <;> decide
theorem place_le (g : Int → Int) {k : Nat} (hk : k < 5) : placeOf g k ≤ 5 := by
  have z : ∀ le lt : Nat → Nat → Bool, condG le lt k k = false := fun le lt => by simp [condG]
  have h0 := b2n_le (condG (fun i j => decide (keyF g i ≤ keyF g j)) (fun i j => decide (keyF g i < keyF g j)) k 0)
  have h1 := b2n_le (condG (fun i j => decide (keyF g i ≤ keyF g j)) (fun i j => decide (keyF g i < keyF g j)) k 1)
  have h2 := b2n_le (condG (fun i j => decide (keyF g i ≤ keyF g j)) (fun i j => decide (keyF g i < keyF g j)) k 2)
  have h3 := b2n_le (condG (fun i j => decide (keyF g i ≤ keyF g j)) (fun i j => decide (keyF g i < keyF g j)) k 3)
  have h4 := b2n_le (condG (fun i j => decide (keyF g i ≤ keyF g j)) (fun i j => decide (keyF g i < keyF g j)) k 4)
  have h5 : b2n (condG (fun i j => decide (keyF g i ≤ keyF g j)) (fun i j => decide (keyF g i < keyF g j)) k k) = 0 := by rw [z]; rfl
  unfold placeOf plG
  match k, hk with
  | 0, _ => omega
  | 1, _ => omega
  | 2, _ => omega
  | 3, _ => omega
  | 4, _ => omega
end Mine
end
section
open PySem PySem.W PyProof.Rows PySem.Spec PySem.Calls
set_option maxRecDepth 100000
namespace Mine
theorem kf_idx {k : Int} : ∀ {vs : List Value} {ns : List Int}, IntsAre vs ns → ns.idxOf k < ns.length → kf_at k vs = some (ns.idxOf k)
  | _, _, .nil, h => absurd h (Nat.not_lt_zero _)
  | _, _, .cons (vs := vs) (ns := ns) n t r, h => by
    unfold kf_at
    rw [List.idxOf_cons] at h ⊢
    cases e : (n == k) with
    | true =>
      rw [show isInt k (.int n t) = (n == k) from rfl, e]
      rfl
    | false =>
      rw [e] at h
      simp only [cond_false, List.length_cons] at h
      rw [show isInt k (.int n t) = (n == k) from rfl, e, kf_idx r (by omega)]
      rfl
section
variable {prog : Program} {w : World} {A : Around} {E : Value → Shared → Prop} {s : Shared} {h₀ : Heap} {L D : Addr} {m : Str → Option Value} {news : List (Addr × Obj)} {n0 n1 n2 n3 n4 : Int} {u0 u1 u2 u3 u4 : Tok} {c : Nat} {g : Int → Int}
theorem index5 (j : Nat) {k : Int} {t : Tok} {Q : Value → Shared → Prop} (hk : k = (j : Int)) (hj : j < 5) (N : News h₀ L s.heap news) (hm : (D, PySem.W.listOf #[.int n0 u0, .int n1 u1, .int n2 u2, .int n3 u3, .int n4 u4] c) ∈ news)
    (hp : ∀ k : Nat, k < 5 → ([n0, n1, n2, n3, n4] : List Int).idxOf (k : Int) + 1 = placeOf g k)
    (h : ∀ pl : Int, pl + 1 = ((placeOf g j : Nat) : Int) → 0 ≤ pl → pl < 5 → Q (.int pl s.toks) { s with toks := s.toks + 1 }) : wpAny (model prog w) A (call (.builtin "list.index") [.ref D, .int k t]) Q E s := by
  subst hk
  have e := hp j hj
  have b := place_le g hj
  have hI : IntsAre [Value.int n0 u0, .int n1 u1, .int n2 u2, .int n3 u3, .int n4 u4] [n0, n1, n2, n3, n4] := by repeat constructor
  refine kf_index (j := ([n0, n1, n2, n3, n4] : List Int).idxOf (j : Int)) (i := ((([n0, n1, n2, n3, n4] : List Int).idxOf (j : Int) : Nat) : Int)) N hm rfl (kf_idx hI (by show _ < 5; omega)) rfl (by show 5 ≤ sizeLine; rw [sizeLine_eq]; decide) (h _ ?_ ?_ ?_)
  · omega
  · omega
  · omega
theorem letterJ (j : Int) (x : Str) {k : Int} {t u : Tok} {value slice : Expr} {Q : Value → Shared → Prop} (hk : k = j) (h0 : 0 ≤ j) (h1 : j < 5) (hx : Txt.item (Str.ofString "abcde") j = x) (h : Q (.str x s.toks) { s with toks := s.toks + 1 })
    (hs : subscripted slice false (.str (Str.ofString "abcde") t) (.int k u) = operate [.str (Str.ofString "abcde") t, .int k u] (getItem (.str (Str.ofString "abcde") t) (.int k u)) := by with_unfolding_all rfl)
    (ht : ∀ r, letTemporaryGo value (.str (Str.ofString "abcde") t) r = pure () := by intro _; with_unfolding_all rfl) :
    wpAny (model prog w) A (subscriptTail value slice (.str (Str.ofString "abcde") t) (.int k u)) Q E s := by
  subst hk
  exact letter _ x h0 h1 hx h hs ht
theorem blanks {i : Int} {t u : Tok} {Q : Value → Shared → Prop} (h0 : 0 ≤ i) (h1 : i ≤ 6) (h : ∀ t' k, Q (.str (Txt.mul (Str.ofString " ") i) t') { s with toks := k }) :
    wpAny (model prog w) A (binaryOp .Mult (.str (Str.ofString " ") t) (.int i u)) Q E s :=
  KXi.mul (n := 1) (by decide) (by decide) (by omega) (by omega) fun t' k _ _ => h t' k
theorem add_blank {i : Int} {x : Str} {t u : Tok} {Q : Value → Shared → Prop} (h0 : 0 ≤ i) (h1 : i ≤ 6) (hx : x ∈ letters) (h : ∀ t' k, Q (.str (Txt.mul (Str.ofString " ") i ++ x) t') { s with toks := k }) :
    wpAny (model prog w) A (binaryOp .Add (.str (Txt.mul (Str.ofString " ") i) t) (.str x u)) Q E s := by
  have b := (blanks_facts h0 h1).2
  have l := (letter_facts x hx).2.2
  exact PyProof.Rows.add_str h (by rw [sizeLine_eq]; omega)
theorem blanks_a {p : Int} {t u : Tok} {Q : Value → Shared → Prop} (h0 : 0 ≤ p) (h1 : p < 5) (h : ∀ t' k, Q (.str (Txt.mul (Str.ofString " ") (p + 1)) t') { s with toks := k }) :
    wpAny (model prog w) A (binaryOp .Mult (.str (Str.ofString " ") t) (.int (p + 1) u)) Q E s := blanks (by omega) (by omega) h
theorem blanks_b {p : Int} {t u : Tok} {Q : Value → Shared → Prop} (h0 : 0 ≤ p) (h1 : p < 5) (h : ∀ t' k, Q (.str (Txt.mul (Str.ofString " ") (6 - (p + 1))) t') { s with toks := k }) :
    wpAny (model prog w) A (binaryOp .Mult (.str (Str.ofString " ") t) (.int (6 - (p + 1)) u)) Q E s := blanks (by omega) (by omega) h
theorem add_a {p : Int} {x : Str} {t u : Tok} {Q : Value → Shared → Prop} (h0 : 0 ≤ p) (h1 : p < 5) (hx : x ∈ letters) (h : ∀ t' k, Q (.str (Txt.mul (Str.ofString " ") (p + 1) ++ x) t') { s with toks := k }) :
    wpAny (model prog w) A (binaryOp .Add (.str (Txt.mul (Str.ofString " ") (p + 1)) t) (.str x u)) Q E s := add_blank (by omega) (by omega) hx h
theorem add_b {p : Int} {x : Str} {t u : Tok} {Q : Value → Shared → Prop} (h0 : 0 ≤ p) (h1 : p < 5) (hx : x ∈ letters) (h : ∀ t' k, Q (.str (Txt.mul (Str.ofString " ") (6 - (p + 1)) ++ x) t') { s with toks := k }) :
    wpAny (model prog w) A (binaryOp .Add (.str (Txt.mul (Str.ofString " ") (6 - (p + 1))) t) (.str x u)) Q E s := add_blank (by omega) (by omega) hx h
end
end Mine
end
section
open PySem PySem.W PyProof.Rows PySem.Spec PySem.Calls PyProof.V
set_option maxRecDepth 100000
namespace Mine
theorem tx_canLayAll0 : ∀ ts : List Str, (∀ t ∈ ts, PyData.strOk t = true) → PyData.canLayAll0 (ts.map PyData.str) = true
  | [], _ => rfl
  | t :: r, h => by simp [PyData.canLayAll0, PyData.canLay0, tx_canLayAll0 r (fun x hx => h x (.tail _ hx)), h t (.head _)]
theorem tx_depthAll : ∀ ts : List Str, PyData.depthAll (ts.map PyData.str) = 0
  | [] => rfl
  | _ :: r => by simp [PyData.depthAll, PyData.depth, tx_depthAll r]
theorem tx_shaped (ts : List Str) (h : ∀ t ∈ ts, PyData.strOk t = true) : SeqAt.shaped (.list (ts.map PyData.str)) = true := by
  simp [SeqAt.shaped, PyData.canLay0, PyData.depth, tx_canLayAll0 ts h, tx_depthAll]
theorem ok_text {i : Int} {x : Str} (h0 : 0 ≤ i) (h1 : i ≤ 6) (hx : x ∈ letters) : PyData.strOk (Txt.mul (Str.ofString " ") i ++ x) = true := by
  have hi : i = 0 ∨ i = 1 ∨ i = 2 ∨ i = 3 ∨ i = 4 ∨ i = 5 ∨ i = 6 := by omega
  have all : ∀ x ∈ letters, PyData.strOk (Txt.mul (Str.ofString " ") 0 ++ x) = true ∧ PyData.strOk (Txt.mul (Str.ofString " ") 1 ++ x) = true ∧ PyData.strOk (Txt.mul (Str.ofString " ") 2 ++ x) = true ∧ PyData.strOk (Txt.mul (Str.ofString " ") 3 ++ x) = true ∧ PyData.strOk (Txt.mul (Str.ofString " ") 4 ++ x) = true ∧ PyData.strOk (Txt.mul (Str.ofString " ") 5 ++ x) = true ∧ PyData.strOk (Txt.mul (Str.ofString " ") 6 ++ x) = true := by decide +kernel
  obtain ⟨z0, z1, z2, z3, z4, z5, z6⟩ := all x hx
  rcases hi with rfl | rfl | rfl | rfl | rfl | rfl | rfl <;> assumption
theorem ok_above (a b c d e : Int) {x : Str} (hx : x ∈ letters) : PyData.strOk (Txt.mul (Str.ofString " ") (aboveF a b c d e) ++ x) = true := ok_text (above_low ..) (above_high ..) hx
theorem tx_sameAll : ∀ ts : List Str, PySem.Spec.sameAll (ts.map PyData.str) (ts.map PyData.str) = true
  | [] => by simp [PySem.Spec.sameAll]
  | a :: r => by simp [PySem.Spec.sameAll, PySem.Spec.same, tx_sameAll r]
theorem tx_same (ts : List Str) : PySem.Spec.same (.list (ts.map PyData.str)) (.list (ts.map PyData.str)) = true := by
  simp only [PySem.Spec.same]; exact tx_sameAll ts
section
variable {prog : Program} {w : World} {A : Around} {E : Value → Shared → Prop} {s : Shared} {a b : Addr} {xs ys : List Value} {ts : List Str} {Q : Value → Shared → Prop}
theorem tx_eq (ha : s.heap.IsList a xs.toArray) (hb : s.heap.IsList b ys.toArray) (hi : CarriedAll xs (ts.map PyData.str)) (hj : CarriedAll ys (ts.map PyData.str)) (ho : ∀ t ∈ ts, PyData.strOk t = true) (hu : A.units + 64 < cLine) (h : Q (.bool true) s) :
    wpAny (model prog w) A (compareOp .Eq (.ref a) (.ref b)) Q E s :=
  eq_dataH_same (reads_newData ha hi) (reads_newData hb hj) (tx_shaped _ ho) (tx_shaped _ ho) hu (SeqAt.noMix_of_shape (.list .str) rfl _ _ (list_map_has fun _ => rfl) (list_map_has fun _ => rfl)) (by rw [tx_same]; exact h)
theorem due_eq {h₀ : Heap} {L : Addr} {news : List (Addr × Obj)} {p0 p1 p2 p3 p4 p5 p6 p7 p8 p9 q0 q1 q2 q3 q4 q5 q6 q7 q8 q9 : Str} {t0 t1 t2 t3 t4 t5 t6 t7 t8 t9 u0 u1 u2 u3 u4 u5 u6 u7 u8 u9 : Tok} {ca cb : Nat} (N : News h₀ L s.heap news)
    (ma : (a, PySem.W.listOf #[.str p0 t0, .str p1 t1, .str p2 t2, .str p3 t3, .str p4 t4, .str p5 t5, .str p6 t6, .str p7 t7, .str p8 t8, .str p9 t9] ca) ∈ news)
    (mb : (b, PySem.W.listOf #[.str q0 u0, .str q1 u1, .str q2 u2, .str q3 u3, .str q4 u4, .str q5 u5, .str q6 u6, .str q7 u7, .str q8 u8, .str q9 u9] cb) ∈ news)
    (e0 : p0 = q0) (e1 : p1 = q1) (e2 : p2 = q2) (e3 : p3 = q3) (e4 : p4 = q4) (e5 : p5 = q5) (e6 : p6 = q6) (e7 : p7 = q7) (e8 : p8 = q8) (e9 : p9 = q9) (o0 : PyData.strOk p0 = true) (o1 : PyData.strOk p1 = true) (o2 : PyData.strOk p2 = true) (o3 : PyData.strOk p3 = true) (o4 : PyData.strOk p4 = true) (o5 : PyData.strOk p5 = true) (o6 : PyData.strOk p6 = true) (o7 : PyData.strOk p7 = true) (o8 : PyData.strOk p8 = true) (o9 : PyData.strOk p9 = true) (hu : A.units + 64 < cLine) (h : Q (.bool true) s) :
    wpAny (model prog w) A (compareOp .Eq (.ref a) (.ref b)) Q E s := by
  subst e0 e1 e2 e3 e4 e5 e6 e7 e8 e9
  have ha : s.heap.IsList a [Value.str p0 t0, .str p1 t1, .str p2 t2, .str p3 t3, .str p4 t4, .str p5 t5, .str p6 t6, .str p7 t7, .str p8 t8, .str p9 t9].toArray := News.isList N ma
  have hb : s.heap.IsList b [Value.str p0 u0, .str p1 u1, .str p2 u2, .str p3 u3, .str p4 u4, .str p5 u5, .str p6 u6, .str p7 u7, .str p8 u8, .str p9 u9].toArray := News.isList N mb
  exact tx_eq (ts := [p0, p1, p2, p3, p4, p5, p6, p7, p8, p9]) ha hb (.cons (.str _ _) (.cons (.str _ _) (.cons (.str _ _) (.cons (.str _ _) (.cons (.str _ _) (.cons (.str _ _) (.cons (.str _ _) (.cons (.str _ _) (.cons (.str _ _) (.cons (.str _ _) .nil))))))))))
    (.cons (.str _ _) (.cons (.str _ _) (.cons (.str _ _) (.cons (.str _ _) (.cons (.str _ _) (.cons (.str _ _) (.cons (.str _ _) (.cons (.str _ _) (.cons (.str _ _) (.cons (.str _ _) .nil)))))))))) (fun t ht => by
      simp only [List.mem_cons, List.not_mem_nil, or_false] at ht
      rcases ht with rfl | rfl | rfl | rfl | rfl | rfl | rfl | rfl | rfl | rfl <;> assumption) hu h
end
theorem due_text {i j : Int} {c : Str} (e : i = j) : Txt.mul (Str.ofString " ") i ++ c = Txt.mul (Str.ofString " ") j ++ c := by rw [e]
section
variable {x0 x1 x2 x3 x4 pl : Int} (h : x0 + x1 + x2 + x3 + x4 = 1)
include h
theorem ab0 (e : pl + 1 = ((placeOf (negAt 0 (x0 + 0) (x0 + (x1 + 0)) (x0 + (x1 + (x2 + 0))) (x0 + (x1 + (x2 + (x3 + 0))))) 0 : Nat) : Int)) : aboveF x0 x1 x2 x3 x4 = pl + 1 := (e.trans (place0 h)).symm
theorem ab1 (e : pl + 1 = ((placeOf (negAt 0 (x0 + 0) (x0 + (x1 + 0)) (x0 + (x1 + (x2 + 0))) (x0 + (x1 + (x2 + (x3 + 0))))) 1 : Nat) : Int)) : aboveF x1 x2 x3 x4 x0 = pl + 1 := (e.trans (place1 h)).symm
theorem ab2 (e : pl + 1 = ((placeOf (negAt 0 (x0 + 0) (x0 + (x1 + 0)) (x0 + (x1 + (x2 + 0))) (x0 + (x1 + (x2 + (x3 + 0))))) 2 : Nat) : Int)) : aboveF x2 x3 x4 x0 x1 = pl + 1 := (e.trans (place2 h)).symm
theorem ab3 (e : pl + 1 = ((placeOf (negAt 0 (x0 + 0) (x0 + (x1 + 0)) (x0 + (x1 + (x2 + 0))) (x0 + (x1 + (x2 + (x3 + 0))))) 3 : Nat) : Int)) : aboveF x3 x4 x0 x1 x2 = pl + 1 := (e.trans (place3 h)).symm
theorem ab4 (e : pl + 1 = ((placeOf (negAt 0 (x0 + 0) (x0 + (x1 + 0)) (x0 + (x1 + (x2 + 0))) (x0 + (x1 + (x2 + (x3 + 0))))) 4 : Nat) : Int)) : aboveF x4 x0 x1 x2 x3 = pl + 1 := (e.trans (place4 h)).symm
theorem ar0 (e : pl + 1 = ((placeOf (negAt 0 (x0 + 0) (x0 + (x1 + 0)) (x0 + (x1 + (x2 + 0))) (x0 + (x1 + (x2 + (x3 + 0))))) 0 : Nat) : Int)) : aboveF x4 x3 x2 x1 x0 = 6 - (pl + 1) := by rw [above_flip h, ab0 h e]
theorem ar1 (e : pl + 1 = ((placeOf (negAt 0 (x0 + 0) (x0 + (x1 + 0)) (x0 + (x1 + (x2 + 0))) (x0 + (x1 + (x2 + (x3 + 0))))) 1 : Nat) : Int)) : aboveF x0 x4 x3 x2 x1 = 6 - (pl + 1) := by rw [above_flip (a := x1) (b := x2) (c := x3) (d := x4) (e := x0) (by omega), ab1 h e]
theorem ar2 (e : pl + 1 = ((placeOf (negAt 0 (x0 + 0) (x0 + (x1 + 0)) (x0 + (x1 + (x2 + 0))) (x0 + (x1 + (x2 + (x3 + 0))))) 2 : Nat) : Int)) : aboveF x1 x0 x4 x3 x2 = 6 - (pl + 1) := by rw [above_flip (a := x2) (b := x3) (c := x4) (d := x0) (e := x1) (by omega), ab2 h e]
theorem ar3 (e : pl + 1 = ((placeOf (negAt 0 (x0 + 0) (x0 + (x1 + 0)) (x0 + (x1 + (x2 + 0))) (x0 + (x1 + (x2 + (x3 + 0))))) 3 : Nat) : Int)) : aboveF x2 x1 x0 x4 x3 = 6 - (pl + 1) := by rw [above_flip (a := x3) (b := x4) (c := x0) (d := x1) (e := x2) (by omega), ab3 h e]
theorem ar4 (e : pl + 1 = ((placeOf (negAt 0 (x0 + 0) (x0 + (x1 + 0)) (x0 + (x1 + (x2 + 0))) (x0 + (x1 + (x2 + (x3 + 0))))) 4 : Nat) : Int)) : aboveF x3 x2 x1 x0 x4 = 6 - (pl + 1) := by rw [above_flip (a := x4) (b := x0) (c := x1) (d := x2) (e := x3) (by omega), ab4 h e]
end
end Mine
end
section
open PySem PySem.W PyProof.Rows PySem.Spec PySem.Calls
set_option maxRecDepth 100000
namespace Mine
theorem cutQ {M : Model} {A : Around} {t : Sem Flow} {Q : Flow → Shared → Prop} {s : Shared} (K : Shared → Prop)
    (h : ∀ Q' : Flow → Shared → Prop, (∀ s', K s' → Q' (.ret (.bool true)) s') → calmTree M A t Q' Nope s) (k : ∀ s', K s' → Q (.ret (.bool true)) s') : calmTree M A t Q Nope s :=
  calm_mono (h (fun f s' => f = .ret (.bool true) ∧ K s') fun s' hs => ⟨rfl, hs⟩) (fun f s' hf => by rw [hf.1]; exact k s' hf.2) fun _ _ x => x
theorem news_one {h₀ h : Heap} {L : Addr} {news : List (Addr × Obj)} {x : Addr × Obj} (N : News h₀ L h news) (hm : x ∈ news) : News h₀ L h [x] := fun p hp => by
  rw [List.mem_singleton.mp hp]; exact N x hm
theorem cut_end {K : Shared → Prop} {Q' : Flow → Shared → Prop} {v : Flow} {s' : Shared} (h : ∀ s', K s' → Q' v s') (k : K s') : Q' v s' := h s' k
def tenOf (a0 a1 b0 b1 c0 c1 d0 d1 e0 e1 : Int) (lo : Obj) : Prop :=
  ∃ (t0 t1 t2 t3 t4 t5 t6 t7 t8 t9 : Tok) (c : Nat), lo = PySem.W.listOf #[.str (Txt.mul (Str.ofString " ") a0 ++ Str.ofString "a") t0, .str (Txt.mul (Str.ofString " ") a1 ++ Str.ofString "a") t1, .str (Txt.mul (Str.ofString " ") b0 ++ Str.ofString "b") t2, .str (Txt.mul (Str.ofString " ") b1 ++ Str.ofString "b") t3,
    .str (Txt.mul (Str.ofString " ") c0 ++ Str.ofString "c") t4, .str (Txt.mul (Str.ofString " ") c1 ++ Str.ofString "c") t5, .str (Txt.mul (Str.ofString " ") d0 ++ Str.ofString "d") t6, .str (Txt.mul (Str.ofString " ") d1 ++ Str.ofString "d") t7, .str (Txt.mul (Str.ofString " ") e0 ++ Str.ofString "e") t8, .str (Txt.mul (Str.ofString " ") e1 ++ Str.ofString "e") t9] c
def linesOf (x0 x1 x2 x3 x4 : Int) : Obj → Prop := tenOf (aboveF x0 x1 x2 x3 x4) (aboveF x4 x3 x2 x1 x0) (aboveF x1 x2 x3 x4 x0) (aboveF x0 x4 x3 x2 x1) (aboveF x2 x3 x4 x0 x1) (aboveF x1 x0 x4 x3 x2) (aboveF x3 x4 x0 x1 x2) (aboveF x2 x1 x0 x4 x3) (aboveF x4 x0 x1 x2 x3) (aboveF x3 x2 x1 x0 x4)
def dueOf (g : Int → Int) (lo : Obj) : Prop :=
  ∃ p0 p1 p2 p3 p4 : Int, p0 + 1 = ((placeOf g 0 : Nat) : Int) ∧ p1 + 1 = ((placeOf g 1 : Nat) : Int) ∧ p2 + 1 = ((placeOf g 2 : Nat) : Int) ∧ p3 + 1 = ((placeOf g 3 : Nat) : Int) ∧ p4 + 1 = ((placeOf g 4 : Nat) : Int) ∧
    tenOf (p0 + 1) (6 - (p0 + 1)) (p1 + 1) (6 - (p1 + 1)) (p2 + 1) (6 - (p2 + 1)) (p3 + 1) (6 - (p3 + 1)) (p4 + 1) (6 - (p4 + 1)) lo
section
variable {M : Model} {A : Around} {c : Code} {R : Result → Shared → Prop} {s : Shared} {h₀ : Heap} {L I l Rp Cl : Addr} {m : Str → Option Value} {rest : List (Addr × Obj)} {itO lo oR oC : Obj} {vo vr vc vl : Value} {x0 x1 x2 x3 x4 : Int}
theorem loop1_cut (hs : x0 + x1 + x2 + x3 + x4 = 1) (F : Fr h₀ L s.heap m) (N : News h₀ L s.heap ((I, itO) :: (l, lo) :: rest)) (e1 : m (Str.ofString "order") = some vo) (e2 : m (Str.ofString "replies") = some (.ref Rp)) (e3 : m (Str.ofString "clocks") = some (.ref Cl)) (e4 : m (Str.ofString "lines") = some vl)
    (mR : (Rp, oR) ∈ rest) (mC : (Cl, oC) ∈ rest) (hI : ∀ p ∈ (l, lo) :: rest, p.1 < I) (hl : ∀ p ∈ rest, p.1 < l)
    (walk : ∀ (s' : Shared) (m' : Str → Option Value) (rest' : List (Addr × Obj)) (R' : Result → Shared → Prop),
      Fr h₀ L s'.heap (lay1 (Str.ofString "order") vo (lay1 (Str.ofString "replies") (.ref Rp) (lay1 (Str.ofString "clocks") (.ref Cl) (lay1 (Str.ofString "lines") vl m')))) →
      News h₀ L s'.heap ((I, itO) :: (l, lo) :: rest') → (Rp, oR) ∈ rest' → (Cl, oC) ∈ rest' → (∀ p ∈ rest', p.1 < I) → @LT.lt Nat _ l I → (∀ p ∈ rest', p.1 < l) →
      (∀ h' tk m'' lo', linesOf x0 x1 x2 x3 x4 lo' → Fr h₀ L h' (lay1 (Str.ofString "lines") vl m'') → News h₀ L h' ((l, lo') :: rest') → R' (.ok .next) { s' with heap := h', toks := tk }) → calmCode M A c R' s')
    (next : ∀ h' tk m'' lo', linesOf x0 x1 x2 x3 x4 lo' → Fr h₀ L h' (lay1 (Str.ofString "lines") vl m'') → News h₀ L h' ((l, lo') :: rest) → R (.ok .next) { s with heap := h', toks := tk }) : calmCode M A c R s := by
  refine walk s m rest R ?_ N mR mC (fun p hp => hI p (.tail _ hp)) (hI _ (.head _)) hl next
  have q4 := lay1_eq e4
  have q3 := lay1_eq (m := lay1 (Str.ofString "lines") vl m) (q4 ▸ e3)
  have q2 := lay1_eq (m := lay1 (Str.ofString "clocks") (.ref Cl) (lay1 (Str.ofString "lines") vl m)) (q3 ▸ (q4 ▸ e2))
  have q1 := lay1_eq (m := lay1 (Str.ofString "replies") (.ref Rp) (lay1 (Str.ofString "clocks") (.ref Cl) (lay1 (Str.ofString "lines") vl m))) (q2 ▸ (q3 ▸ (q4 ▸ e1)))
  rw [← q1, ← q2, ← q3, ← q4]
  exact F
theorem loop2_cut {g : Int → Int} {D : Addr} {n0 n1 n2 n3 n4 : Int} {oD : Obj} (hp : ∀ k : Nat, k < 5 → ([n0, n1, n2, n3, n4] : List Int).idxOf (k : Int) + 1 = placeOf g k) (F : Fr h₀ L s.heap m) (N : News h₀ L s.heap ((I, itO) :: (l, lo) :: (D, oD) :: rest))
    (e1 : m (Str.ofString "ranked") = some vr) (e2 : m (Str.ofString "due") = some vc) (e3 : m (Str.ofString "lines") = some vl)
    (hI : ∀ p ∈ (l, lo) :: (D, oD) :: rest, p.1 < I) (hl : ∀ p ∈ (D, oD) :: rest, p.1 < l)
    (walk : ∀ (s' : Shared) (m' : Str → Option Value) (rest' : List (Addr × Obj)) (R' : Result → Shared → Prop),
      Fr h₀ L s'.heap (lay1 (Str.ofString "ranked") vr (lay1 (Str.ofString "due") vc (lay1 (Str.ofString "lines") vl m'))) →
      News h₀ L s'.heap ((I, itO) :: (l, lo) :: (D, oD) :: rest') → (∀ p ∈ rest', p.1 < I) → @LT.lt Nat _ l I → @LT.lt Nat _ D I → @LT.lt Nat _ D l → (∀ p ∈ rest', p.1 < l) →
      (∀ h' tk m'' lo', dueOf g lo' → Fr h₀ L h' (lay1 (Str.ofString "due") vc (lay1 (Str.ofString "lines") vl m'')) → News h₀ L h' ((l, lo') :: (D, oD) :: rest') → R' (.ok .next) { s' with heap := h', toks := tk }) → calmCode M A c R' s')
    (next : ∀ h' tk m'' lo', dueOf g lo' → Fr h₀ L h' (lay1 (Str.ofString "due") vc (lay1 (Str.ofString "lines") vl m'')) → News h₀ L h' ((l, lo') :: (D, oD) :: rest) → R (.ok .next) { s with heap := h', toks := tk }) : calmCode M A c R s := by
  refine walk s m rest R ?_ N (fun p hp => hI p (.tail _ (.tail _ hp))) (hI _ (.head _)) (hI _ (.tail _ (.head _))) (hl _ (.head _)) (fun p hp => hl p (.tail _ hp)) next
  have q3 := lay1_eq e3
  have q2 := lay1_eq (m := lay1 (Str.ofString "lines") vl m) (q3 ▸ e2)
  have q1 := lay1_eq (m := lay1 (Str.ofString "due") vc (lay1 (Str.ofString "lines") vl m)) (q2 ▸ (q3 ▸ e1))
  rw [← q1, ← q2, ← q3]
  exact F
end
theorem fr_lay {h₀ h : Heap} {L : Addr} {m : Str → Option Value} {a : Str} {v : Value} (F : Fr h₀ L h m) (e : m a = some v) : Fr h₀ L h (lay1 a v m) := lay1_eq e ▸ F
theorem fr_cut3 {h₀ h : Heap} {L : Addr} {m : Str → Option Value} {va vb vc : Value} (a b c : Str) (F : Fr h₀ L h m) (ea : m a = some va) (eb : m b = some vb) (ec : m c = some vc) :
    ∃ m', Fr h₀ L h (lay1 a va (lay1 b vb (lay1 c vc m'))) := ⟨m, fr_lay (fr_lay (fr_lay F ec) (by rw [← lay1_eq ec]; exact eb)) (by rw [← lay1_eq ec, ← lay1_eq eb]; exact ea)⟩
theorem fr_cut4 {h₀ h : Heap} {L : Addr} {m : Str → Option Value} {va vb vc vd : Value} (a b c d : Str) (F : Fr h₀ L h m) (ea : m a = some va) (eb : m b = some vb) (ec : m c = some vc) (ed : m d = some vd) :
    ∃ m', Fr h₀ L h (lay1 a va (lay1 b vb (lay1 c vc (lay1 d vd m')))) :=
  ⟨m, fr_lay (fr_lay (fr_lay (fr_lay F ed) (by rw [← lay1_eq ed]; exact ec)) (by rw [← lay1_eq ed, ← lay1_eq ec]; exact eb)) (by rw [← lay1_eq ed, ← lay1_eq ec, ← lay1_eq eb]; exact ea)⟩
end Mine
end
section
open PySem PySem.W PyProof.Rows PySem.Spec PySem.Calls
namespace Mine
local macro_rules | `(tactic| k_ne) => `(tactic| first | (with_reducible assumption) | (with_reducible exact Ne.symm (by assumption)) | (refine neN ?_; (try dsimp only); first | (with_reducible assumption) | (with_reducible exact Ne.symm (by assumption)) | exact Nat.ne_of_lt (by assumption) | exact Nat.ne_of_gt (by assumption) | omega))
local macro_rules | `(tactic| k_all) => `(tactic| (refine ne_all ?_; assumption))
set_option maxRecDepth 100000 in
set_option maxHeartbeats 800000000 in
theorem law_holds : PySem.Challenge.rw_zn0002_01.Holds := hd (by
  w_top off
  k_fill
  intro w s₀ s₁ mg mb G Y fa o pm cd doc dV kV ho hd hcd hD hmg hg args vals as hpre hlay hrd hwl hlo
  have KX := km_in_of Y
  km_tabs Y
  have X := (Ground.X G).1
  have V := (Ground.X G).2
  refine Ground.open G ?_
  intro T B D TE TW
  try (refine guard_noD D (by decide +kernel) ?_; clear D)
  km_lay T hmg ho hd cd
  clear hmg
  wrow_args hpre hlay hrd hwl hlo
  refine calm_post hT9 (fun _ _ => rfl) ?_
  have he := Dflts.none hD rfl
  subst he
  have he := Dflts.noKw hD
  subst he
  refine calm_cellsN (by decide) ho (fd_plain hd) (Top.nolimit T) hcd rfl (kinds_of (by kinds_ok)) (by decide) fun h₁ tk₁ cells F N0 X0 => ?_
  cells_open X0
  clear hd
  kn_ghosts F T
  k_drop
  refine cutQ (fun s' => ∃ h' tk m' ps, s' = { s₁ with heap := h', toks := tk } ∧ Fr (ghostOf s₁.heap [(114, 112)]) s₁.heap.objs.size h' m' ∧ News (ghostOf s₁.heap [(114, 112)]) s₁.heap.objs.size h' [(112, tabObj ps)]) (fun Q' hQ' => ?_) (fun s' hs' => ?_)
  rotate_left
  · obtain ⟨h', tk', m', ps', rfl, F', N'⟩ := hs'
    (repeat' (first | (k_unfold; (try dsimp only)) | (k_end; wrow_close) | ((with_reducible show wpAny _ _ (eval (Expr.Name _ _) (compEnvC _ _ _ _)) _ _ _); (first | (with_reducible ((name_kind "globalImplicit"); k_dflt (refine LCgL.ld_global (by k_asm) (by k_asm) (by k_asm) (by k_is) ?_))) | (with_reducible ((name_kind "local"); k_dflt (refine LCgL.ld_own (by k_asm) (by k_mem) (by assumption) (by assumption) ?_))) | (with_reducible (k_dflt (refine kcf_cell (by k_asm) (by rfl) (by k_mem) (by k_asm) ?_))))) | ((with_reducible show wpAny _ _ (callWith _ (Value.builtin _) (_ :: _) _ _) _ _ _); (first | (with_reducible (refine callWith_method1 ?_)) | (refine callWith_method1 ?_))) | ((with_reducible show wpAny _ _ (eval (Expr.Name _ _) _) _ _ _); (first | (with_reducible ((name_kind "local"); k_dflt (refine' nameX_L ?xFq308 ?xvq308 ?_ ?xaq308 ?xbq308; (case xaq308 => rfl); (case xbq308 => rfl); (case xFq308 => k_asm); (case xvq308 => rfl); k_whole))) | (with_reducible ((name_kind "globalImplicit"); k_dflt (refine' nameX_K ?yFq309 ?yXq309 ?yTq309 ?yeq309 ?_ ?yaq309 ?ybq309; (case yaq309 => rfl); (case ybq309 => rfl); (case yFq309 => k_asm); (case yXq309 => k_asm); (case yTq309 => k_asm); (case yeq309 => k_is); k_whole))))) | ((with_reducible show wpAny _ _ (callWith _ (Value.ref _) _ _ _) _ _ _); (with_reducible (k_dflt (refine' callWith_K ?zXq310 ?zkq310 ?_; (case zXq310 => k_asm); (case zkq310 => k_is); k_whole)))) | ((with_reducible show wpAny _ _ (newList _) _ _ _); (with_reducible ((k_dflt (refine' newList_K ?k1q303 ?k2q303 ?_; (case k1q303 => k_asm); (case k2q303 => k_asm); k_whole); intro l' h' F' N' l1; (try k_lt l1); (repeat (have n1' := And.left l1; replace l1 := And.right l1)); (try k_sweep))))) | ((with_reducible show LCg.FinA ..); (with_reducible (((unfold LCg.FinA); intro D' h' tk' F' N' o1'; (try simp only [LCg.Off1, and_true] at o1'); (repeat (obtain ⟨n1', o1'⟩ := o1')); (try simp only [List.nil_append, List.cons_append] at N'); (try dsimp only))))) | ((with_reducible show LCg.FinE ..); (with_reducible (((unfold LCg.FinE); intro D' h' tk' F' N' o1'; (try simp only [LCg.Off1, and_true] at o1'); (repeat (obtain ⟨n1', o1'⟩ := o1')); (try simp only [List.nil_append, List.cons_append] at N'); (try dsimp only))))) | ((with_reducible show LCg.CompRest ..); (with_reducible ((with_unfolding_all first | (refine LCg.CompRest.succ ?_; intro v' I' oI' C' oC' D' m' h' tk' E' hv' hC' hx' F' N' off' ne'; clear ne'; (obtain ⟨t9', hv9'⟩ := hv'; subst hv9')) | refine LCg.CompRest.zero ?_)))) | ((with_reducible show LCg.CompEnd ..); (first | (with_reducible ((k_dflt (refine' compEnd_tail1 ?Fq299 ?Nq299 ?offq299 ?srcq299 ?_; (case Fq299 => k_asm); (case Nq299 => k_asm); (case offq299 => first | assumption | (simp only [LCg.Off3, and_true]; assumption) | (simp only [LCg.Off3]; trivial)); (case srcq299 => exact True.intro))))) | (with_reducible ((k_dflt (refine' compEnd_tail ?Fq297 ?Nq297 ?offq297 ?srcq297 ?_; (case Fq297 => k_asm); (case Nq297 => k_asm); (case offq297 => first | assumption | (simp only [LCg.Off3, and_true]; assumption) | (simp only [LCg.Off3]; trivial)); (case srcq297 => exact True.intro))))))) | ((with_reducible show wpAny _ _ (call (Value.type "bytes") _) _ _ _); (with_reducible (((with_reducible show wpAny _ _ (call (Value.type "bytes") [Value.ref _]) _ _ _); k_dflt (refine bytes_five (by k_asm) (by k_asm) (by assumption) rfl ?_; intro h' t' k' F' N'; (try k_sweep)))))) | ((with_reducible show wpAny _ _ (subscriptTail (Expr.Name _ _) (Expr.Name _ _) (Value.ref _) (Value.int _ _)) _ _ _); (with_reducible ((k_dflt (first | refine sub5_0 (News.isList (by k_asm) (by k_mem)) (by decide) ?_ | refine sub5_1 (News.isList (by k_asm) (by k_mem)) (by decide) ?_ | refine sub5_2 (News.isList (by k_asm) (by k_mem)) (by decide) ?_ | refine sub5_3 (News.isList (by k_asm) (by k_mem)) (by decide) ?_ | refine sub5_4 (News.isList (by k_asm) (by k_mem)) (by decide) ?_))))) | ((with_reducible show LCg.CompSrc ..); (with_reducible ((k_here; k_dflt (refine LCg.CompSrc.range (by rfl) (by k_asm) (by k_asm) (by assumption) (by decide) (by rfl) (by exact Nat.le_of_ble_eq_true rfl) ?_; intro g'; lcg_lit))))) | ((with_reducible show wpAny _ _ (exec (Stmt.Assign _ (Expr.ListComp _ _ _ _) _) _) _ _ _); (with_reducible ((k_here; k_dflt (refine LCg.Assign_ListComp_U (F₀ := by k_asm) (by rfl) (by with_unfolding_all rfl) (by with_unfolding_all rfl) (by decide) (by rfl) (by decide) (by rfl) (by rfl) (by rfl) ?_))))) | ((with_reducible show wpAny _ _ (call (Value.ref _) _) _ _ _); (first | (with_reducible (((with_reducible show wpAny _ _ (call (Value.ref 70) _) _ _ _); k_dflt (refine offset_sum _ _ _ (by assumption) (by assumption) (fmod_low _ (by decide)) (fmod_high _ (by decide)) _ _ _ _ _ _ _ _ _ _ _ _ _ _ _ _ _ _ (by k_asm) (by k_asm) (by k_asm) (by k_asm) (by k_asm) (by first | exact rfl | assumption) (by trivial) (by ktr_room) (by ktr_units) ?_; intro t9 h9 tk9 F9 N9; (try dsimp only); (try k_sweep))))) | (with_reducible (((with_reducible show wpAny _ _ (call (Value.ref 103) _) _ _ _); k_dflt (refine zone_sum _ _ _ _ (by assumption) (by assumption) (fmod_low _ (by decide)) (fmod_high _ (by decide)) _ _ _ _ _ _ _ _ _ _ _ _ _ _ _ _ _ _ (by k_asm) (by k_asm) (by k_asm) (by k_asm) (by k_asm) (by first | exact rfl | assumption) (by trivial) (by ktr_room) (by ktr_units) ?_; intro t9 h9 tk9 F9 N9; (try dsimp only); (try k_sweep))))) | (with_reducible (((with_reducible show wpAny _ _ (call (Value.ref 96) _) _ _ _); k_dflt (refine reply_sum _ _ _ _ (by assumption) (by assumption) (fmod_low _ (by decide)) (fmod_high _ (by decide)) _ _ _ _ _ _ _ _ _ _ _ _ _ _ _ _ _ _ (by k_asm) (by k_asm) (by k_asm) (by k_asm) (by k_asm) (by first | exact rfl | assumption) (by trivial) (by ktr_room) (by ktr_units) ?_; intro t9 h9 tk9 F9 N9; (try dsimp only); (try k_sweep))))) | (with_reducible (((with_reducible show wpAny _ _ (call (Value.ref 89) _) _ _ _); k_dflt (refine steps_sum _ _ _ _ _ _ _ _ _ _ _ _ _ _ _ _ _ _ _ _ _ _ _ _ _ _ _ _ _ _ (by k_asm) (by k_asm) (by k_asm) (by k_asm) (by k_asm) (by first | exact rfl | assumption) (by ktr_room) (by ktr_units) ?_; intro D9 x0 x1 x2 x3 x4 ua ub uc ud ue h9 tk9 p1 p2 p3 p4 p5 p6 p7 p8 p9 p10 p11 F9 N9 l9; (try k_lt l9); (repeat (have n1' := And.left l9; replace l9 := And.right l9)); (try dsimp only); (try k_sweep))))) | (with_reducible (((with_reducible show wpAny _ _ (call (Value.ref 84) _) _ _ _); k_dflt (refine numbers_sum _ _ _ _ _ _ _ _ _ _ _ _ _ _ _ _ _ _ _ _ _ (by assumption) (by assumption) (by omega) (by k_asm) (by k_asm) (by k_asm) (by k_asm) (by k_asm) (by first | exact rfl | assumption) (by ktr_room) (by ktr_units) ?_; intro D9 its9 c9 h9 tk9 P9 F9 N9 l9; obtain ⟨a8, b8, c8, d8, e8, ta8, tb8, tc8, td8, te8, q8⟩ := P9; subst q8; (try k_lt l9); (repeat (have n1' := And.left l9; replace l9 := And.right l9)); (try dsimp only); (try k_sweep))))))) | walk1 | ((fail_if_success k_end); dsimp only) | (leave1; walk_say "STEP leave1"; (try dsimp only)) | fail "no step"))
  iterate 4 (
    refine calm_execs (calm_of ?_)
    (repeat' (first | (k_unfold; (try dsimp only)) | (k_end; wrow_close) | ((with_reducible show wpAny _ _ (eval (Expr.Name _ _) (compEnvC _ _ _ _)) _ _ _); (first | (with_reducible ((name_kind "globalImplicit"); k_dflt (refine LCgL.ld_global (by k_asm) (by k_asm) (by k_asm) (by k_is) ?_))) | (with_reducible ((name_kind "local"); k_dflt (refine LCgL.ld_own (by k_asm) (by k_mem) (by assumption) (by assumption) ?_))) | (with_reducible (k_dflt (refine kcf_cell (by k_asm) (by rfl) (by k_mem) (by k_asm) ?_))))) | ((with_reducible show wpAny _ _ (callWith _ (Value.builtin _) (_ :: _) _ _) _ _ _); (first | (with_reducible (refine callWith_method1 ?_)) | (refine callWith_method1 ?_))) | ((with_reducible show wpAny _ _ (eval (Expr.Name _ _) _) _ _ _); (first | (with_reducible ((name_kind "local"); k_dflt (refine' nameX_L ?xFq315 ?xvq315 ?_ ?xaq315 ?xbq315; (case xaq315 => rfl); (case xbq315 => rfl); (case xFq315 => k_asm); (case xvq315 => rfl); k_whole))) | (with_reducible ((name_kind "globalImplicit"); k_dflt (refine' nameX_K ?yFq316 ?yXq316 ?yTq316 ?yeq316 ?_ ?yaq316 ?ybq316; (case yaq316 => rfl); (case ybq316 => rfl); (case yFq316 => k_asm); (case yXq316 => k_asm); (case yTq316 => k_asm); (case yeq316 => k_is); k_whole))))) | ((with_reducible show wpAny _ _ (callWith _ (Value.ref _) _ _ _) _ _ _); (with_reducible (k_dflt (refine' callWith_K ?zXq317 ?zkq317 ?_; (case zXq317 => k_asm); (case zkq317 => k_is); k_whole)))) | ((with_reducible show wpAny _ _ (newList _) _ _ _); (with_reducible ((k_dflt (refine' newList_K ?k1q303 ?k2q303 ?_; (case k1q303 => k_asm); (case k2q303 => k_asm); k_whole); intro l' h' F' N' l1; (try k_lt l1); (repeat (have n1' := And.left l1; replace l1 := And.right l1)); (try k_sweep))))) | ((with_reducible show LCg.FinA ..); (with_reducible (((unfold LCg.FinA); intro D' h' tk' F' N' o1'; (try simp only [LCg.Off1, and_true] at o1'); (repeat (obtain ⟨n1', o1'⟩ := o1')); (try simp only [List.nil_append, List.cons_append] at N'); (try dsimp only))))) | ((with_reducible show LCg.FinE ..); (with_reducible (((unfold LCg.FinE); intro D' h' tk' F' N' o1'; (try simp only [LCg.Off1, and_true] at o1'); (repeat (obtain ⟨n1', o1'⟩ := o1')); (try simp only [List.nil_append, List.cons_append] at N'); (try dsimp only))))) | ((with_reducible show LCg.CompRest ..); (with_reducible ((with_unfolding_all first | (refine LCg.CompRest.succ ?_; intro v' I' oI' C' oC' D' m' h' tk' E' hv' hC' hx' F' N' off' ne'; clear ne'; (obtain ⟨t9', hv9'⟩ := hv'; subst hv9')) | refine LCg.CompRest.zero ?_)))) | ((with_reducible show LCg.CompEnd ..); (first | (with_reducible ((k_dflt (refine' compEnd_tail1 ?Fq299 ?Nq299 ?offq299 ?srcq299 ?_; (case Fq299 => k_asm); (case Nq299 => k_asm); (case offq299 => first | assumption | (simp only [LCg.Off3, and_true]; assumption) | (simp only [LCg.Off3]; trivial)); (case srcq299 => exact True.intro))))) | (with_reducible ((k_dflt (refine' compEnd_tail ?Fq297 ?Nq297 ?offq297 ?srcq297 ?_; (case Fq297 => k_asm); (case Nq297 => k_asm); (case offq297 => first | assumption | (simp only [LCg.Off3, and_true]; assumption) | (simp only [LCg.Off3]; trivial)); (case srcq297 => exact True.intro))))))) | ((with_reducible show wpAny _ _ (call (Value.type "bytes") _) _ _ _); (with_reducible (((with_reducible show wpAny _ _ (call (Value.type "bytes") [Value.ref _]) _ _ _); k_dflt (refine bytes_five (by k_asm) (by k_asm) (by assumption) rfl ?_; intro h' t' k' F' N'; (try k_sweep)))))) | ((with_reducible show wpAny _ _ (subscriptTail (Expr.Name _ _) (Expr.Name _ _) (Value.ref _) (Value.int _ _)) _ _ _); (with_reducible ((k_dflt (first | refine sub5_0 (News.isList (by k_asm) (by k_mem)) (by decide) ?_ | refine sub5_1 (News.isList (by k_asm) (by k_mem)) (by decide) ?_ | refine sub5_2 (News.isList (by k_asm) (by k_mem)) (by decide) ?_ | refine sub5_3 (News.isList (by k_asm) (by k_mem)) (by decide) ?_ | refine sub5_4 (News.isList (by k_asm) (by k_mem)) (by decide) ?_))))) | ((with_reducible show LCg.CompSrc ..); (with_reducible ((k_here; k_dflt (refine LCg.CompSrc.range (by rfl) (by k_asm) (by k_asm) (by assumption) (by decide) (by rfl) (by exact Nat.le_of_ble_eq_true rfl) ?_; intro g'; lcg_lit))))) | ((with_reducible show wpAny _ _ (exec (Stmt.Assign _ (Expr.ListComp _ _ _ _) _) _) _ _ _); (with_reducible ((k_here; k_dflt (refine LCg.Assign_ListComp_U (F₀ := by k_asm) (by rfl) (by with_unfolding_all rfl) (by with_unfolding_all rfl) (by decide) (by rfl) (by decide) (by rfl) (by rfl) (by rfl) ?_))))) | ((with_reducible show wpAny _ _ (call (Value.ref _) _) _ _ _); (first | (with_reducible (((with_reducible show wpAny _ _ (call (Value.ref 70) _) _ _ _); k_dflt (refine offset_sum _ _ _ (by assumption) (by assumption) (fmod_low _ (by decide)) (fmod_high _ (by decide)) _ _ _ _ _ _ _ _ _ _ _ _ _ _ _ _ _ _ (by k_asm) (by k_asm) (by k_asm) (by k_asm) (by k_asm) (by first | exact rfl | assumption) (by trivial) (by ktr_room) (by ktr_units) ?_; intro t9 h9 tk9 F9 N9; (try dsimp only); (try k_sweep))))) | (with_reducible (((with_reducible show wpAny _ _ (call (Value.ref 103) _) _ _ _); k_dflt (refine zone_sum _ _ _ _ (by assumption) (by assumption) (fmod_low _ (by decide)) (fmod_high _ (by decide)) _ _ _ _ _ _ _ _ _ _ _ _ _ _ _ _ _ _ (by k_asm) (by k_asm) (by k_asm) (by k_asm) (by k_asm) (by first | exact rfl | assumption) (by trivial) (by ktr_room) (by ktr_units) ?_; intro t9 h9 tk9 F9 N9; (try dsimp only); (try k_sweep))))) | (with_reducible (((with_reducible show wpAny _ _ (call (Value.ref 96) _) _ _ _); k_dflt (refine reply_sum _ _ _ _ (by assumption) (by assumption) (fmod_low _ (by decide)) (fmod_high _ (by decide)) _ _ _ _ _ _ _ _ _ _ _ _ _ _ _ _ _ _ (by k_asm) (by k_asm) (by k_asm) (by k_asm) (by k_asm) (by first | exact rfl | assumption) (by trivial) (by ktr_room) (by ktr_units) ?_; intro t9 h9 tk9 F9 N9; (try dsimp only); (try k_sweep))))) | (with_reducible (((with_reducible show wpAny _ _ (call (Value.ref 89) _) _ _ _); k_dflt (refine steps_sum _ _ _ _ _ _ _ _ _ _ _ _ _ _ _ _ _ _ _ _ _ _ _ _ _ _ _ _ _ _ (by k_asm) (by k_asm) (by k_asm) (by k_asm) (by k_asm) (by first | exact rfl | assumption) (by ktr_room) (by ktr_units) ?_; intro D9 x0 x1 x2 x3 x4 ua ub uc ud ue h9 tk9 p1 p2 p3 p4 p5 p6 p7 p8 p9 p10 p11 F9 N9 l9; (try k_lt l9); (repeat (have n1' := And.left l9; replace l9 := And.right l9)); (try dsimp only); (try k_sweep))))) | (with_reducible (((with_reducible show wpAny _ _ (call (Value.ref 84) _) _ _ _); k_dflt (refine numbers_sum _ _ _ _ _ _ _ _ _ _ _ _ _ _ _ _ _ _ _ _ _ (by assumption) (by assumption) (by omega) (by k_asm) (by k_asm) (by k_asm) (by k_asm) (by k_asm) (by first | exact rfl | assumption) (by ktr_room) (by ktr_units) ?_; intro D9 its9 c9 h9 tk9 P9 F9 N9 l9; obtain ⟨a8, b8, c8, d8, e8, ta8, tb8, tc8, td8, te8, q8⟩ := P9; subst q8; (try k_lt l9); (repeat (have n1' := And.left l9; replace l9 := And.right l9)); (try dsimp only); (try k_sweep))))))) | walk1 | ((fail_if_success k_end); dsimp only) | (leave1; walk_say "STEP leave1"; (try dsimp only)) | fail "no step")))
  (try dsimp only)
  iterate 2 (
    refine calm_execs (calm_of ?_)
    (repeat' (first | (k_unfold; (try dsimp only)) | (k_end; wrow_close) | ((with_reducible show wpAny _ _ (eval (Expr.Name _ _) (compEnvC _ _ _ _)) _ _ _); (first | (with_reducible ((name_kind "globalImplicit"); k_dflt (refine LCgL.ld_global (by k_asm) (by k_asm) (by k_asm) (by k_is) ?_))) | (with_reducible ((name_kind "local"); k_dflt (refine LCgL.ld_own (by k_asm) (by k_mem) (by assumption) (by assumption) ?_))) | (with_reducible (k_dflt (refine kcf_cell (by k_asm) (by rfl) (by k_mem) (by k_asm) ?_))))) | ((with_reducible show wpAny _ _ (callWith _ (Value.builtin _) (_ :: _) _ _) _ _ _); (first | (with_reducible (refine callWith_method1 ?_)) | (refine callWith_method1 ?_))) | ((with_reducible show wpAny _ _ (eval (Expr.Name _ _) _) _ _ _); (first | (with_reducible ((name_kind "local"); k_dflt (refine' nameX_L ?xFq322 ?xvq322 ?_ ?xaq322 ?xbq322; (case xaq322 => rfl); (case xbq322 => rfl); (case xFq322 => k_asm); (case xvq322 => rfl); k_whole))) | (with_reducible ((name_kind "globalImplicit"); k_dflt (refine' nameX_K ?yFq323 ?yXq323 ?yTq323 ?yeq323 ?_ ?yaq323 ?ybq323; (case yaq323 => rfl); (case ybq323 => rfl); (case yFq323 => k_asm); (case yXq323 => k_asm); (case yTq323 => k_asm); (case yeq323 => k_is); k_whole))))) | ((with_reducible show wpAny _ _ (callWith _ (Value.ref _) _ _ _) _ _ _); (with_reducible (k_dflt (refine' callWith_K ?zXq324 ?zkq324 ?_; (case zXq324 => k_asm); (case zkq324 => k_is); k_whole)))) | ((with_reducible show wpAny _ _ (newList _) _ _ _); (with_reducible ((k_dflt (refine' newList_K ?k1q303 ?k2q303 ?_; (case k1q303 => k_asm); (case k2q303 => k_asm); k_whole); intro l' h' F' N' l1; (try k_lt l1); (repeat (have n1' := And.left l1; replace l1 := And.right l1)); (try k_sweep))))) | ((with_reducible show LCg.FinA ..); (with_reducible (((unfold LCg.FinA); intro D' h' tk' F' N' o1'; (try simp only [LCg.Off1, and_true] at o1'); (repeat (obtain ⟨n1', o1'⟩ := o1')); (try simp only [List.nil_append, List.cons_append] at N'); (try dsimp only))))) | ((with_reducible show LCg.FinE ..); (with_reducible (((unfold LCg.FinE); intro D' h' tk' F' N' o1'; (try simp only [LCg.Off1, and_true] at o1'); (repeat (obtain ⟨n1', o1'⟩ := o1')); (try simp only [List.nil_append, List.cons_append] at N'); (try dsimp only))))) | ((with_reducible show LCg.CompRest ..); (with_reducible ((with_unfolding_all first | (refine LCg.CompRest.succ ?_; intro v' I' oI' C' oC' D' m' h' tk' E' hv' hC' hx' F' N' off' ne'; clear ne'; (obtain ⟨t9', hv9'⟩ := hv'; subst hv9')) | refine LCg.CompRest.zero ?_)))) | ((with_reducible show LCg.CompEnd ..); (first | (with_reducible ((k_dflt (refine' compEnd_tail1 ?Fq299 ?Nq299 ?offq299 ?srcq299 ?_; (case Fq299 => k_asm); (case Nq299 => k_asm); (case offq299 => first | assumption | (simp only [LCg.Off3, and_true]; assumption) | (simp only [LCg.Off3]; trivial)); (case srcq299 => exact True.intro))))) | (with_reducible ((k_dflt (refine' compEnd_tail ?Fq297 ?Nq297 ?offq297 ?srcq297 ?_; (case Fq297 => k_asm); (case Nq297 => k_asm); (case offq297 => first | assumption | (simp only [LCg.Off3, and_true]; assumption) | (simp only [LCg.Off3]; trivial)); (case srcq297 => exact True.intro))))))) | ((with_reducible show wpAny _ _ (call (Value.type "bytes") _) _ _ _); (with_reducible (((with_reducible show wpAny _ _ (call (Value.type "bytes") [Value.ref _]) _ _ _); k_dflt (refine bytes_five (by k_asm) (by k_asm) (by assumption) rfl ?_; intro h' t' k' F' N'; (try k_sweep)))))) | ((with_reducible show wpAny _ _ (subscriptTail (Expr.Name _ _) (Expr.Name _ _) (Value.ref _) (Value.int _ _)) _ _ _); (with_reducible ((k_dflt (first | refine sub5_0 (News.isList (by k_asm) (by k_mem)) (by decide) ?_ | refine sub5_1 (News.isList (by k_asm) (by k_mem)) (by decide) ?_ | refine sub5_2 (News.isList (by k_asm) (by k_mem)) (by decide) ?_ | refine sub5_3 (News.isList (by k_asm) (by k_mem)) (by decide) ?_ | refine sub5_4 (News.isList (by k_asm) (by k_mem)) (by decide) ?_))))) | ((with_reducible show LCg.CompSrc ..); (with_reducible ((k_here; k_dflt (refine LCg.CompSrc.range (by rfl) (by k_asm) (by k_asm) (by assumption) (by decide) (by rfl) (by exact Nat.le_of_ble_eq_true rfl) ?_; intro g'; lcg_lit))))) | ((with_reducible show wpAny _ _ (exec (Stmt.Assign _ (Expr.ListComp _ _ _ _) _) _) _ _ _); (with_reducible ((k_here; k_dflt (refine LCg.Assign_ListComp_U (F₀ := by k_asm) (by rfl) (by with_unfolding_all rfl) (by with_unfolding_all rfl) (by decide) (by rfl) (by decide) (by rfl) (by rfl) (by rfl) ?_))))) | ((with_reducible show wpAny _ _ (call (Value.ref _) _) _ _ _); (first | (with_reducible (((with_reducible show wpAny _ _ (call (Value.ref 70) _) _ _ _); k_dflt (refine offset_sum _ _ _ (by assumption) (by assumption) (fmod_low _ (by decide)) (fmod_high _ (by decide)) _ _ _ _ _ _ _ _ _ _ _ _ _ _ _ _ _ _ (by k_asm) (by k_asm) (by k_asm) (by k_asm) (by k_asm) (by first | exact rfl | assumption) (by trivial) (by ktr_room) (by ktr_units) ?_; intro t9 h9 tk9 F9 N9; (try dsimp only); (try k_sweep))))) | (with_reducible (((with_reducible show wpAny _ _ (call (Value.ref 103) _) _ _ _); k_dflt (refine zone_sum _ _ _ _ (by assumption) (by assumption) (fmod_low _ (by decide)) (fmod_high _ (by decide)) _ _ _ _ _ _ _ _ _ _ _ _ _ _ _ _ _ _ (by k_asm) (by k_asm) (by k_asm) (by k_asm) (by k_asm) (by first | exact rfl | assumption) (by trivial) (by ktr_room) (by ktr_units) ?_; intro t9 h9 tk9 F9 N9; (try dsimp only); (try k_sweep))))) | (with_reducible (((with_reducible show wpAny _ _ (call (Value.ref 96) _) _ _ _); k_dflt (refine reply_sum _ _ _ _ (by assumption) (by assumption) (fmod_low _ (by decide)) (fmod_high _ (by decide)) _ _ _ _ _ _ _ _ _ _ _ _ _ _ _ _ _ _ (by k_asm) (by k_asm) (by k_asm) (by k_asm) (by k_asm) (by first | exact rfl | assumption) (by trivial) (by ktr_room) (by ktr_units) ?_; intro t9 h9 tk9 F9 N9; (try dsimp only); (try k_sweep))))) | (with_reducible (((with_reducible show wpAny _ _ (call (Value.ref 89) _) _ _ _); k_dflt (refine steps_sum _ _ _ _ _ _ _ _ _ _ _ _ _ _ _ _ _ _ _ _ _ _ _ _ _ _ _ _ _ _ (by k_asm) (by k_asm) (by k_asm) (by k_asm) (by k_asm) (by first | exact rfl | assumption) (by ktr_room) (by ktr_units) ?_; intro D9 x0 x1 x2 x3 x4 ua ub uc ud ue h9 tk9 p1 p2 p3 p4 p5 p6 p7 p8 p9 p10 p11 F9 N9 l9; (try k_lt l9); (repeat (have n1' := And.left l9; replace l9 := And.right l9)); (try dsimp only); (try k_sweep))))) | (with_reducible (((with_reducible show wpAny _ _ (call (Value.ref 84) _) _ _ _); k_dflt (refine numbers_sum _ _ _ _ _ _ _ _ _ _ _ _ _ _ _ _ _ _ _ _ _ (by assumption) (by assumption) (by omega) (by k_asm) (by k_asm) (by k_asm) (by k_asm) (by k_asm) (by first | exact rfl | assumption) (by ktr_room) (by ktr_units) ?_; intro D9 its9 c9 h9 tk9 P9 F9 N9 l9; obtain ⟨a8, b8, c8, d8, e8, ta8, tb8, tc8, td8, te8, q8⟩ := P9; subst q8; (try k_lt l9); (repeat (have n1' := And.left l9; replace l9 := And.right l9)); (try dsimp only); (try k_sweep))))))) | walk1 | ((fail_if_success k_end); dsimp only) | (leave1; walk_say "STEP leave1"; (try dsimp only)) | fail "no step"))
    (try dsimp only))
  refine calm_execs (calm_For0 ?_)
  (repeat' (first | (k_unfold; (try dsimp only)) | (k_end; wrow_close) | ((with_reducible show wpAny _ _ (eval (Expr.Name _ _) (compEnvC _ _ _ _)) _ _ _); (first | (with_reducible ((name_kind "globalImplicit"); k_dflt (refine LCgL.ld_global (by k_asm) (by k_asm) (by k_asm) (by k_is) ?_))) | (with_reducible ((name_kind "local"); k_dflt (refine LCgL.ld_own (by k_asm) (by k_mem) (by assumption) (by assumption) ?_))) | (with_reducible (k_dflt (refine kcf_cell (by k_asm) (by rfl) (by k_mem) (by k_asm) ?_))))) | ((with_reducible show wpAny _ _ (callWith _ (Value.builtin _) (_ :: _) _ _) _ _ _); (first | (with_reducible (refine callWith_method1 ?_)) | (refine callWith_method1 ?_))) | ((with_reducible show wpAny _ _ (eval (Expr.Name _ _) _) _ _ _); (first | (with_reducible ((name_kind "local"); k_dflt (refine' nameX_L ?xFq339 ?xvq339 ?_ ?xaq339 ?xbq339; (case xaq339 => rfl); (case xbq339 => rfl); (case xFq339 => k_asm); (case xvq339 => rfl); k_whole))) | (with_reducible ((name_kind "globalImplicit"); k_dflt (refine' nameX_K ?yFq340 ?yXq340 ?yTq340 ?yeq340 ?_ ?yaq340 ?ybq340; (case yaq340 => rfl); (case ybq340 => rfl); (case yFq340 => k_asm); (case yXq340 => k_asm); (case yTq340 => k_asm); (case yeq340 => k_is); k_whole))))) | ((with_reducible show wpAny _ _ (callWith _ (Value.ref _) _ _ _) _ _ _); (with_reducible (k_dflt (refine' callWith_K ?zXq341 ?zkq341 ?_; (case zXq341 => k_asm); (case zkq341 => k_is); k_whole)))) | ((with_reducible show wpAny _ _ (call (Value.builtin "list.append") _) _ _ _); (with_reducible (((with_reducible show wpAny _ _ (call (Value.builtin _) [Value.ref _, _]) _ _ _); k_dflt (refine' append_K ?k1q334 ?k2q334 ?k3q334 ?_ ?zq334; (case k1q334 => k_asm); (case k2q334 => k_asm); (case k3q334 => k_upd); (case zq334 => exact Nat.le_of_ble_eq_true rfl); k_whole); intro h' F' N'; (try k_sweep))))) | ((with_reducible show wpAny _ _ (call (Value.ref _) _) _ _ _); (first | (with_reducible (((with_reducible show wpAny _ _ (call (Value.ref 57) _) _ _ _); k_dflt (refine indent_sum _ _ _ _ (above_low _ _ _ _ _) (above_high _ _ _ _ _) (by decide) _ _ _ _ _ _ _ _ _ _ _ _ _ _ _ _ _ _ (by k_asm) (by k_asm) (by k_asm) (by k_asm) (by k_asm) (by first | exact rfl | assumption) (by trivial) (by ktr_room) (by ktr_units) ?_; intro t9 h9 tk9 F9 N9; (try dsimp only); (try k_sweep))))) | (with_reducible (((with_reducible show wpAny _ _ (call (Value.ref 110) _) _ _ _); k_dflt (refine above_W (by k_asm) (by k_asm) (by exact List.mem_cons_of_mem _ (List.mem_cons_of_mem _ (by assumption))) (by exact List.mem_cons_of_mem _ (List.mem_cons_of_mem _ (by assumption))) (by rfl) (by rfl) (by rfl) (by rfl) (by rfl) (by rfl) (by rfl) (by rfl) (by rfl) (by rfl) (by assumption) (by assumption) (by assumption) (by assumption) (by assumption) (by assumption) (by assumption) (by assumption) (by assumption) (by assumption) (fmod_low _ (by decide)) (fmod_high _ (by decide)) (fmod_low _ (by decide)) (fmod_high _ (by decide)) (fmod_low _ (by decide)) (fmod_high _ (by decide)) (fmod_low _ (by decide)) (fmod_high _ (by decide)) (fmod_low _ (by decide)) (fmod_high _ (by decide)) (by k_asm) (by k_asm) (by k_asm) (by first | exact rfl | assumption) (by ktr_room) (by ktr_units) ?_; intro t9 h9 tk9 F9 N9; (try dsimp only); (try k_sweep))))))) | ((with_reducible show wpAny _ _ (binaryOp Operator.Add (Value.bytes _ _) (Value.bytes _ _)) _ _ _); (with_reducible ((k_dflt (refine join5 ?_); intro t' k')))) | ((with_reducible show wpAny _ _ (subscriptTail _ _ (Value.bytes _ _) _) _ _ _); (first | (with_reducible (((with_reducible show wpAny _ _ (subscriptTail _ (Expr.Slice _ _ none _) (Value.bytes _ _) (Value.ref _)) _ _ _); (with_reducible rename Fr _ _ _ _ => F'); (with_reducible rename News _ _ _ _ => N'); k_dflt (first | ((with_reducible show wpAny _ _ (subscriptTail _ (Expr.Slice none _ none _) _ _) _ _ _); (refine cut4 (s := ⟨_, _, _, _, _⟩) F' N' ?_)) | ((with_reducible show wpAny _ _ (subscriptTail _ (Expr.Slice _ none none _) _ _) _ _ _); (refine cut1 (s := ⟨_, _, _, _, _⟩) F' N' ?_))); intro h' t' k' F' N'; (try k_sweep)))) | (with_reducible (((with_reducible show wpAny _ _ (subscriptTail _ _ (Value.bytes _ _) (Value.int _ _)) _ _ _); k_dflt (first | refine byte0 0 (by decide) ?_ | refine byte0 1 (by decide) ?_ | refine byte0 2 (by decide) ?_ | refine byte0 3 (by decide) ?_ | refine byte0 4 (by decide) ?_)))))) | ((with_reducible show wpAny _ _ (subscriptTail _ _ (Value.str _ _) (Value.int _ _)) _ _ _); (with_reducible ((k_dflt (first | ((with_reducible show wpAny _ _ (subscriptTail _ _ _ (Value.int 0 _)) _ _ _); (refine letter 0 (Str.ofString "a") (by decide) (by decide) (by decide +kernel) ?_)) | ((with_reducible show wpAny _ _ (subscriptTail _ _ _ (Value.int 1 _)) _ _ _); (refine letter 1 (Str.ofString "b") (by decide) (by decide) (by decide +kernel) ?_)) | ((with_reducible show wpAny _ _ (subscriptTail _ _ _ (Value.int 2 _)) _ _ _); (refine letter 2 (Str.ofString "c") (by decide) (by decide) (by decide +kernel) ?_)) | ((with_reducible show wpAny _ _ (subscriptTail _ _ _ (Value.int 3 _)) _ _ _); (refine letter 3 (Str.ofString "d") (by decide) (by decide) (by decide +kernel) ?_)) | ((with_reducible show wpAny _ _ (subscriptTail _ _ _ (Value.int 4 _)) _ _ _); (refine letter 4 (Str.ofString "e") (by decide) (by decide) (by decide +kernel) ?_))))))) | ((with_reducible show wpAny _ _ (pyNext (Value.ref _)) _ _ _); (with_reducible ((k_dflt (first | (refine' pyNext_item_K ?Fq327 ?Nq327 ?lq327 ?Uq327 ?_; (case Fq327 => k_asm); (case Nq327 => k_asm); (case Uq327 => k_upd); (case lq327 => decide); k_whole; intro h' t' F' N'; (try dsimp only); (try k_sweep)) | (refine' pyNext_end_K rfl ?Fq327 ?Nq327 ?lq327 ?Iq327 ?_; (case Fq327 => k_asm); (case Nq327 => k_asm); (case lq327 => decide); (case Iq327 => (repeat' (first | exact List.forall_mem_nil _ | assumption | (refine' List.forall_mem_cons.mpr ⟨?_, ?_⟩) | (show @LT.lt Nat _ _ _; dsimp only; omega)))); intro h' F' N'; (try dsimp only); (try k_sweep))))))) | ((with_reducible show wpAny _ _ (pyIter (Value.ref _)) _ _ _); (with_reducible ((k_dflt (refine pyIter_K 5 5 (by assumption) (by rfl) (by decide) (by k_asm) (by k_asm) ?_); intro I' h' F' N' l1; (try dsimp only at N'); (try k_lt l1); (repeat (have n1' := And.left l1; replace l1 := And.right l1)))))) | ((with_reducible show Exists _); (with_reducible ((k_dflt (exact fn_there (by k_asm) (by k_asm) (by k_is) (by exact rfl)))))) | walk1 | ((fail_if_success k_end); dsimp only) | (leave1; walk_say "STEP leave1"; (try dsimp only)) | fail "no step"))
  (try dsimp only)
  k_dflt refine loop1_cut (by assumption) (by k_asm) (by k_asm) (by exact rfl) (by exact rfl) (by exact rfl) (by exact rfl) (by k_mem) (by k_mem) (by repeat' (first | exact List.forall_mem_nil _ | (refine' List.forall_mem_cons.mpr ⟨?_, ?_⟩) | (show @LT.lt Nat _ _ _; dsimp only; omega))) (by repeat' (first | exact List.forall_mem_nil _ | (refine' List.forall_mem_cons.mpr ⟨?_, ?_⟩) | (show @LT.lt Nat _ _ _; dsimp only; omega))) (fun s9 m9 rest9 R9 F9 N9 mR9 mC9 hI9 hlI9 hl9 hR9 => ?_) (fun h9 tk9 m9 lo9 W9 F9 N9 => ?_)
  · iterate 5 (
      (with_reducible rename Fr _ _ _ _ => F8)
      obtain ⟨m8, F7⟩ := fr_cut4 (Str.ofString "order") (Str.ofString "replies") (Str.ofString "clocks") (Str.ofString "lines") F8 (by exact rfl) (by exact rfl) (by exact rfl) (by exact rfl)
      clear F8
      refine calm_turn ?_
      (repeat' (first | (k_unfold; (try dsimp only)) | (k_end; wrow_close) | ((with_reducible show wpAny _ _ (eval (Expr.Name _ _) (compEnvC _ _ _ _)) _ _ _); (first | (with_reducible ((name_kind "globalImplicit"); k_dflt (refine LCgL.ld_global (by k_asm) (by k_asm) (by k_asm) (by k_is) ?_))) | (with_reducible ((name_kind "local"); k_dflt (refine LCgL.ld_own (by k_asm) (by k_mem) (by assumption) (by assumption) ?_))) | (with_reducible (k_dflt (refine kcf_cell (by k_asm) (by rfl) (by k_mem) (by k_asm) ?_))))) | ((with_reducible show wpAny _ _ (callWith _ (Value.builtin _) (_ :: _) _ _) _ _ _); (first | (with_reducible (refine callWith_method1 ?_)) | (refine callWith_method1 ?_))) | ((with_reducible show wpAny _ _ (eval (Expr.Name _ _) _) _ _ _); (first | (with_reducible ((name_kind "local"); k_dflt (refine' nameX_L ?xFq346 ?xvq346 ?_ ?xaq346 ?xbq346; (case xaq346 => rfl); (case xbq346 => rfl); (case xFq346 => k_asm); (case xvq346 => rfl); k_whole))) | (with_reducible ((name_kind "globalImplicit"); k_dflt (refine' nameX_K ?yFq347 ?yXq347 ?yTq347 ?yeq347 ?_ ?yaq347 ?ybq347; (case yaq347 => rfl); (case ybq347 => rfl); (case yFq347 => k_asm); (case yXq347 => k_asm); (case yTq347 => k_asm); (case yeq347 => k_is); k_whole))))) | ((with_reducible show wpAny _ _ (callWith _ (Value.ref _) _ _ _) _ _ _); (with_reducible (k_dflt (refine' callWith_K ?zXq348 ?zkq348 ?_; (case zXq348 => k_asm); (case zkq348 => k_is); k_whole)))) | ((with_reducible show wpAny _ _ (call (Value.builtin "list.append") _) _ _ _); (with_reducible (((with_reducible show wpAny _ _ (call (Value.builtin _) [Value.ref _, _]) _ _ _); k_dflt (refine' append_K ?k1q334 ?k2q334 ?k3q334 ?_ ?zq334; (case k1q334 => k_asm); (case k2q334 => k_asm); (case k3q334 => k_upd); (case zq334 => exact Nat.le_of_ble_eq_true rfl); k_whole); intro h' F' N'; (try k_sweep))))) | ((with_reducible show wpAny _ _ (call (Value.ref _) _) _ _ _); (first | (with_reducible (((with_reducible show wpAny _ _ (call (Value.ref 57) _) _ _ _); k_dflt (refine indent_sum _ _ _ _ (above_low _ _ _ _ _) (above_high _ _ _ _ _) (by decide) _ _ _ _ _ _ _ _ _ _ _ _ _ _ _ _ _ _ (by k_asm) (by k_asm) (by k_asm) (by k_asm) (by k_asm) (by first | exact rfl | assumption) (by trivial) (by ktr_room) (by ktr_units) ?_; intro t9 h9 tk9 F9 N9; (try dsimp only); (try k_sweep))))) | (with_reducible (((with_reducible show wpAny _ _ (call (Value.ref 110) _) _ _ _); k_dflt (refine above_W (by k_asm) (by k_asm) (by exact List.mem_cons_of_mem _ (List.mem_cons_of_mem _ (by assumption))) (by exact List.mem_cons_of_mem _ (List.mem_cons_of_mem _ (by assumption))) (by rfl) (by rfl) (by rfl) (by rfl) (by rfl) (by rfl) (by rfl) (by rfl) (by rfl) (by rfl) (by assumption) (by assumption) (by assumption) (by assumption) (by assumption) (by assumption) (by assumption) (by assumption) (by assumption) (by assumption) (fmod_low _ (by decide)) (fmod_high _ (by decide)) (fmod_low _ (by decide)) (fmod_high _ (by decide)) (fmod_low _ (by decide)) (fmod_high _ (by decide)) (fmod_low _ (by decide)) (fmod_high _ (by decide)) (fmod_low _ (by decide)) (fmod_high _ (by decide)) (by k_asm) (by k_asm) (by k_asm) (by first | exact rfl | assumption) (by ktr_room) (by ktr_units) ?_; intro t9 h9 tk9 F9 N9; (try dsimp only); (try k_sweep))))))) | ((with_reducible show wpAny _ _ (binaryOp Operator.Add (Value.bytes _ _) (Value.bytes _ _)) _ _ _); (with_reducible ((k_dflt (refine join5 ?_); intro t' k')))) | ((with_reducible show wpAny _ _ (subscriptTail _ _ (Value.bytes _ _) _) _ _ _); (first | (with_reducible (((with_reducible show wpAny _ _ (subscriptTail _ (Expr.Slice _ _ none _) (Value.bytes _ _) (Value.ref _)) _ _ _); (with_reducible rename Fr _ _ _ _ => F'); (with_reducible rename News _ _ _ _ => N'); k_dflt (first | ((with_reducible show wpAny _ _ (subscriptTail _ (Expr.Slice none _ none _) _ _) _ _ _); (refine cut4 (s := ⟨_, _, _, _, _⟩) F' N' ?_)) | ((with_reducible show wpAny _ _ (subscriptTail _ (Expr.Slice _ none none _) _ _) _ _ _); (refine cut1 (s := ⟨_, _, _, _, _⟩) F' N' ?_))); intro h' t' k' F' N'; (try k_sweep)))) | (with_reducible (((with_reducible show wpAny _ _ (subscriptTail _ _ (Value.bytes _ _) (Value.int _ _)) _ _ _); k_dflt (first | refine byte0 0 (by decide) ?_ | refine byte0 1 (by decide) ?_ | refine byte0 2 (by decide) ?_ | refine byte0 3 (by decide) ?_ | refine byte0 4 (by decide) ?_)))))) | ((with_reducible show wpAny _ _ (subscriptTail _ _ (Value.str _ _) (Value.int _ _)) _ _ _); (with_reducible ((k_dflt (first | ((with_reducible show wpAny _ _ (subscriptTail _ _ _ (Value.int 0 _)) _ _ _); (refine letter 0 (Str.ofString "a") (by decide) (by decide) (by decide +kernel) ?_)) | ((with_reducible show wpAny _ _ (subscriptTail _ _ _ (Value.int 1 _)) _ _ _); (refine letter 1 (Str.ofString "b") (by decide) (by decide) (by decide +kernel) ?_)) | ((with_reducible show wpAny _ _ (subscriptTail _ _ _ (Value.int 2 _)) _ _ _); (refine letter 2 (Str.ofString "c") (by decide) (by decide) (by decide +kernel) ?_)) | ((with_reducible show wpAny _ _ (subscriptTail _ _ _ (Value.int 3 _)) _ _ _); (refine letter 3 (Str.ofString "d") (by decide) (by decide) (by decide +kernel) ?_)) | ((with_reducible show wpAny _ _ (subscriptTail _ _ _ (Value.int 4 _)) _ _ _); (refine letter 4 (Str.ofString "e") (by decide) (by decide) (by decide +kernel) ?_))))))) | ((with_reducible show wpAny _ _ (pyNext (Value.ref _)) _ _ _); (with_reducible ((k_dflt (first | (refine' pyNext_item_K ?Fq327 ?Nq327 ?lq327 ?Uq327 ?_; (case Fq327 => k_asm); (case Nq327 => k_asm); (case Uq327 => k_upd); (case lq327 => decide); k_whole; intro h' t' F' N'; (try dsimp only); (try k_sweep)) | (refine' pyNext_end_K rfl ?Fq327 ?Nq327 ?lq327 ?Iq327 ?_; (case Fq327 => k_asm); (case Nq327 => k_asm); (case lq327 => decide); (case Iq327 => (repeat' (first | exact List.forall_mem_nil _ | assumption | (refine' List.forall_mem_cons.mpr ⟨?_, ?_⟩) | (show @LT.lt Nat _ _ _; dsimp only; omega)))); intro h' F' N'; (try dsimp only); (try k_sweep))))))) | ((with_reducible show wpAny _ _ (pyIter (Value.ref _)) _ _ _); (with_reducible ((k_dflt (refine pyIter_K 5 5 (by assumption) (by rfl) (by decide) (by k_asm) (by k_asm) ?_); intro I' h' F' N' l1; (try dsimp only at N'); (try k_lt l1); (repeat (have n1' := And.left l1; replace l1 := And.right l1)))))) | ((with_reducible show Exists _); (with_reducible ((k_dflt (exact fn_there (by k_asm) (by k_asm) (by k_is) (by exact rfl)))))) | walk1 | ((fail_if_success k_end); dsimp only) | (leave1; walk_say "STEP leave1"; (try dsimp only)) | fail "no step"))
      (try dsimp only)
      refine calm_execs (calm_of ?_)
      (repeat' (first | (k_unfold; (try dsimp only)) | (k_end; wrow_close) | ((with_reducible show wpAny _ _ (eval (Expr.Name _ _) (compEnvC _ _ _ _)) _ _ _); (first | (with_reducible ((name_kind "globalImplicit"); k_dflt (refine LCgL.ld_global (by k_asm) (by k_asm) (by k_asm) (by k_is) ?_))) | (with_reducible ((name_kind "local"); k_dflt (refine LCgL.ld_own (by k_asm) (by k_mem) (by assumption) (by assumption) ?_))) | (with_reducible (k_dflt (refine kcf_cell (by k_asm) (by rfl) (by k_mem) (by k_asm) ?_))))) | ((with_reducible show wpAny _ _ (callWith _ (Value.builtin _) (_ :: _) _ _) _ _ _); (first | (with_reducible (refine callWith_method1 ?_)) | (refine callWith_method1 ?_))) | ((with_reducible show wpAny _ _ (eval (Expr.Name _ _) _) _ _ _); (first | (with_reducible ((name_kind "local"); k_dflt (refine' nameX_L ?xFq353 ?xvq353 ?_ ?xaq353 ?xbq353; (case xaq353 => rfl); (case xbq353 => rfl); (case xFq353 => k_asm); (case xvq353 => rfl); k_whole))) | (with_reducible ((name_kind "globalImplicit"); k_dflt (refine' nameX_K ?yFq354 ?yXq354 ?yTq354 ?yeq354 ?_ ?yaq354 ?ybq354; (case yaq354 => rfl); (case ybq354 => rfl); (case yFq354 => k_asm); (case yXq354 => k_asm); (case yTq354 => k_asm); (case yeq354 => k_is); k_whole))))) | ((with_reducible show wpAny _ _ (callWith _ (Value.ref _) _ _ _) _ _ _); (with_reducible (k_dflt (refine' callWith_K ?zXq355 ?zkq355 ?_; (case zXq355 => k_asm); (case zkq355 => k_is); k_whole)))) | ((with_reducible show wpAny _ _ (call (Value.builtin "list.append") _) _ _ _); (with_reducible (((with_reducible show wpAny _ _ (call (Value.builtin _) [Value.ref _, _]) _ _ _); k_dflt (refine' append_K ?k1q334 ?k2q334 ?k3q334 ?_ ?zq334; (case k1q334 => k_asm); (case k2q334 => k_asm); (case k3q334 => k_upd); (case zq334 => exact Nat.le_of_ble_eq_true rfl); k_whole); intro h' F' N'; (try k_sweep))))) | ((with_reducible show wpAny _ _ (call (Value.ref _) _) _ _ _); (first | (with_reducible (((with_reducible show wpAny _ _ (call (Value.ref 57) _) _ _ _); k_dflt (refine indent_sum _ _ _ _ (above_low _ _ _ _ _) (above_high _ _ _ _ _) (by decide) _ _ _ _ _ _ _ _ _ _ _ _ _ _ _ _ _ _ (by k_asm) (by k_asm) (by k_asm) (by k_asm) (by k_asm) (by first | exact rfl | assumption) (by trivial) (by ktr_room) (by ktr_units) ?_; intro t9 h9 tk9 F9 N9; (try dsimp only); (try k_sweep))))) | (with_reducible (((with_reducible show wpAny _ _ (call (Value.ref 110) _) _ _ _); k_dflt (refine above_W (by k_asm) (by k_asm) (by exact List.mem_cons_of_mem _ (List.mem_cons_of_mem _ (by assumption))) (by exact List.mem_cons_of_mem _ (List.mem_cons_of_mem _ (by assumption))) (by rfl) (by rfl) (by rfl) (by rfl) (by rfl) (by rfl) (by rfl) (by rfl) (by rfl) (by rfl) (by assumption) (by assumption) (by assumption) (by assumption) (by assumption) (by assumption) (by assumption) (by assumption) (by assumption) (by assumption) (fmod_low _ (by decide)) (fmod_high _ (by decide)) (fmod_low _ (by decide)) (fmod_high _ (by decide)) (fmod_low _ (by decide)) (fmod_high _ (by decide)) (fmod_low _ (by decide)) (fmod_high _ (by decide)) (fmod_low _ (by decide)) (fmod_high _ (by decide)) (by k_asm) (by k_asm) (by k_asm) (by first | exact rfl | assumption) (by ktr_room) (by ktr_units) ?_; intro t9 h9 tk9 F9 N9; (try dsimp only); (try k_sweep))))))) | ((with_reducible show wpAny _ _ (binaryOp Operator.Add (Value.bytes _ _) (Value.bytes _ _)) _ _ _); (with_reducible ((k_dflt (refine join5 ?_); intro t' k')))) | ((with_reducible show wpAny _ _ (subscriptTail _ _ (Value.bytes _ _) _) _ _ _); (first | (with_reducible (((with_reducible show wpAny _ _ (subscriptTail _ (Expr.Slice _ _ none _) (Value.bytes _ _) (Value.ref _)) _ _ _); (with_reducible rename Fr _ _ _ _ => F'); (with_reducible rename News _ _ _ _ => N'); k_dflt (first | ((with_reducible show wpAny _ _ (subscriptTail _ (Expr.Slice none _ none _) _ _) _ _ _); (refine cut4 (s := ⟨_, _, _, _, _⟩) F' N' ?_)) | ((with_reducible show wpAny _ _ (subscriptTail _ (Expr.Slice _ none none _) _ _) _ _ _); (refine cut1 (s := ⟨_, _, _, _, _⟩) F' N' ?_))); intro h' t' k' F' N'; (try k_sweep)))) | (with_reducible (((with_reducible show wpAny _ _ (subscriptTail _ _ (Value.bytes _ _) (Value.int _ _)) _ _ _); k_dflt (first | refine byte0 0 (by decide) ?_ | refine byte0 1 (by decide) ?_ | refine byte0 2 (by decide) ?_ | refine byte0 3 (by decide) ?_ | refine byte0 4 (by decide) ?_)))))) | ((with_reducible show wpAny _ _ (subscriptTail _ _ (Value.str _ _) (Value.int _ _)) _ _ _); (with_reducible ((k_dflt (first | ((with_reducible show wpAny _ _ (subscriptTail _ _ _ (Value.int 0 _)) _ _ _); (refine letter 0 (Str.ofString "a") (by decide) (by decide) (by decide +kernel) ?_)) | ((with_reducible show wpAny _ _ (subscriptTail _ _ _ (Value.int 1 _)) _ _ _); (refine letter 1 (Str.ofString "b") (by decide) (by decide) (by decide +kernel) ?_)) | ((with_reducible show wpAny _ _ (subscriptTail _ _ _ (Value.int 2 _)) _ _ _); (refine letter 2 (Str.ofString "c") (by decide) (by decide) (by decide +kernel) ?_)) | ((with_reducible show wpAny _ _ (subscriptTail _ _ _ (Value.int 3 _)) _ _ _); (refine letter 3 (Str.ofString "d") (by decide) (by decide) (by decide +kernel) ?_)) | ((with_reducible show wpAny _ _ (subscriptTail _ _ _ (Value.int 4 _)) _ _ _); (refine letter 4 (Str.ofString "e") (by decide) (by decide) (by decide +kernel) ?_))))))) | ((with_reducible show wpAny _ _ (pyNext (Value.ref _)) _ _ _); (with_reducible ((k_dflt (first | (refine' pyNext_item_K ?Fq327 ?Nq327 ?lq327 ?Uq327 ?_; (case Fq327 => k_asm); (case Nq327 => k_asm); (case Uq327 => k_upd); (case lq327 => decide); k_whole; intro h' t' F' N'; (try dsimp only); (try k_sweep)) | (refine' pyNext_end_K rfl ?Fq327 ?Nq327 ?lq327 ?Iq327 ?_; (case Fq327 => k_asm); (case Nq327 => k_asm); (case lq327 => decide); (case Iq327 => (repeat' (first | exact List.forall_mem_nil _ | assumption | (refine' List.forall_mem_cons.mpr ⟨?_, ?_⟩) | (show @LT.lt Nat _ _ _; dsimp only; omega)))); intro h' F' N'; (try dsimp only); (try k_sweep))))))) | ((with_reducible show wpAny _ _ (pyIter (Value.ref _)) _ _ _); (with_reducible ((k_dflt (refine pyIter_K 5 5 (by assumption) (by rfl) (by decide) (by k_asm) (by k_asm) ?_); intro I' h' F' N' l1; (try dsimp only at N'); (try k_lt l1); (repeat (have n1' := And.left l1; replace l1 := And.right l1)))))) | ((with_reducible show Exists _); (with_reducible ((k_dflt (exact fn_there (by k_asm) (by k_asm) (by k_is) (by exact rfl)))))) | walk1 | ((fail_if_success k_end); dsimp only) | (leave1; walk_say "STEP leave1"; (try dsimp only)) | fail "no step"))
      (try dsimp only)
      refine calm_execs (calm_Assign_Name (calm_callFn (a := 77) ?_))
      (repeat' (first | (k_unfold; (try dsimp only)) | (k_end; wrow_close) | ((with_reducible show wpAny _ _ (eval (Expr.Name _ _) (compEnvC _ _ _ _)) _ _ _); (first | (with_reducible ((name_kind "globalImplicit"); k_dflt (refine LCgL.ld_global (by k_asm) (by k_asm) (by k_asm) (by k_is) ?_))) | (with_reducible ((name_kind "local"); k_dflt (refine LCgL.ld_own (by k_asm) (by k_mem) (by assumption) (by assumption) ?_))) | (with_reducible (k_dflt (refine kcf_cell (by k_asm) (by rfl) (by k_mem) (by k_asm) ?_))))) | ((with_reducible show wpAny _ _ (callWith _ (Value.builtin _) (_ :: _) _ _) _ _ _); (first | (with_reducible (refine callWith_method1 ?_)) | (refine callWith_method1 ?_))) | ((with_reducible show wpAny _ _ (eval (Expr.Name _ _) _) _ _ _); (first | (with_reducible ((name_kind "local"); k_dflt (refine' nameX_L ?xFq360 ?xvq360 ?_ ?xaq360 ?xbq360; (case xaq360 => rfl); (case xbq360 => rfl); (case xFq360 => k_asm); (case xvq360 => rfl); k_whole))) | (with_reducible ((name_kind "globalImplicit"); k_dflt (refine' nameX_K ?yFq361 ?yXq361 ?yTq361 ?yeq361 ?_ ?yaq361 ?ybq361; (case yaq361 => rfl); (case ybq361 => rfl); (case yFq361 => k_asm); (case yXq361 => k_asm); (case yTq361 => k_asm); (case yeq361 => k_is); k_whole))))) | ((with_reducible show wpAny _ _ (callWith _ (Value.ref _) _ _ _) _ _ _); (with_reducible (k_dflt (refine' callWith_K ?zXq362 ?zkq362 ?_; (case zXq362 => k_asm); (case zkq362 => k_is); k_whole)))) | ((with_reducible show wpAny _ _ (call (Value.builtin "list.append") _) _ _ _); (with_reducible (((with_reducible show wpAny _ _ (call (Value.builtin _) [Value.ref _, _]) _ _ _); k_dflt (refine' append_K ?k1q334 ?k2q334 ?k3q334 ?_ ?zq334; (case k1q334 => k_asm); (case k2q334 => k_asm); (case k3q334 => k_upd); (case zq334 => exact Nat.le_of_ble_eq_true rfl); k_whole); intro h' F' N'; (try k_sweep))))) | ((with_reducible show wpAny _ _ (call (Value.ref _) _) _ _ _); (first | (with_reducible (((with_reducible show wpAny _ _ (call (Value.ref 57) _) _ _ _); k_dflt (refine indent_sum _ _ _ _ (above_low _ _ _ _ _) (above_high _ _ _ _ _) (by decide) _ _ _ _ _ _ _ _ _ _ _ _ _ _ _ _ _ _ (by k_asm) (by k_asm) (by k_asm) (by k_asm) (by k_asm) (by first | exact rfl | assumption) (by trivial) (by ktr_room) (by ktr_units) ?_; intro t9 h9 tk9 F9 N9; (try dsimp only); (try k_sweep))))) | (with_reducible (((with_reducible show wpAny _ _ (call (Value.ref 110) _) _ _ _); k_dflt (refine above_W (by k_asm) (by k_asm) (by exact List.mem_cons_of_mem _ (List.mem_cons_of_mem _ (by assumption))) (by exact List.mem_cons_of_mem _ (List.mem_cons_of_mem _ (by assumption))) (by rfl) (by rfl) (by rfl) (by rfl) (by rfl) (by rfl) (by rfl) (by rfl) (by rfl) (by rfl) (by assumption) (by assumption) (by assumption) (by assumption) (by assumption) (by assumption) (by assumption) (by assumption) (by assumption) (by assumption) (fmod_low _ (by decide)) (fmod_high _ (by decide)) (fmod_low _ (by decide)) (fmod_high _ (by decide)) (fmod_low _ (by decide)) (fmod_high _ (by decide)) (fmod_low _ (by decide)) (fmod_high _ (by decide)) (fmod_low _ (by decide)) (fmod_high _ (by decide)) (by k_asm) (by k_asm) (by k_asm) (by first | exact rfl | assumption) (by ktr_room) (by ktr_units) ?_; intro t9 h9 tk9 F9 N9; (try dsimp only); (try k_sweep))))))) | ((with_reducible show wpAny _ _ (binaryOp Operator.Add (Value.bytes _ _) (Value.bytes _ _)) _ _ _); (with_reducible ((k_dflt (refine join5 ?_); intro t' k')))) | ((with_reducible show wpAny _ _ (subscriptTail _ _ (Value.bytes _ _) _) _ _ _); (first | (with_reducible (((with_reducible show wpAny _ _ (subscriptTail _ (Expr.Slice _ _ none _) (Value.bytes _ _) (Value.ref _)) _ _ _); (with_reducible rename Fr _ _ _ _ => F'); (with_reducible rename News _ _ _ _ => N'); k_dflt (first | ((with_reducible show wpAny _ _ (subscriptTail _ (Expr.Slice none _ none _) _ _) _ _ _); (refine cut4 (s := ⟨_, _, _, _, _⟩) F' N' ?_)) | ((with_reducible show wpAny _ _ (subscriptTail _ (Expr.Slice _ none none _) _ _) _ _ _); (refine cut1 (s := ⟨_, _, _, _, _⟩) F' N' ?_))); intro h' t' k' F' N'; (try k_sweep)))) | (with_reducible (((with_reducible show wpAny _ _ (subscriptTail _ _ (Value.bytes _ _) (Value.int _ _)) _ _ _); k_dflt (first | refine byte0 0 (by decide) ?_ | refine byte0 1 (by decide) ?_ | refine byte0 2 (by decide) ?_ | refine byte0 3 (by decide) ?_ | refine byte0 4 (by decide) ?_)))))) | ((with_reducible show wpAny _ _ (subscriptTail _ _ (Value.str _ _) (Value.int _ _)) _ _ _); (with_reducible ((k_dflt (first | ((with_reducible show wpAny _ _ (subscriptTail _ _ _ (Value.int 0 _)) _ _ _); (refine letter 0 (Str.ofString "a") (by decide) (by decide) (by decide +kernel) ?_)) | ((with_reducible show wpAny _ _ (subscriptTail _ _ _ (Value.int 1 _)) _ _ _); (refine letter 1 (Str.ofString "b") (by decide) (by decide) (by decide +kernel) ?_)) | ((with_reducible show wpAny _ _ (subscriptTail _ _ _ (Value.int 2 _)) _ _ _); (refine letter 2 (Str.ofString "c") (by decide) (by decide) (by decide +kernel) ?_)) | ((with_reducible show wpAny _ _ (subscriptTail _ _ _ (Value.int 3 _)) _ _ _); (refine letter 3 (Str.ofString "d") (by decide) (by decide) (by decide +kernel) ?_)) | ((with_reducible show wpAny _ _ (subscriptTail _ _ _ (Value.int 4 _)) _ _ _); (refine letter 4 (Str.ofString "e") (by decide) (by decide) (by decide +kernel) ?_))))))) | ((with_reducible show wpAny _ _ (pyNext (Value.ref _)) _ _ _); (with_reducible ((k_dflt (first | (refine' pyNext_item_K ?Fq327 ?Nq327 ?lq327 ?Uq327 ?_; (case Fq327 => k_asm); (case Nq327 => k_asm); (case Uq327 => k_upd); (case lq327 => decide); k_whole; intro h' t' F' N'; (try dsimp only); (try k_sweep)) | (refine' pyNext_end_K rfl ?Fq327 ?Nq327 ?lq327 ?Iq327 ?_; (case Fq327 => k_asm); (case Nq327 => k_asm); (case lq327 => decide); (case Iq327 => (repeat' (first | exact List.forall_mem_nil _ | assumption | (refine' List.forall_mem_cons.mpr ⟨?_, ?_⟩) | (show @LT.lt Nat _ _ _; dsimp only; omega)))); intro h' F' N'; (try dsimp only); (try k_sweep))))))) | ((with_reducible show wpAny _ _ (pyIter (Value.ref _)) _ _ _); (with_reducible ((k_dflt (refine pyIter_K 5 5 (by assumption) (by rfl) (by decide) (by k_asm) (by k_asm) ?_); intro I' h' F' N' l1; (try dsimp only at N'); (try k_lt l1); (repeat (have n1' := And.left l1; replace l1 := And.right l1)))))) | ((with_reducible show Exists _); (with_reducible ((k_dflt (exact fn_there (by k_asm) (by k_asm) (by k_is) (by exact rfl)))))) | walk1 | ((fail_if_success k_end); dsimp only) | (leave1; walk_say "STEP leave1"; (try dsimp only)) | fail "no step"))
      k_dflt refine swap_sum _ _ _ _ _ _ _ _ _ _ _ _ _ _ _ _ _ _ _ _ _ _ _ _ (by k_asm) (by k_asm) (by k_asm) (by k_asm) (by k_asm) (by first | exact rfl | assumption) (by ktr_room) (by ktr_units) ?_
      intro t9 h9 tk9 F9 N9
      (try dsimp only)
      (try k_sweep)
      refine calm_of ?_
      (repeat' (first | (k_unfold; (try dsimp only)) | (k_end; wrow_close) | ((with_reducible show wpAny _ _ (eval (Expr.Name _ _) (compEnvC _ _ _ _)) _ _ _); (first | (with_reducible ((name_kind "globalImplicit"); k_dflt (refine LCgL.ld_global (by k_asm) (by k_asm) (by k_asm) (by k_is) ?_))) | (with_reducible ((name_kind "local"); k_dflt (refine LCgL.ld_own (by k_asm) (by k_mem) (by assumption) (by assumption) ?_))) | (with_reducible (k_dflt (refine kcf_cell (by k_asm) (by rfl) (by k_mem) (by k_asm) ?_))))) | ((with_reducible show wpAny _ _ (callWith _ (Value.builtin _) (_ :: _) _ _) _ _ _); (first | (with_reducible (refine callWith_method1 ?_)) | (refine callWith_method1 ?_))) | ((with_reducible show wpAny _ _ (eval (Expr.Name _ _) _) _ _ _); (first | (with_reducible ((name_kind "local"); k_dflt (refine' nameX_L ?xFq367 ?xvq367 ?_ ?xaq367 ?xbq367; (case xaq367 => rfl); (case xbq367 => rfl); (case xFq367 => k_asm); (case xvq367 => rfl); k_whole))) | (with_reducible ((name_kind "globalImplicit"); k_dflt (refine' nameX_K ?yFq368 ?yXq368 ?yTq368 ?yeq368 ?_ ?yaq368 ?ybq368; (case yaq368 => rfl); (case ybq368 => rfl); (case yFq368 => k_asm); (case yXq368 => k_asm); (case yTq368 => k_asm); (case yeq368 => k_is); k_whole))))) | ((with_reducible show wpAny _ _ (callWith _ (Value.ref _) _ _ _) _ _ _); (with_reducible (k_dflt (refine' callWith_K ?zXq369 ?zkq369 ?_; (case zXq369 => k_asm); (case zkq369 => k_is); k_whole)))) | ((with_reducible show wpAny _ _ (call (Value.builtin "list.append") _) _ _ _); (with_reducible (((with_reducible show wpAny _ _ (call (Value.builtin _) [Value.ref _, _]) _ _ _); k_dflt (refine' append_K ?k1q334 ?k2q334 ?k3q334 ?_ ?zq334; (case k1q334 => k_asm); (case k2q334 => k_asm); (case k3q334 => k_upd); (case zq334 => exact Nat.le_of_ble_eq_true rfl); k_whole); intro h' F' N'; (try k_sweep))))) | ((with_reducible show wpAny _ _ (call (Value.ref _) _) _ _ _); (first | (with_reducible (((with_reducible show wpAny _ _ (call (Value.ref 57) _) _ _ _); k_dflt (refine indent_sum _ _ _ _ (above_low _ _ _ _ _) (above_high _ _ _ _ _) (by decide) _ _ _ _ _ _ _ _ _ _ _ _ _ _ _ _ _ _ (by k_asm) (by k_asm) (by k_asm) (by k_asm) (by k_asm) (by first | exact rfl | assumption) (by trivial) (by ktr_room) (by ktr_units) ?_; intro t9 h9 tk9 F9 N9; (try dsimp only); (try k_sweep))))) | (with_reducible (((with_reducible show wpAny _ _ (call (Value.ref 110) _) _ _ _); k_dflt (refine above_W (by k_asm) (by k_asm) (by exact List.mem_cons_of_mem _ (List.mem_cons_of_mem _ (by assumption))) (by exact List.mem_cons_of_mem _ (List.mem_cons_of_mem _ (by assumption))) (by rfl) (by rfl) (by rfl) (by rfl) (by rfl) (by rfl) (by rfl) (by rfl) (by rfl) (by rfl) (by assumption) (by assumption) (by assumption) (by assumption) (by assumption) (by assumption) (by assumption) (by assumption) (by assumption) (by assumption) (fmod_low _ (by decide)) (fmod_high _ (by decide)) (fmod_low _ (by decide)) (fmod_high _ (by decide)) (fmod_low _ (by decide)) (fmod_high _ (by decide)) (fmod_low _ (by decide)) (fmod_high _ (by decide)) (fmod_low _ (by decide)) (fmod_high _ (by decide)) (by k_asm) (by k_asm) (by k_asm) (by first | exact rfl | assumption) (by ktr_room) (by ktr_units) ?_; intro t9 h9 tk9 F9 N9; (try dsimp only); (try k_sweep))))))) | ((with_reducible show wpAny _ _ (binaryOp Operator.Add (Value.bytes _ _) (Value.bytes _ _)) _ _ _); (with_reducible ((k_dflt (refine join5 ?_); intro t' k')))) | ((with_reducible show wpAny _ _ (subscriptTail _ _ (Value.bytes _ _) _) _ _ _); (first | (with_reducible (((with_reducible show wpAny _ _ (subscriptTail _ (Expr.Slice _ _ none _) (Value.bytes _ _) (Value.ref _)) _ _ _); (with_reducible rename Fr _ _ _ _ => F'); (with_reducible rename News _ _ _ _ => N'); k_dflt (first | ((with_reducible show wpAny _ _ (subscriptTail _ (Expr.Slice none _ none _) _ _) _ _ _); (refine cut4 (s := ⟨_, _, _, _, _⟩) F' N' ?_)) | ((with_reducible show wpAny _ _ (subscriptTail _ (Expr.Slice _ none none _) _ _) _ _ _); (refine cut1 (s := ⟨_, _, _, _, _⟩) F' N' ?_))); intro h' t' k' F' N'; (try k_sweep)))) | (with_reducible (((with_reducible show wpAny _ _ (subscriptTail _ _ (Value.bytes _ _) (Value.int _ _)) _ _ _); k_dflt (first | refine byte0 0 (by decide) ?_ | refine byte0 1 (by decide) ?_ | refine byte0 2 (by decide) ?_ | refine byte0 3 (by decide) ?_ | refine byte0 4 (by decide) ?_)))))) | ((with_reducible show wpAny _ _ (subscriptTail _ _ (Value.str _ _) (Value.int _ _)) _ _ _); (with_reducible ((k_dflt (first | ((with_reducible show wpAny _ _ (subscriptTail _ _ _ (Value.int 0 _)) _ _ _); (refine letter 0 (Str.ofString "a") (by decide) (by decide) (by decide +kernel) ?_)) | ((with_reducible show wpAny _ _ (subscriptTail _ _ _ (Value.int 1 _)) _ _ _); (refine letter 1 (Str.ofString "b") (by decide) (by decide) (by decide +kernel) ?_)) | ((with_reducible show wpAny _ _ (subscriptTail _ _ _ (Value.int 2 _)) _ _ _); (refine letter 2 (Str.ofString "c") (by decide) (by decide) (by decide +kernel) ?_)) | ((with_reducible show wpAny _ _ (subscriptTail _ _ _ (Value.int 3 _)) _ _ _); (refine letter 3 (Str.ofString "d") (by decide) (by decide) (by decide +kernel) ?_)) | ((with_reducible show wpAny _ _ (subscriptTail _ _ _ (Value.int 4 _)) _ _ _); (refine letter 4 (Str.ofString "e") (by decide) (by decide) (by decide +kernel) ?_))))))) | ((with_reducible show wpAny _ _ (pyNext (Value.ref _)) _ _ _); (with_reducible ((k_dflt (first | (refine' pyNext_item_K ?Fq327 ?Nq327 ?lq327 ?Uq327 ?_; (case Fq327 => k_asm); (case Nq327 => k_asm); (case Uq327 => k_upd); (case lq327 => decide); k_whole; intro h' t' F' N'; (try dsimp only); (try k_sweep)) | (refine' pyNext_end_K rfl ?Fq327 ?Nq327 ?lq327 ?Iq327 ?_; (case Fq327 => k_asm); (case Nq327 => k_asm); (case lq327 => decide); (case Iq327 => (repeat' (first | exact List.forall_mem_nil _ | assumption | (refine' List.forall_mem_cons.mpr ⟨?_, ?_⟩) | (show @LT.lt Nat _ _ _; dsimp only; omega)))); intro h' F' N'; (try dsimp only); (try k_sweep))))))) | ((with_reducible show wpAny _ _ (pyIter (Value.ref _)) _ _ _); (with_reducible ((k_dflt (refine pyIter_K 5 5 (by assumption) (by rfl) (by decide) (by k_asm) (by k_asm) ?_); intro I' h' F' N' l1; (try dsimp only at N'); (try k_lt l1); (repeat (have n1' := And.left l1; replace l1 := And.right l1)))))) | ((with_reducible show Exists _); (with_reducible ((k_dflt (exact fn_there (by k_asm) (by k_asm) (by k_is) (by exact rfl)))))) | walk1 | ((fail_if_success k_end); dsimp only) | (leave1; walk_say "STEP leave1"; (try dsimp only)) | fail "no step"))
      (try dsimp only)
      refine calm_execs (calm_of ?_)
      (repeat' (first | (k_unfold; (try dsimp only)) | (k_end; wrow_close) | ((with_reducible show wpAny _ _ (eval (Expr.Name _ _) (compEnvC _ _ _ _)) _ _ _); (first | (with_reducible ((name_kind "globalImplicit"); k_dflt (refine LCgL.ld_global (by k_asm) (by k_asm) (by k_asm) (by k_is) ?_))) | (with_reducible ((name_kind "local"); k_dflt (refine LCgL.ld_own (by k_asm) (by k_mem) (by assumption) (by assumption) ?_))) | (with_reducible (k_dflt (refine kcf_cell (by k_asm) (by rfl) (by k_mem) (by k_asm) ?_))))) | ((with_reducible show wpAny _ _ (callWith _ (Value.builtin _) (_ :: _) _ _) _ _ _); (first | (with_reducible (refine callWith_method1 ?_)) | (refine callWith_method1 ?_))) | ((with_reducible show wpAny _ _ (eval (Expr.Name _ _) _) _ _ _); (first | (with_reducible ((name_kind "local"); k_dflt (refine' nameX_L ?xFq374 ?xvq374 ?_ ?xaq374 ?xbq374; (case xaq374 => rfl); (case xbq374 => rfl); (case xFq374 => k_asm); (case xvq374 => rfl); k_whole))) | (with_reducible ((name_kind "globalImplicit"); k_dflt (refine' nameX_K ?yFq375 ?yXq375 ?yTq375 ?yeq375 ?_ ?yaq375 ?ybq375; (case yaq375 => rfl); (case ybq375 => rfl); (case yFq375 => k_asm); (case yXq375 => k_asm); (case yTq375 => k_asm); (case yeq375 => k_is); k_whole))))) | ((with_reducible show wpAny _ _ (callWith _ (Value.ref _) _ _ _) _ _ _); (with_reducible (k_dflt (refine' callWith_K ?zXq376 ?zkq376 ?_; (case zXq376 => k_asm); (case zkq376 => k_is); k_whole)))) | ((with_reducible show wpAny _ _ (call (Value.builtin "list.append") _) _ _ _); (with_reducible (((with_reducible show wpAny _ _ (call (Value.builtin _) [Value.ref _, _]) _ _ _); k_dflt (refine' append_K ?k1q334 ?k2q334 ?k3q334 ?_ ?zq334; (case k1q334 => k_asm); (case k2q334 => k_asm); (case k3q334 => k_upd); (case zq334 => exact Nat.le_of_ble_eq_true rfl); k_whole); intro h' F' N'; (try k_sweep))))) | ((with_reducible show wpAny _ _ (call (Value.ref _) _) _ _ _); (first | (with_reducible (((with_reducible show wpAny _ _ (call (Value.ref 57) _) _ _ _); k_dflt (refine indent_sum _ _ _ _ (above_low _ _ _ _ _) (above_high _ _ _ _ _) (by decide) _ _ _ _ _ _ _ _ _ _ _ _ _ _ _ _ _ _ (by k_asm) (by k_asm) (by k_asm) (by k_asm) (by k_asm) (by first | exact rfl | assumption) (by trivial) (by ktr_room) (by ktr_units) ?_; intro t9 h9 tk9 F9 N9; (try dsimp only); (try k_sweep))))) | (with_reducible (((with_reducible show wpAny _ _ (call (Value.ref 110) _) _ _ _); k_dflt (refine above_W (by k_asm) (by k_asm) (by exact List.mem_cons_of_mem _ (List.mem_cons_of_mem _ (by assumption))) (by exact List.mem_cons_of_mem _ (List.mem_cons_of_mem _ (by assumption))) (by rfl) (by rfl) (by rfl) (by rfl) (by rfl) (by rfl) (by rfl) (by rfl) (by rfl) (by rfl) (by assumption) (by assumption) (by assumption) (by assumption) (by assumption) (by assumption) (by assumption) (by assumption) (by assumption) (by assumption) (fmod_low _ (by decide)) (fmod_high _ (by decide)) (fmod_low _ (by decide)) (fmod_high _ (by decide)) (fmod_low _ (by decide)) (fmod_high _ (by decide)) (fmod_low _ (by decide)) (fmod_high _ (by decide)) (fmod_low _ (by decide)) (fmod_high _ (by decide)) (by k_asm) (by k_asm) (by k_asm) (by first | exact rfl | assumption) (by ktr_room) (by ktr_units) ?_; intro t9 h9 tk9 F9 N9; (try dsimp only); (try k_sweep))))))) | ((with_reducible show wpAny _ _ (binaryOp Operator.Add (Value.bytes _ _) (Value.bytes _ _)) _ _ _); (with_reducible ((k_dflt (refine join5 ?_); intro t' k')))) | ((with_reducible show wpAny _ _ (subscriptTail _ _ (Value.bytes _ _) _) _ _ _); (first | (with_reducible (((with_reducible show wpAny _ _ (subscriptTail _ (Expr.Slice _ _ none _) (Value.bytes _ _) (Value.ref _)) _ _ _); (with_reducible rename Fr _ _ _ _ => F'); (with_reducible rename News _ _ _ _ => N'); k_dflt (first | ((with_reducible show wpAny _ _ (subscriptTail _ (Expr.Slice none _ none _) _ _) _ _ _); (refine cut4 (s := ⟨_, _, _, _, _⟩) F' N' ?_)) | ((with_reducible show wpAny _ _ (subscriptTail _ (Expr.Slice _ none none _) _ _) _ _ _); (refine cut1 (s := ⟨_, _, _, _, _⟩) F' N' ?_))); intro h' t' k' F' N'; (try k_sweep)))) | (with_reducible (((with_reducible show wpAny _ _ (subscriptTail _ _ (Value.bytes _ _) (Value.int _ _)) _ _ _); k_dflt (first | refine byte0 0 (by decide) ?_ | refine byte0 1 (by decide) ?_ | refine byte0 2 (by decide) ?_ | refine byte0 3 (by decide) ?_ | refine byte0 4 (by decide) ?_)))))) | ((with_reducible show wpAny _ _ (subscriptTail _ _ (Value.str _ _) (Value.int _ _)) _ _ _); (with_reducible ((k_dflt (first | ((with_reducible show wpAny _ _ (subscriptTail _ _ _ (Value.int 0 _)) _ _ _); (refine letter 0 (Str.ofString "a") (by decide) (by decide) (by decide +kernel) ?_)) | ((with_reducible show wpAny _ _ (subscriptTail _ _ _ (Value.int 1 _)) _ _ _); (refine letter 1 (Str.ofString "b") (by decide) (by decide) (by decide +kernel) ?_)) | ((with_reducible show wpAny _ _ (subscriptTail _ _ _ (Value.int 2 _)) _ _ _); (refine letter 2 (Str.ofString "c") (by decide) (by decide) (by decide +kernel) ?_)) | ((with_reducible show wpAny _ _ (subscriptTail _ _ _ (Value.int 3 _)) _ _ _); (refine letter 3 (Str.ofString "d") (by decide) (by decide) (by decide +kernel) ?_)) | ((with_reducible show wpAny _ _ (subscriptTail _ _ _ (Value.int 4 _)) _ _ _); (refine letter 4 (Str.ofString "e") (by decide) (by decide) (by decide +kernel) ?_))))))) | ((with_reducible show wpAny _ _ (pyNext (Value.ref _)) _ _ _); (with_reducible ((k_dflt (first | (refine' pyNext_item_K ?Fq327 ?Nq327 ?lq327 ?Uq327 ?_; (case Fq327 => k_asm); (case Nq327 => k_asm); (case Uq327 => k_upd); (case lq327 => decide); k_whole; intro h' t' F' N'; (try dsimp only); (try k_sweep)) | (refine' pyNext_end_K rfl ?Fq327 ?Nq327 ?lq327 ?Iq327 ?_; (case Fq327 => k_asm); (case Nq327 => k_asm); (case lq327 => decide); (case Iq327 => (repeat' (first | exact List.forall_mem_nil _ | assumption | (refine' List.forall_mem_cons.mpr ⟨?_, ?_⟩) | (show @LT.lt Nat _ _ _; dsimp only; omega)))); intro h' F' N'; (try dsimp only); (try k_sweep))))))) | ((with_reducible show wpAny _ _ (pyIter (Value.ref _)) _ _ _); (with_reducible ((k_dflt (refine pyIter_K 5 5 (by assumption) (by rfl) (by decide) (by k_asm) (by k_asm) ?_); intro I' h' F' N' l1; (try dsimp only at N'); (try k_lt l1); (repeat (have n1' := And.left l1; replace l1 := And.right l1)))))) | ((with_reducible show Exists _); (with_reducible ((k_dflt (exact fn_there (by k_asm) (by k_asm) (by k_is) (by exact rfl)))))) | walk1 | ((fail_if_success k_end); dsimp only) | (leave1; walk_say "STEP leave1"; (try dsimp only)) | fail "no step"))
      (try dsimp only)
      refine calm_execs (calm_of ?_)
      (repeat' (first | (k_unfold; (try dsimp only)) | (k_end; wrow_close) | ((with_reducible show wpAny _ _ (eval (Expr.Name _ _) (compEnvC _ _ _ _)) _ _ _); (first | (with_reducible ((name_kind "globalImplicit"); k_dflt (refine LCgL.ld_global (by k_asm) (by k_asm) (by k_asm) (by k_is) ?_))) | (with_reducible ((name_kind "local"); k_dflt (refine LCgL.ld_own (by k_asm) (by k_mem) (by assumption) (by assumption) ?_))) | (with_reducible (k_dflt (refine kcf_cell (by k_asm) (by rfl) (by k_mem) (by k_asm) ?_))))) | ((with_reducible show wpAny _ _ (callWith _ (Value.builtin _) (_ :: _) _ _) _ _ _); (first | (with_reducible (refine callWith_method1 ?_)) | (refine callWith_method1 ?_))) | ((with_reducible show wpAny _ _ (eval (Expr.Name _ _) _) _ _ _); (first | (with_reducible ((name_kind "local"); k_dflt (refine' nameX_L ?xFq381 ?xvq381 ?_ ?xaq381 ?xbq381; (case xaq381 => rfl); (case xbq381 => rfl); (case xFq381 => k_asm); (case xvq381 => rfl); k_whole))) | (with_reducible ((name_kind "globalImplicit"); k_dflt (refine' nameX_K ?yFq382 ?yXq382 ?yTq382 ?yeq382 ?_ ?yaq382 ?ybq382; (case yaq382 => rfl); (case ybq382 => rfl); (case yFq382 => k_asm); (case yXq382 => k_asm); (case yTq382 => k_asm); (case yeq382 => k_is); k_whole))))) | ((with_reducible show wpAny _ _ (callWith _ (Value.ref _) _ _ _) _ _ _); (with_reducible (k_dflt (refine' callWith_K ?zXq383 ?zkq383 ?_; (case zXq383 => k_asm); (case zkq383 => k_is); k_whole)))) | ((with_reducible show wpAny _ _ (call (Value.builtin "list.append") _) _ _ _); (with_reducible (((with_reducible show wpAny _ _ (call (Value.builtin _) [Value.ref _, _]) _ _ _); k_dflt (refine' append_K ?k1q334 ?k2q334 ?k3q334 ?_ ?zq334; (case k1q334 => k_asm); (case k2q334 => k_asm); (case k3q334 => k_upd); (case zq334 => exact Nat.le_of_ble_eq_true rfl); k_whole); intro h' F' N'; (try k_sweep))))) | ((with_reducible show wpAny _ _ (call (Value.ref _) _) _ _ _); (first | (with_reducible (((with_reducible show wpAny _ _ (call (Value.ref 57) _) _ _ _); k_dflt (refine indent_sum _ _ _ _ (above_low _ _ _ _ _) (above_high _ _ _ _ _) (by decide) _ _ _ _ _ _ _ _ _ _ _ _ _ _ _ _ _ _ (by k_asm) (by k_asm) (by k_asm) (by k_asm) (by k_asm) (by first | exact rfl | assumption) (by trivial) (by ktr_room) (by ktr_units) ?_; intro t9 h9 tk9 F9 N9; (try dsimp only); (try k_sweep))))) | (with_reducible (((with_reducible show wpAny _ _ (call (Value.ref 110) _) _ _ _); k_dflt (refine above_W (by k_asm) (by k_asm) (by exact List.mem_cons_of_mem _ (List.mem_cons_of_mem _ (by assumption))) (by exact List.mem_cons_of_mem _ (List.mem_cons_of_mem _ (by assumption))) (by rfl) (by rfl) (by rfl) (by rfl) (by rfl) (by rfl) (by rfl) (by rfl) (by rfl) (by rfl) (by assumption) (by assumption) (by assumption) (by assumption) (by assumption) (by assumption) (by assumption) (by assumption) (by assumption) (by assumption) (fmod_low _ (by decide)) (fmod_high _ (by decide)) (fmod_low _ (by decide)) (fmod_high _ (by decide)) (fmod_low _ (by decide)) (fmod_high _ (by decide)) (fmod_low _ (by decide)) (fmod_high _ (by decide)) (fmod_low _ (by decide)) (fmod_high _ (by decide)) (by k_asm) (by k_asm) (by k_asm) (by first | exact rfl | assumption) (by ktr_room) (by ktr_units) ?_; intro t9 h9 tk9 F9 N9; (try dsimp only); (try k_sweep))))))) | ((with_reducible show wpAny _ _ (binaryOp Operator.Add (Value.bytes _ _) (Value.bytes _ _)) _ _ _); (with_reducible ((k_dflt (refine join5 ?_); intro t' k')))) | ((with_reducible show wpAny _ _ (subscriptTail _ _ (Value.bytes _ _) _) _ _ _); (first | (with_reducible (((with_reducible show wpAny _ _ (subscriptTail _ (Expr.Slice _ _ none _) (Value.bytes _ _) (Value.ref _)) _ _ _); (with_reducible rename Fr _ _ _ _ => F'); (with_reducible rename News _ _ _ _ => N'); k_dflt (first | ((with_reducible show wpAny _ _ (subscriptTail _ (Expr.Slice none _ none _) _ _) _ _ _); (refine cut4 (s := ⟨_, _, _, _, _⟩) F' N' ?_)) | ((with_reducible show wpAny _ _ (subscriptTail _ (Expr.Slice _ none none _) _ _) _ _ _); (refine cut1 (s := ⟨_, _, _, _, _⟩) F' N' ?_))); intro h' t' k' F' N'; (try k_sweep)))) | (with_reducible (((with_reducible show wpAny _ _ (subscriptTail _ _ (Value.bytes _ _) (Value.int _ _)) _ _ _); k_dflt (first | refine byte0 0 (by decide) ?_ | refine byte0 1 (by decide) ?_ | refine byte0 2 (by decide) ?_ | refine byte0 3 (by decide) ?_ | refine byte0 4 (by decide) ?_)))))) | ((with_reducible show wpAny _ _ (subscriptTail _ _ (Value.str _ _) (Value.int _ _)) _ _ _); (with_reducible ((k_dflt (first | ((with_reducible show wpAny _ _ (subscriptTail _ _ _ (Value.int 0 _)) _ _ _); (refine letter 0 (Str.ofString "a") (by decide) (by decide) (by decide +kernel) ?_)) | ((with_reducible show wpAny _ _ (subscriptTail _ _ _ (Value.int 1 _)) _ _ _); (refine letter 1 (Str.ofString "b") (by decide) (by decide) (by decide +kernel) ?_)) | ((with_reducible show wpAny _ _ (subscriptTail _ _ _ (Value.int 2 _)) _ _ _); (refine letter 2 (Str.ofString "c") (by decide) (by decide) (by decide +kernel) ?_)) | ((with_reducible show wpAny _ _ (subscriptTail _ _ _ (Value.int 3 _)) _ _ _); (refine letter 3 (Str.ofString "d") (by decide) (by decide) (by decide +kernel) ?_)) | ((with_reducible show wpAny _ _ (subscriptTail _ _ _ (Value.int 4 _)) _ _ _); (refine letter 4 (Str.ofString "e") (by decide) (by decide) (by decide +kernel) ?_))))))) | ((with_reducible show wpAny _ _ (pyNext (Value.ref _)) _ _ _); (with_reducible ((k_dflt (first | (refine' pyNext_item_K ?Fq327 ?Nq327 ?lq327 ?Uq327 ?_; (case Fq327 => k_asm); (case Nq327 => k_asm); (case Uq327 => k_upd); (case lq327 => decide); k_whole; intro h' t' F' N'; (try dsimp only); (try k_sweep)) | (refine' pyNext_end_K rfl ?Fq327 ?Nq327 ?lq327 ?Iq327 ?_; (case Fq327 => k_asm); (case Nq327 => k_asm); (case lq327 => decide); (case Iq327 => (repeat' (first | exact List.forall_mem_nil _ | assumption | (refine' List.forall_mem_cons.mpr ⟨?_, ?_⟩) | (show @LT.lt Nat _ _ _; dsimp only; omega)))); intro h' F' N'; (try dsimp only); (try k_sweep))))))) | ((with_reducible show wpAny _ _ (pyIter (Value.ref _)) _ _ _); (with_reducible ((k_dflt (refine pyIter_K 5 5 (by assumption) (by rfl) (by decide) (by k_asm) (by k_asm) ?_); intro I' h' F' N' l1; (try dsimp only at N'); (try k_lt l1); (repeat (have n1' := And.left l1; replace l1 := And.right l1)))))) | ((with_reducible show Exists _); (with_reducible ((k_dflt (exact fn_there (by k_asm) (by k_asm) (by k_is) (by exact rfl)))))) | walk1 | ((fail_if_success k_end); dsimp only) | (leave1; walk_say "STEP leave1"; (try dsimp only)) | fail "no step"))
      (try dsimp only)
      refine calm_execs (calm_Assign_Name (calm_BinOp (calm_callFn (a := 77) ?_)))
      (repeat' (first | (k_unfold; (try dsimp only)) | (k_end; wrow_close) | ((with_reducible show wpAny _ _ (eval (Expr.Name _ _) (compEnvC _ _ _ _)) _ _ _); (first | (with_reducible ((name_kind "globalImplicit"); k_dflt (refine LCgL.ld_global (by k_asm) (by k_asm) (by k_asm) (by k_is) ?_))) | (with_reducible ((name_kind "local"); k_dflt (refine LCgL.ld_own (by k_asm) (by k_mem) (by assumption) (by assumption) ?_))) | (with_reducible (k_dflt (refine kcf_cell (by k_asm) (by rfl) (by k_mem) (by k_asm) ?_))))) | ((with_reducible show wpAny _ _ (callWith _ (Value.builtin _) (_ :: _) _ _) _ _ _); (first | (with_reducible (refine callWith_method1 ?_)) | (refine callWith_method1 ?_))) | ((with_reducible show wpAny _ _ (eval (Expr.Name _ _) _) _ _ _); (first | (with_reducible ((name_kind "local"); k_dflt (refine' nameX_L ?xFq388 ?xvq388 ?_ ?xaq388 ?xbq388; (case xaq388 => rfl); (case xbq388 => rfl); (case xFq388 => k_asm); (case xvq388 => rfl); k_whole))) | (with_reducible ((name_kind "globalImplicit"); k_dflt (refine' nameX_K ?yFq389 ?yXq389 ?yTq389 ?yeq389 ?_ ?yaq389 ?ybq389; (case yaq389 => rfl); (case ybq389 => rfl); (case yFq389 => k_asm); (case yXq389 => k_asm); (case yTq389 => k_asm); (case yeq389 => k_is); k_whole))))) | ((with_reducible show wpAny _ _ (callWith _ (Value.ref _) _ _ _) _ _ _); (with_reducible (k_dflt (refine' callWith_K ?zXq390 ?zkq390 ?_; (case zXq390 => k_asm); (case zkq390 => k_is); k_whole)))) | ((with_reducible show wpAny _ _ (call (Value.builtin "list.append") _) _ _ _); (with_reducible (((with_reducible show wpAny _ _ (call (Value.builtin _) [Value.ref _, _]) _ _ _); k_dflt (refine' append_K ?k1q334 ?k2q334 ?k3q334 ?_ ?zq334; (case k1q334 => k_asm); (case k2q334 => k_asm); (case k3q334 => k_upd); (case zq334 => exact Nat.le_of_ble_eq_true rfl); k_whole); intro h' F' N'; (try k_sweep))))) | ((with_reducible show wpAny _ _ (call (Value.ref _) _) _ _ _); (first | (with_reducible (((with_reducible show wpAny _ _ (call (Value.ref 57) _) _ _ _); k_dflt (refine indent_sum _ _ _ _ (above_low _ _ _ _ _) (above_high _ _ _ _ _) (by decide) _ _ _ _ _ _ _ _ _ _ _ _ _ _ _ _ _ _ (by k_asm) (by k_asm) (by k_asm) (by k_asm) (by k_asm) (by first | exact rfl | assumption) (by trivial) (by ktr_room) (by ktr_units) ?_; intro t9 h9 tk9 F9 N9; (try dsimp only); (try k_sweep))))) | (with_reducible (((with_reducible show wpAny _ _ (call (Value.ref 110) _) _ _ _); k_dflt (refine above_W (by k_asm) (by k_asm) (by exact List.mem_cons_of_mem _ (List.mem_cons_of_mem _ (by assumption))) (by exact List.mem_cons_of_mem _ (List.mem_cons_of_mem _ (by assumption))) (by rfl) (by rfl) (by rfl) (by rfl) (by rfl) (by rfl) (by rfl) (by rfl) (by rfl) (by rfl) (by assumption) (by assumption) (by assumption) (by assumption) (by assumption) (by assumption) (by assumption) (by assumption) (by assumption) (by assumption) (fmod_low _ (by decide)) (fmod_high _ (by decide)) (fmod_low _ (by decide)) (fmod_high _ (by decide)) (fmod_low _ (by decide)) (fmod_high _ (by decide)) (fmod_low _ (by decide)) (fmod_high _ (by decide)) (fmod_low _ (by decide)) (fmod_high _ (by decide)) (by k_asm) (by k_asm) (by k_asm) (by first | exact rfl | assumption) (by ktr_room) (by ktr_units) ?_; intro t9 h9 tk9 F9 N9; (try dsimp only); (try k_sweep))))))) | ((with_reducible show wpAny _ _ (binaryOp Operator.Add (Value.bytes _ _) (Value.bytes _ _)) _ _ _); (with_reducible ((k_dflt (refine join5 ?_); intro t' k')))) | ((with_reducible show wpAny _ _ (subscriptTail _ _ (Value.bytes _ _) _) _ _ _); (first | (with_reducible (((with_reducible show wpAny _ _ (subscriptTail _ (Expr.Slice _ _ none _) (Value.bytes _ _) (Value.ref _)) _ _ _); (with_reducible rename Fr _ _ _ _ => F'); (with_reducible rename News _ _ _ _ => N'); k_dflt (first | ((with_reducible show wpAny _ _ (subscriptTail _ (Expr.Slice none _ none _) _ _) _ _ _); (refine cut4 (s := ⟨_, _, _, _, _⟩) F' N' ?_)) | ((with_reducible show wpAny _ _ (subscriptTail _ (Expr.Slice _ none none _) _ _) _ _ _); (refine cut1 (s := ⟨_, _, _, _, _⟩) F' N' ?_))); intro h' t' k' F' N'; (try k_sweep)))) | (with_reducible (((with_reducible show wpAny _ _ (subscriptTail _ _ (Value.bytes _ _) (Value.int _ _)) _ _ _); k_dflt (first | refine byte0 0 (by decide) ?_ | refine byte0 1 (by decide) ?_ | refine byte0 2 (by decide) ?_ | refine byte0 3 (by decide) ?_ | refine byte0 4 (by decide) ?_)))))) | ((with_reducible show wpAny _ _ (subscriptTail _ _ (Value.str _ _) (Value.int _ _)) _ _ _); (with_reducible ((k_dflt (first | ((with_reducible show wpAny _ _ (subscriptTail _ _ _ (Value.int 0 _)) _ _ _); (refine letter 0 (Str.ofString "a") (by decide) (by decide) (by decide +kernel) ?_)) | ((with_reducible show wpAny _ _ (subscriptTail _ _ _ (Value.int 1 _)) _ _ _); (refine letter 1 (Str.ofString "b") (by decide) (by decide) (by decide +kernel) ?_)) | ((with_reducible show wpAny _ _ (subscriptTail _ _ _ (Value.int 2 _)) _ _ _); (refine letter 2 (Str.ofString "c") (by decide) (by decide) (by decide +kernel) ?_)) | ((with_reducible show wpAny _ _ (subscriptTail _ _ _ (Value.int 3 _)) _ _ _); (refine letter 3 (Str.ofString "d") (by decide) (by decide) (by decide +kernel) ?_)) | ((with_reducible show wpAny _ _ (subscriptTail _ _ _ (Value.int 4 _)) _ _ _); (refine letter 4 (Str.ofString "e") (by decide) (by decide) (by decide +kernel) ?_))))))) | ((with_reducible show wpAny _ _ (pyNext (Value.ref _)) _ _ _); (with_reducible ((k_dflt (first | (refine' pyNext_item_K ?Fq327 ?Nq327 ?lq327 ?Uq327 ?_; (case Fq327 => k_asm); (case Nq327 => k_asm); (case Uq327 => k_upd); (case lq327 => decide); k_whole; intro h' t' F' N'; (try dsimp only); (try k_sweep)) | (refine' pyNext_end_K rfl ?Fq327 ?Nq327 ?lq327 ?Iq327 ?_; (case Fq327 => k_asm); (case Nq327 => k_asm); (case lq327 => decide); (case Iq327 => (repeat' (first | exact List.forall_mem_nil _ | assumption | (refine' List.forall_mem_cons.mpr ⟨?_, ?_⟩) | (show @LT.lt Nat _ _ _; dsimp only; omega)))); intro h' F' N'; (try dsimp only); (try k_sweep))))))) | ((with_reducible show wpAny _ _ (pyIter (Value.ref _)) _ _ _); (with_reducible ((k_dflt (refine pyIter_K 5 5 (by assumption) (by rfl) (by decide) (by k_asm) (by k_asm) ?_); intro I' h' F' N' l1; (try dsimp only at N'); (try k_lt l1); (repeat (have n1' := And.left l1; replace l1 := And.right l1)))))) | ((with_reducible show Exists _); (with_reducible ((k_dflt (exact fn_there (by k_asm) (by k_asm) (by k_is) (by exact rfl)))))) | walk1 | ((fail_if_success k_end); dsimp only) | (leave1; walk_say "STEP leave1"; (try dsimp only)) | fail "no step"))
      k_dflt refine swap_sum4 _ _ _ _ _ _ _ _ _ _ _ _ _ _ _ _ _ _ _ _ _ _ _ (by k_asm) (by k_asm) (by k_asm) (by k_asm) (by k_asm) (by first | exact rfl | assumption) (by ktr_room) (by ktr_units) ?_
      intro t9 h9 tk9 F9 N9
      (try dsimp only)
      (try k_sweep)
      iterate 4 (
        refine calm_of ?_
        (repeat' (first | (k_unfold; (try dsimp only)) | (k_end; wrow_close) | ((with_reducible show wpAny _ _ (eval (Expr.Name _ _) (compEnvC _ _ _ _)) _ _ _); (first | (with_reducible ((name_kind "globalImplicit"); k_dflt (refine LCgL.ld_global (by k_asm) (by k_asm) (by k_asm) (by k_is) ?_))) | (with_reducible ((name_kind "local"); k_dflt (refine LCgL.ld_own (by k_asm) (by k_mem) (by assumption) (by assumption) ?_))) | (with_reducible (k_dflt (refine kcf_cell (by k_asm) (by rfl) (by k_mem) (by k_asm) ?_))))) | ((with_reducible show wpAny _ _ (callWith _ (Value.builtin _) (_ :: _) _ _) _ _ _); (first | (with_reducible (refine callWith_method1 ?_)) | (refine callWith_method1 ?_))) | ((with_reducible show wpAny _ _ (eval (Expr.Name _ _) _) _ _ _); (first | (with_reducible ((name_kind "local"); k_dflt (refine' nameX_L ?xFq395 ?xvq395 ?_ ?xaq395 ?xbq395; (case xaq395 => rfl); (case xbq395 => rfl); (case xFq395 => k_asm); (case xvq395 => rfl); k_whole))) | (with_reducible ((name_kind "globalImplicit"); k_dflt (refine' nameX_K ?yFq396 ?yXq396 ?yTq396 ?yeq396 ?_ ?yaq396 ?ybq396; (case yaq396 => rfl); (case ybq396 => rfl); (case yFq396 => k_asm); (case yXq396 => k_asm); (case yTq396 => k_asm); (case yeq396 => k_is); k_whole))))) | ((with_reducible show wpAny _ _ (callWith _ (Value.ref _) _ _ _) _ _ _); (with_reducible (k_dflt (refine' callWith_K ?zXq397 ?zkq397 ?_; (case zXq397 => k_asm); (case zkq397 => k_is); k_whole)))) | ((with_reducible show wpAny _ _ (call (Value.builtin "list.append") _) _ _ _); (with_reducible (((with_reducible show wpAny _ _ (call (Value.builtin _) [Value.ref _, _]) _ _ _); k_dflt (refine' append_K ?k1q334 ?k2q334 ?k3q334 ?_ ?zq334; (case k1q334 => k_asm); (case k2q334 => k_asm); (case k3q334 => k_upd); (case zq334 => exact Nat.le_of_ble_eq_true rfl); k_whole); intro h' F' N'; (try k_sweep))))) | ((with_reducible show wpAny _ _ (call (Value.ref _) _) _ _ _); (first | (with_reducible (((with_reducible show wpAny _ _ (call (Value.ref 57) _) _ _ _); k_dflt (refine indent_sum _ _ _ _ (above_low _ _ _ _ _) (above_high _ _ _ _ _) (by decide) _ _ _ _ _ _ _ _ _ _ _ _ _ _ _ _ _ _ (by k_asm) (by k_asm) (by k_asm) (by k_asm) (by k_asm) (by first | exact rfl | assumption) (by trivial) (by ktr_room) (by ktr_units) ?_; intro t9 h9 tk9 F9 N9; (try dsimp only); (try k_sweep))))) | (with_reducible (((with_reducible show wpAny _ _ (call (Value.ref 110) _) _ _ _); k_dflt (refine above_W (by k_asm) (by k_asm) (by exact List.mem_cons_of_mem _ (List.mem_cons_of_mem _ (by assumption))) (by exact List.mem_cons_of_mem _ (List.mem_cons_of_mem _ (by assumption))) (by rfl) (by rfl) (by rfl) (by rfl) (by rfl) (by rfl) (by rfl) (by rfl) (by rfl) (by rfl) (by assumption) (by assumption) (by assumption) (by assumption) (by assumption) (by assumption) (by assumption) (by assumption) (by assumption) (by assumption) (fmod_low _ (by decide)) (fmod_high _ (by decide)) (fmod_low _ (by decide)) (fmod_high _ (by decide)) (fmod_low _ (by decide)) (fmod_high _ (by decide)) (fmod_low _ (by decide)) (fmod_high _ (by decide)) (fmod_low _ (by decide)) (fmod_high _ (by decide)) (by k_asm) (by k_asm) (by k_asm) (by first | exact rfl | assumption) (by ktr_room) (by ktr_units) ?_; intro t9 h9 tk9 F9 N9; (try dsimp only); (try k_sweep))))))) | ((with_reducible show wpAny _ _ (binaryOp Operator.Add (Value.bytes _ _) (Value.bytes _ _)) _ _ _); (with_reducible ((k_dflt (refine join5 ?_); intro t' k')))) | ((with_reducible show wpAny _ _ (subscriptTail _ _ (Value.bytes _ _) _) _ _ _); (first | (with_reducible (((with_reducible show wpAny _ _ (subscriptTail _ (Expr.Slice _ _ none _) (Value.bytes _ _) (Value.ref _)) _ _ _); (with_reducible rename Fr _ _ _ _ => F'); (with_reducible rename News _ _ _ _ => N'); k_dflt (first | ((with_reducible show wpAny _ _ (subscriptTail _ (Expr.Slice none _ none _) _ _) _ _ _); (refine cut4 (s := ⟨_, _, _, _, _⟩) F' N' ?_)) | ((with_reducible show wpAny _ _ (subscriptTail _ (Expr.Slice _ none none _) _ _) _ _ _); (refine cut1 (s := ⟨_, _, _, _, _⟩) F' N' ?_))); intro h' t' k' F' N'; (try k_sweep)))) | (with_reducible (((with_reducible show wpAny _ _ (subscriptTail _ _ (Value.bytes _ _) (Value.int _ _)) _ _ _); k_dflt (first | refine byte0 0 (by decide) ?_ | refine byte0 1 (by decide) ?_ | refine byte0 2 (by decide) ?_ | refine byte0 3 (by decide) ?_ | refine byte0 4 (by decide) ?_)))))) | ((with_reducible show wpAny _ _ (subscriptTail _ _ (Value.str _ _) (Value.int _ _)) _ _ _); (with_reducible ((k_dflt (first | ((with_reducible show wpAny _ _ (subscriptTail _ _ _ (Value.int 0 _)) _ _ _); (refine letter 0 (Str.ofString "a") (by decide) (by decide) (by decide +kernel) ?_)) | ((with_reducible show wpAny _ _ (subscriptTail _ _ _ (Value.int 1 _)) _ _ _); (refine letter 1 (Str.ofString "b") (by decide) (by decide) (by decide +kernel) ?_)) | ((with_reducible show wpAny _ _ (subscriptTail _ _ _ (Value.int 2 _)) _ _ _); (refine letter 2 (Str.ofString "c") (by decide) (by decide) (by decide +kernel) ?_)) | ((with_reducible show wpAny _ _ (subscriptTail _ _ _ (Value.int 3 _)) _ _ _); (refine letter 3 (Str.ofString "d") (by decide) (by decide) (by decide +kernel) ?_)) | ((with_reducible show wpAny _ _ (subscriptTail _ _ _ (Value.int 4 _)) _ _ _); (refine letter 4 (Str.ofString "e") (by decide) (by decide) (by decide +kernel) ?_))))))) | ((with_reducible show wpAny _ _ (pyNext (Value.ref _)) _ _ _); (with_reducible ((k_dflt (first | (refine' pyNext_item_K ?Fq327 ?Nq327 ?lq327 ?Uq327 ?_; (case Fq327 => k_asm); (case Nq327 => k_asm); (case Uq327 => k_upd); (case lq327 => decide); k_whole; intro h' t' F' N'; (try dsimp only); (try k_sweep)) | (refine' pyNext_end_K rfl ?Fq327 ?Nq327 ?lq327 ?Iq327 ?_; (case Fq327 => k_asm); (case Nq327 => k_asm); (case lq327 => decide); (case Iq327 => (repeat' (first | exact List.forall_mem_nil _ | assumption | (refine' List.forall_mem_cons.mpr ⟨?_, ?_⟩) | (show @LT.lt Nat _ _ _; dsimp only; omega)))); intro h' F' N'; (try dsimp only); (try k_sweep))))))) | ((with_reducible show wpAny _ _ (pyIter (Value.ref _)) _ _ _); (with_reducible ((k_dflt (refine pyIter_K 5 5 (by assumption) (by rfl) (by decide) (by k_asm) (by k_asm) ?_); intro I' h' F' N' l1; (try dsimp only at N'); (try k_lt l1); (repeat (have n1' := And.left l1; replace l1 := And.right l1)))))) | ((with_reducible show Exists _); (with_reducible ((k_dflt (exact fn_there (by k_asm) (by k_asm) (by k_is) (by exact rfl)))))) | walk1 | ((fail_if_success k_end); dsimp only) | (leave1; walk_say "STEP leave1"; (try dsimp only)) | fail "no step"))
        (try dsimp only)))
    refine calm_turn ?_
    (repeat' (first | (k_unfold; (try dsimp only)) | (k_end; wrow_close) | ((with_reducible show wpAny _ _ (eval (Expr.Name _ _) (compEnvC _ _ _ _)) _ _ _); (first | (with_reducible ((name_kind "globalImplicit"); k_dflt (refine LCgL.ld_global (by k_asm) (by k_asm) (by k_asm) (by k_is) ?_))) | (with_reducible ((name_kind "local"); k_dflt (refine LCgL.ld_own (by k_asm) (by k_mem) (by assumption) (by assumption) ?_))) | (with_reducible (k_dflt (refine kcf_cell (by k_asm) (by rfl) (by k_mem) (by k_asm) ?_))))) | ((with_reducible show wpAny _ _ (callWith _ (Value.builtin _) (_ :: _) _ _) _ _ _); (first | (with_reducible (refine callWith_method1 ?_)) | (refine callWith_method1 ?_))) | ((with_reducible show wpAny _ _ (eval (Expr.Name _ _) _) _ _ _); (first | (with_reducible ((name_kind "local"); k_dflt (refine' nameX_L ?xFq402 ?xvq402 ?_ ?xaq402 ?xbq402; (case xaq402 => rfl); (case xbq402 => rfl); (case xFq402 => k_asm); (case xvq402 => rfl); k_whole))) | (with_reducible ((name_kind "globalImplicit"); k_dflt (refine' nameX_K ?yFq403 ?yXq403 ?yTq403 ?yeq403 ?_ ?yaq403 ?ybq403; (case yaq403 => rfl); (case ybq403 => rfl); (case yFq403 => k_asm); (case yXq403 => k_asm); (case yTq403 => k_asm); (case yeq403 => k_is); k_whole))))) | ((with_reducible show wpAny _ _ (callWith _ (Value.ref _) _ _ _) _ _ _); (with_reducible (k_dflt (refine' callWith_K ?zXq404 ?zkq404 ?_; (case zXq404 => k_asm); (case zkq404 => k_is); k_whole)))) | ((with_reducible show wpAny _ _ (call (Value.builtin "list.append") _) _ _ _); (with_reducible (((with_reducible show wpAny _ _ (call (Value.builtin _) [Value.ref _, _]) _ _ _); k_dflt (refine' append_K ?k1q334 ?k2q334 ?k3q334 ?_ ?zq334; (case k1q334 => k_asm); (case k2q334 => k_asm); (case k3q334 => k_upd); (case zq334 => exact Nat.le_of_ble_eq_true rfl); k_whole); intro h' F' N'; (try k_sweep))))) | ((with_reducible show wpAny _ _ (call (Value.ref _) _) _ _ _); (first | (with_reducible (((with_reducible show wpAny _ _ (call (Value.ref 57) _) _ _ _); k_dflt (refine indent_sum _ _ _ _ (above_low _ _ _ _ _) (above_high _ _ _ _ _) (by decide) _ _ _ _ _ _ _ _ _ _ _ _ _ _ _ _ _ _ (by k_asm) (by k_asm) (by k_asm) (by k_asm) (by k_asm) (by first | exact rfl | assumption) (by trivial) (by ktr_room) (by ktr_units) ?_; intro t9 h9 tk9 F9 N9; (try dsimp only); (try k_sweep))))) | (with_reducible (((with_reducible show wpAny _ _ (call (Value.ref 110) _) _ _ _); k_dflt (refine above_W (by k_asm) (by k_asm) (by exact List.mem_cons_of_mem _ (List.mem_cons_of_mem _ (by assumption))) (by exact List.mem_cons_of_mem _ (List.mem_cons_of_mem _ (by assumption))) (by rfl) (by rfl) (by rfl) (by rfl) (by rfl) (by rfl) (by rfl) (by rfl) (by rfl) (by rfl) (by assumption) (by assumption) (by assumption) (by assumption) (by assumption) (by assumption) (by assumption) (by assumption) (by assumption) (by assumption) (fmod_low _ (by decide)) (fmod_high _ (by decide)) (fmod_low _ (by decide)) (fmod_high _ (by decide)) (fmod_low _ (by decide)) (fmod_high _ (by decide)) (fmod_low _ (by decide)) (fmod_high _ (by decide)) (fmod_low _ (by decide)) (fmod_high _ (by decide)) (by k_asm) (by k_asm) (by k_asm) (by first | exact rfl | assumption) (by ktr_room) (by ktr_units) ?_; intro t9 h9 tk9 F9 N9; (try dsimp only); (try k_sweep))))))) | ((with_reducible show wpAny _ _ (binaryOp Operator.Add (Value.bytes _ _) (Value.bytes _ _)) _ _ _); (with_reducible ((k_dflt (refine join5 ?_); intro t' k')))) | ((with_reducible show wpAny _ _ (subscriptTail _ _ (Value.bytes _ _) _) _ _ _); (first | (with_reducible (((with_reducible show wpAny _ _ (subscriptTail _ (Expr.Slice _ _ none _) (Value.bytes _ _) (Value.ref _)) _ _ _); (with_reducible rename Fr _ _ _ _ => F'); (with_reducible rename News _ _ _ _ => N'); k_dflt (first | ((with_reducible show wpAny _ _ (subscriptTail _ (Expr.Slice none _ none _) _ _) _ _ _); (refine cut4 (s := ⟨_, _, _, _, _⟩) F' N' ?_)) | ((with_reducible show wpAny _ _ (subscriptTail _ (Expr.Slice _ none none _) _ _) _ _ _); (refine cut1 (s := ⟨_, _, _, _, _⟩) F' N' ?_))); intro h' t' k' F' N'; (try k_sweep)))) | (with_reducible (((with_reducible show wpAny _ _ (subscriptTail _ _ (Value.bytes _ _) (Value.int _ _)) _ _ _); k_dflt (first | refine byte0 0 (by decide) ?_ | refine byte0 1 (by decide) ?_ | refine byte0 2 (by decide) ?_ | refine byte0 3 (by decide) ?_ | refine byte0 4 (by decide) ?_)))))) | ((with_reducible show wpAny _ _ (subscriptTail _ _ (Value.str _ _) (Value.int _ _)) _ _ _); (with_reducible ((k_dflt (first | ((with_reducible show wpAny _ _ (subscriptTail _ _ _ (Value.int 0 _)) _ _ _); (refine letter 0 (Str.ofString "a") (by decide) (by decide) (by decide +kernel) ?_)) | ((with_reducible show wpAny _ _ (subscriptTail _ _ _ (Value.int 1 _)) _ _ _); (refine letter 1 (Str.ofString "b") (by decide) (by decide) (by decide +kernel) ?_)) | ((with_reducible show wpAny _ _ (subscriptTail _ _ _ (Value.int 2 _)) _ _ _); (refine letter 2 (Str.ofString "c") (by decide) (by decide) (by decide +kernel) ?_)) | ((with_reducible show wpAny _ _ (subscriptTail _ _ _ (Value.int 3 _)) _ _ _); (refine letter 3 (Str.ofString "d") (by decide) (by decide) (by decide +kernel) ?_)) | ((with_reducible show wpAny _ _ (subscriptTail _ _ _ (Value.int 4 _)) _ _ _); (refine letter 4 (Str.ofString "e") (by decide) (by decide) (by decide +kernel) ?_))))))) | ((with_reducible show wpAny _ _ (pyNext (Value.ref _)) _ _ _); (with_reducible ((k_dflt (first | (refine' pyNext_item_K ?Fq327 ?Nq327 ?lq327 ?Uq327 ?_; (case Fq327 => k_asm); (case Nq327 => k_asm); (case Uq327 => k_upd); (case lq327 => decide); k_whole; intro h' t' F' N'; (try dsimp only); (try k_sweep)) | (refine' pyNext_end_K rfl ?Fq327 ?Nq327 ?lq327 ?Iq327 ?_; (case Fq327 => k_asm); (case Nq327 => k_asm); (case lq327 => decide); (case Iq327 => (repeat' (first | exact List.forall_mem_nil _ | assumption | (refine' List.forall_mem_cons.mpr ⟨?_, ?_⟩) | (show @LT.lt Nat _ _ _; dsimp only; omega)))); intro h' F' N'; (try dsimp only); (try k_sweep))))))) | ((with_reducible show wpAny _ _ (pyIter (Value.ref _)) _ _ _); (with_reducible ((k_dflt (refine pyIter_K 5 5 (by assumption) (by rfl) (by decide) (by k_asm) (by k_asm) ?_); intro I' h' F' N' l1; (try dsimp only at N'); (try k_lt l1); (repeat (have n1' := And.left l1; replace l1 := And.right l1)))))) | ((with_reducible show Exists _); (with_reducible ((k_dflt (exact fn_there (by k_asm) (by k_asm) (by k_is) (by exact rfl)))))) | walk1 | ((fail_if_success k_end); dsimp only) | (leave1; walk_say "STEP leave1"; (try dsimp only)) | fail "no step"))
    (try dsimp only)
    k_dflt exact hR9 _ _ _ _ ⟨_, _, _, _, _, _, _, _, _, _, _, rfl⟩ (fr_lay (by k_asm) rfl) (by k_asm)
  obtain ⟨t0, t1, t2, t3, t4, t5, t6, t7, t8, t9, c9, rfl⟩ := W9
  (try dsimp only)
  refine calm_execs (calm_of ?_)
  (repeat' (first | (k_unfold; (try dsimp only)) | (k_end; wrow_close) | ((with_reducible show wpAny _ _ (eval (Expr.Name _ _) (compEnvC _ _ _ _)) _ _ _); (first | (with_reducible ((name_kind "globalImplicit"); k_dflt (refine LCgL.ld_global (by k_asm) (by k_asm) (by k_asm) (by k_is) ?_))) | (with_reducible ((name_kind "local"); k_dflt (refine LCgL.ld_own (by k_asm) (by k_mem) (by assumption) (by assumption) ?_))) | (with_reducible (k_dflt (refine kcf_cell (by k_asm) (by rfl) (by k_mem) (by k_asm) ?_))))) | ((with_reducible show wpAny _ _ (callWith _ (Value.builtin _) (_ :: _) _ _) _ _ _); (first | (with_reducible (refine callWith_method1 ?_)) | (refine callWith_method1 ?_))) | ((with_reducible show wpAny _ _ (eval (Expr.Name _ _) _) _ _ _); (first | (with_reducible ((name_kind "local"); k_dflt (refine' nameX_L ?xFq417 ?xvq417 ?_ ?xaq417 ?xbq417; (case xaq417 => rfl); (case xbq417 => rfl); (case xFq417 => k_asm); (case xvq417 => rfl); k_whole))) | (with_reducible ((name_kind "globalImplicit"); k_dflt (refine' nameX_K ?yFq418 ?yXq418 ?yTq418 ?yeq418 ?_ ?yaq418 ?ybq418; (case yaq418 => rfl); (case ybq418 => rfl); (case yFq418 => k_asm); (case yXq418 => k_asm); (case yTq418 => k_asm); (case yeq418 => k_is); k_whole))))) | ((with_reducible show wpAny _ _ (callWith _ (Value.ref _) _ _ _) _ _ _); (with_reducible (k_dflt (refine' callWith_K ?zXq419 ?zkq419 ?_; (case zXq419 => k_asm); (case zkq419 => k_is); k_whole)))) | ((with_reducible show wpAny _ _ (newList _) _ _ _); (with_reducible ((k_dflt (refine' newList_K ?k1q412 ?k2q412 ?_; (case k1q412 => k_asm); (case k2q412 => k_asm); k_whole); intro l' h' F' N' l1; (try k_lt l1); (repeat (have n1' := And.left l1; replace l1 := And.right l1)); (try k_sweep))))) | ((with_reducible show LCg.FinA ..); (with_reducible (((unfold LCg.FinA); intro D' h' tk' F' N' o1'; (try simp only [LCg.Off1, and_true] at o1'); (repeat (obtain ⟨n1', o1'⟩ := o1')); (try simp only [List.nil_append, List.cons_append] at N'); (try dsimp only))))) | ((with_reducible show LCg.FinE ..); (with_reducible (((unfold LCg.FinE); intro D' h' tk' F' N' o1'; (try simp only [LCg.Off1, and_true] at o1'); (repeat (obtain ⟨n1', o1'⟩ := o1')); (try simp only [List.nil_append, List.cons_append] at N'); (try dsimp only))))) | ((with_reducible show LCg.CompRest ..); (with_reducible ((with_unfolding_all first | (refine LCg.CompRest.succ ?_; intro v' I' oI' C' oC' D' m' h' tk' E' hv' hC' hx' F' N' off' ne'; clear ne'; (obtain ⟨t9', hv9'⟩ := hv'; subst hv9')) | refine LCg.CompRest.zero ?_)))) | ((with_reducible show LCg.CompEnd ..); (first | (with_reducible ((k_dflt (refine' compEnd_tail1 ?Fq408 ?Nq408 ?offq408 ?srcq408 ?_; (case Fq408 => k_asm); (case Nq408 => k_asm); (case offq408 => first | assumption | (simp only [LCg.Off3, and_true]; assumption) | (simp only [LCg.Off3]; trivial)); (case srcq408 => exact True.intro))))) | (with_reducible ((k_dflt (refine' compEnd_tail ?Fq407 ?Nq407 ?offq407 ?srcq407 ?_; (case Fq407 => k_asm); (case Nq407 => k_asm); (case offq407 => first | assumption | (simp only [LCg.Off3, and_true]; assumption) | (simp only [LCg.Off3]; trivial)); (case srcq407 => exact True.intro))))))) | ((with_reducible show LCg.CompSrc ..); (with_reducible ((k_here; k_dflt (refine LCg.CompSrc.range (by rfl) (by k_asm) (by k_asm) (by assumption) (by decide) (by rfl) (by exact Nat.le_of_ble_eq_true rfl) ?_; intro g'; lcg_lit))))) | ((with_reducible show wpAny _ _ (exec (Stmt.Assign _ (Expr.ListComp _ _ _ _) _) _) _ _ _); (with_reducible ((k_here; k_dflt (refine LCg.Assign_ListComp_U (F₀ := by k_asm) (by rfl) (by with_unfolding_all rfl) (by with_unfolding_all rfl) (by decide) (by rfl) (by decide) (by rfl) (by rfl) (by rfl) ?_))))) | walk1 | ((fail_if_success k_end); dsimp only) | (leave1; walk_say "STEP leave1"; (try dsimp only)) | fail "no step"))
  (try dsimp only)
  refine calm_execs (calm_of ?_)
  (repeat' (first | (k_unfold; (try dsimp only)) | (k_end; wrow_close) | ((with_reducible show wpAny _ _ (subscriptTail (Expr.Name _ _) (Expr.Name _ _) (Value.ref _) (Value.int _ _)) _ _ _); (with_reducible ((k_dflt (refine sub5_any (News.isList (by k_asm) (by k_mem)) (by assumption) ?_); intro t')))) | ((with_reducible show wpAny _ _ (call (Value.builtin "sorted") _ _) _ _ _); (first | (with_reducible ((ksk_kw; ksk_show; (with_unfolding_all refine sorted_led (by k_asm) (by k_asm) (by k_mem) (by k_mem) rfl (ksk_s1 _ _) (fun _ => ksk_l1 _ _) (fun _ => ksk_t1 _ _) (fun n' t' h' tk' own' hm' F' N' => ?_) (fun D' n0' n1' n2' n3' n4' u0' u1' u2' u3' u4' c' h' tk' F' N' l1 hp' => ?_)); (case' refine_2 => ((try k_lt l1); (repeat (have n1' := And.left l1; replace l1 := And.right l1)); (try k_sweep)))))) | ((ksk_kw; ksk_show; (with_unfolding_all refine sorted_led (by k_asm) (by k_asm) (by k_mem) (by k_mem) rfl (ksk_s1 _ _) (fun _ => ksk_l1 _ _) (fun _ => ksk_t1 _ _) (fun n' t' h' tk' own' hm' F' N' => ?_) (fun D' n0' n1' n2' n3' n4' u0' u1' u2' u3' u4' c' h' tk' F' N' l1 hp' => ?_)); (case' refine_2 => ((try k_lt l1); (repeat (have n1' := And.left l1; replace l1 := And.right l1)); (try k_sweep))))))) | ((with_reducible show wpAny _ _ (call (Value.type "range") _) _ _ _); (with_reducible (((with_reducible show wpAny _ _ (call (Value.type "range") [Value.int _ _]) _ _ _); k_dflt (refine range_led (by k_asm) (by k_asm) ?_); intro r' h' tk' t' u' v' F' N' l1; (try k_lt l1); (repeat (have n1' := And.left l1; replace l1 := And.right l1)); (try k_sweep))))) | ((with_reducible show wpAny _ _ (newList _) _ _ _); (with_reducible ((k_dflt (refine' newList_K ?k1q420 ?k2q420 ?_; (case k1q420 => k_asm); (case k2q420 => k_asm); k_whole); intro l' h' F' N' l1; (try k_lt l1); (repeat (have n1' := And.left l1; replace l1 := And.right l1)); (try k_sweep))))) | walk1 | ((fail_if_success k_end); dsimp only) | (leave1; walk_say "STEP leave1"; (try dsimp only)) | fail "no step"))
  (try dsimp only)
  refine calm_execs (calm_of ?_)
  (repeat' (first | (k_unfold; (try dsimp only)) | (k_end; wrow_close) | ((with_reducible show wpAny _ _ (eval (Expr.Name _ _) (compEnvC _ _ _ _)) _ _ _); (first | (with_reducible ((name_kind "globalImplicit"); k_dflt (refine LCgL.ld_global (by k_asm) (by k_asm) (by k_asm) (by k_is) ?_))) | (with_reducible ((name_kind "local"); k_dflt (refine LCgL.ld_own (by k_asm) (by k_mem) (by assumption) (by assumption) ?_))) | (with_reducible (k_dflt (refine kcf_cell (by k_asm) (by rfl) (by k_mem) (by k_asm) ?_))))) | ((with_reducible show wpAny _ _ (callWith _ (Value.builtin _) (_ :: _) _ _) _ _ _); (first | (with_reducible (refine callWith_method1 ?_)) | (refine callWith_method1 ?_))) | ((with_reducible show wpAny _ _ (eval (Expr.Name _ _) _) _ _ _); (first | (with_reducible ((name_kind "local"); k_dflt (refine' nameX_L ?xFq437 ?xvq437 ?_ ?xaq437 ?xbq437; (case xaq437 => rfl); (case xbq437 => rfl); (case xFq437 => k_asm); (case xvq437 => rfl); k_whole))) | (with_reducible ((name_kind "globalImplicit"); k_dflt (refine' nameX_K ?yFq438 ?yXq438 ?yTq438 ?yeq438 ?_ ?yaq438 ?ybq438; (case yaq438 => rfl); (case ybq438 => rfl); (case yFq438 => k_asm); (case yXq438 => k_asm); (case yTq438 => k_asm); (case yeq438 => k_is); k_whole))))) | ((with_reducible show wpAny _ _ (callWith _ (Value.ref _) _ _ _) _ _ _); (with_reducible (k_dflt (refine' callWith_K ?zXq439 ?zkq439 ?_; (case zXq439 => k_asm); (case zkq439 => k_is); k_whole)))) | ((with_reducible show wpAny _ _ (binaryOp Operator.Add (Value.str _ _) (Value.str _ _)) _ _ _); (with_reducible (((first | refine add_a (by assumption) (by assumption) (by decide) ?_ | refine add_b (by assumption) (by assumption) (by decide) ?_); intro t' k')))) | ((with_reducible show wpAny _ _ (binaryOp Operator.Mult (Value.str _ _) (Value.int _ _)) _ _ _); (with_reducible (((first | refine blanks_a (by assumption) (by assumption) ?_ | refine blanks_b (by assumption) (by assumption) ?_); intro t' k')))) | ((with_reducible show wpAny _ _ (subscriptTail _ _ (Value.str _ _) (Value.int _ _)) _ _ _); (with_reducible ((k_dflt (first | refine letterJ 0 (Str.ofString "a") (by decide) (by decide) (by decide) (by decide +kernel) ?_ | refine letterJ 1 (Str.ofString "b") (by decide) (by decide) (by decide) (by decide +kernel) ?_ | refine letterJ 2 (Str.ofString "c") (by decide) (by decide) (by decide) (by decide +kernel) ?_ | refine letterJ 3 (Str.ofString "d") (by decide) (by decide) (by decide) (by decide +kernel) ?_ | refine letterJ 4 (Str.ofString "e") (by decide) (by decide) (by decide) (by decide +kernel) ?_))))) | ((with_reducible show wpAny _ _ (call (Value.builtin "list.index") _) _ _ _); (with_reducible (((with_reducible show wpAny _ _ (call (Value.builtin _) [Value.ref _, Value.int _ _]) _ _ _); k_dflt (first | refine index5 0 (by decide) (by decide) (by k_asm) (by k_mem) (by assumption) ?_ | refine index5 1 (by decide) (by decide) (by k_asm) (by k_mem) (by assumption) ?_ | refine index5 2 (by decide) (by decide) (by k_asm) (by k_mem) (by assumption) ?_ | refine index5 3 (by decide) (by decide) (by k_asm) (by k_mem) (by assumption) ?_ | refine index5 4 (by decide) (by decide) (by k_asm) (by k_mem) (by assumption) ?_); intro pl' ep' lo' hi')))) | ((with_reducible show wpAny _ _ (newList _) _ _ _); (with_reducible ((k_dflt (refine' newList_K ?k1q428 ?k2q428 ?_; (case k1q428 => k_asm); (case k2q428 => k_asm); k_whole); intro l' h' F' N' l1; (try k_lt l1); (repeat (have n1' := And.left l1; replace l1 := And.right l1)); (try k_sweep))))) | ((with_reducible show wpAny _ _ (call (Value.builtin "list.append") _) _ _ _); (with_reducible (((with_reducible show wpAny _ _ (call (Value.builtin _) [Value.ref _, _]) _ _ _); k_dflt (refine' append_K ?k1q427 ?k2q427 ?k3q427 ?_ ?zq427; (case k1q427 => k_asm); (case k2q427 => k_asm); (case k3q427 => k_upd); (case zq427 => exact Nat.le_of_ble_eq_true rfl); k_whole); intro h' F' N'; (try k_sweep))))) | ((with_reducible show wpAny _ _ (pyNext (Value.ref _)) _ _ _); (with_reducible ((k_dflt (first | (refine' pyNext_item_K ?Fq426 ?Nq426 ?lq426 ?Uq426 ?_; (case Fq426 => k_asm); (case Nq426 => k_asm); (case Uq426 => k_upd); (case lq426 => decide); k_whole; intro h' t' F' N'; (try dsimp only); (try k_sweep)) | (refine' pyNext_end_K rfl ?Fq426 ?Nq426 ?lq426 ?Iq426 ?_; (case Fq426 => k_asm); (case Nq426 => k_asm); (case lq426 => decide); (case Iq426 => (repeat' (first | exact List.forall_mem_nil _ | assumption | (refine' List.forall_mem_cons.mpr ⟨?_, ?_⟩) | (show @LT.lt Nat _ _ _; dsimp only; omega)))); intro h' F' N'; (try dsimp only); (try k_sweep))))))) | ((with_reducible show wpAny _ _ (pyIter (Value.ref _)) _ _ _); (with_reducible ((k_dflt (refine pyIter_K 5 5 (by assumption) (by rfl) (by decide) (by k_asm) (by k_asm) ?_); intro I' h' F' N' l1; (try dsimp only at N'); (try k_lt l1); (repeat (have n1' := And.left l1; replace l1 := And.right l1)))))) | ((with_reducible show Exists _); (with_reducible ((k_dflt (exact fn_there (by k_asm) (by k_asm) (by k_is) (by exact rfl)))))) | walk1 | ((fail_if_success k_end); dsimp only) | (leave1; walk_say "STEP leave1"; (try dsimp only)) | fail "no step"))
  (try dsimp only)
  refine calm_execs (calm_For0 ?_)
  (repeat' (first | (k_unfold; (try dsimp only)) | (k_end; wrow_close) | ((with_reducible show wpAny _ _ (eval (Expr.Name _ _) (compEnvC _ _ _ _)) _ _ _); (first | (with_reducible ((name_kind "globalImplicit"); k_dflt (refine LCgL.ld_global (by k_asm) (by k_asm) (by k_asm) (by k_is) ?_))) | (with_reducible ((name_kind "local"); k_dflt (refine LCgL.ld_own (by k_asm) (by k_mem) (by assumption) (by assumption) ?_))) | (with_reducible (k_dflt (refine kcf_cell (by k_asm) (by rfl) (by k_mem) (by k_asm) ?_))))) | ((with_reducible show wpAny _ _ (callWith _ (Value.builtin _) (_ :: _) _ _) _ _ _); (first | (with_reducible (refine callWith_method1 ?_)) | (refine callWith_method1 ?_))) | ((with_reducible show wpAny _ _ (eval (Expr.Name _ _) _) _ _ _); (first | (with_reducible ((name_kind "local"); k_dflt (refine' nameX_L ?xFq444 ?xvq444 ?_ ?xaq444 ?xbq444; (case xaq444 => rfl); (case xbq444 => rfl); (case xFq444 => k_asm); (case xvq444 => rfl); k_whole))) | (with_reducible ((name_kind "globalImplicit"); k_dflt (refine' nameX_K ?yFq445 ?yXq445 ?yTq445 ?yeq445 ?_ ?yaq445 ?ybq445; (case yaq445 => rfl); (case ybq445 => rfl); (case yFq445 => k_asm); (case yXq445 => k_asm); (case yTq445 => k_asm); (case yeq445 => k_is); k_whole))))) | ((with_reducible show wpAny _ _ (callWith _ (Value.ref _) _ _ _) _ _ _); (with_reducible (k_dflt (refine' callWith_K ?zXq446 ?zkq446 ?_; (case zXq446 => k_asm); (case zkq446 => k_is); k_whole)))) | ((with_reducible show wpAny _ _ (binaryOp Operator.Add (Value.str _ _) (Value.str _ _)) _ _ _); (with_reducible (((first | refine add_a (by assumption) (by assumption) (by decide) ?_ | refine add_b (by assumption) (by assumption) (by decide) ?_); intro t' k')))) | ((with_reducible show wpAny _ _ (binaryOp Operator.Mult (Value.str _ _) (Value.int _ _)) _ _ _); (with_reducible (((first | refine blanks_a (by assumption) (by assumption) ?_ | refine blanks_b (by assumption) (by assumption) ?_); intro t' k')))) | ((with_reducible show wpAny _ _ (subscriptTail _ _ (Value.str _ _) (Value.int _ _)) _ _ _); (with_reducible ((k_dflt (first | refine letterJ 0 (Str.ofString "a") (by decide) (by decide) (by decide) (by decide +kernel) ?_ | refine letterJ 1 (Str.ofString "b") (by decide) (by decide) (by decide) (by decide +kernel) ?_ | refine letterJ 2 (Str.ofString "c") (by decide) (by decide) (by decide) (by decide +kernel) ?_ | refine letterJ 3 (Str.ofString "d") (by decide) (by decide) (by decide) (by decide +kernel) ?_ | refine letterJ 4 (Str.ofString "e") (by decide) (by decide) (by decide) (by decide +kernel) ?_))))) | ((with_reducible show wpAny _ _ (call (Value.builtin "list.index") _) _ _ _); (with_reducible (((with_reducible show wpAny _ _ (call (Value.builtin _) [Value.ref _, Value.int _ _]) _ _ _); k_dflt (first | refine index5 0 (by decide) (by decide) (by k_asm) (by k_mem) (by assumption) ?_ | refine index5 1 (by decide) (by decide) (by k_asm) (by k_mem) (by assumption) ?_ | refine index5 2 (by decide) (by decide) (by k_asm) (by k_mem) (by assumption) ?_ | refine index5 3 (by decide) (by decide) (by k_asm) (by k_mem) (by assumption) ?_ | refine index5 4 (by decide) (by decide) (by k_asm) (by k_mem) (by assumption) ?_); intro pl' ep' lo' hi')))) | ((with_reducible show wpAny _ _ (newList _) _ _ _); (with_reducible ((k_dflt (refine' newList_K ?k1q428 ?k2q428 ?_; (case k1q428 => k_asm); (case k2q428 => k_asm); k_whole); intro l' h' F' N' l1; (try k_lt l1); (repeat (have n1' := And.left l1; replace l1 := And.right l1)); (try k_sweep))))) | ((with_reducible show wpAny _ _ (call (Value.builtin "list.append") _) _ _ _); (with_reducible (((with_reducible show wpAny _ _ (call (Value.builtin _) [Value.ref _, _]) _ _ _); k_dflt (refine' append_K ?k1q427 ?k2q427 ?k3q427 ?_ ?zq427; (case k1q427 => k_asm); (case k2q427 => k_asm); (case k3q427 => k_upd); (case zq427 => exact Nat.le_of_ble_eq_true rfl); k_whole); intro h' F' N'; (try k_sweep))))) | ((with_reducible show wpAny _ _ (pyNext (Value.ref _)) _ _ _); (with_reducible ((k_dflt (first | (refine' pyNext_item_K ?Fq426 ?Nq426 ?lq426 ?Uq426 ?_; (case Fq426 => k_asm); (case Nq426 => k_asm); (case Uq426 => k_upd); (case lq426 => decide); k_whole; intro h' t' F' N'; (try dsimp only); (try k_sweep)) | (refine' pyNext_end_K rfl ?Fq426 ?Nq426 ?lq426 ?Iq426 ?_; (case Fq426 => k_asm); (case Nq426 => k_asm); (case lq426 => decide); (case Iq426 => (repeat' (first | exact List.forall_mem_nil _ | assumption | (refine' List.forall_mem_cons.mpr ⟨?_, ?_⟩) | (show @LT.lt Nat _ _ _; dsimp only; omega)))); intro h' F' N'; (try dsimp only); (try k_sweep))))))) | ((with_reducible show wpAny _ _ (pyIter (Value.ref _)) _ _ _); (with_reducible ((k_dflt (refine pyIter_K 5 5 (by assumption) (by rfl) (by decide) (by k_asm) (by k_asm) ?_); intro I' h' F' N' l1; (try dsimp only at N'); (try k_lt l1); (repeat (have n1' := And.left l1; replace l1 := And.right l1)))))) | ((with_reducible show Exists _); (with_reducible ((k_dflt (exact fn_there (by k_asm) (by k_asm) (by k_is) (by exact rfl)))))) | walk1 | ((fail_if_success k_end); dsimp only) | (leave1; walk_say "STEP leave1"; (try dsimp only)) | fail "no step"))
  (try dsimp only)
  k_dflt refine loop2_cut (by assumption) (by k_asm) (by k_asm) (by exact rfl) (by exact rfl) (by exact rfl) (by repeat' (first | exact List.forall_mem_nil _ | (refine' List.forall_mem_cons.mpr ⟨?_, ?_⟩) | (show @LT.lt Nat _ _ _; dsimp only; omega))) (by repeat' (first | exact List.forall_mem_nil _ | (refine' List.forall_mem_cons.mpr ⟨?_, ?_⟩) | (show @LT.lt Nat _ _ _; dsimp only; omega))) (fun s9 m9 rest9 R9 F9 N9 hI9 hlI9 hDI9 hDl9 hl9 hR9 => ?_) (fun h9 tk9 m9 lo9 W9 F9 N9 => ?_)
  · iterate 5 (
      (with_reducible rename Fr _ _ _ _ => F8)
      obtain ⟨m8, F7⟩ := fr_cut3 (Str.ofString "ranked") (Str.ofString "due") (Str.ofString "lines") F8 (by exact rfl) (by exact rfl) (by exact rfl)
      clear F8
      refine calm_turn ?_
      (repeat' (first | (k_unfold; (try dsimp only)) | (k_end; wrow_close) | ((with_reducible show wpAny _ _ (eval (Expr.Name _ _) (compEnvC _ _ _ _)) _ _ _); (first | (with_reducible ((name_kind "globalImplicit"); k_dflt (refine LCgL.ld_global (by k_asm) (by k_asm) (by k_asm) (by k_is) ?_))) | (with_reducible ((name_kind "local"); k_dflt (refine LCgL.ld_own (by k_asm) (by k_mem) (by assumption) (by assumption) ?_))) | (with_reducible (k_dflt (refine kcf_cell (by k_asm) (by rfl) (by k_mem) (by k_asm) ?_))))) | ((with_reducible show wpAny _ _ (callWith _ (Value.builtin _) (_ :: _) _ _) _ _ _); (first | (with_reducible (refine callWith_method1 ?_)) | (refine callWith_method1 ?_))) | ((with_reducible show wpAny _ _ (eval (Expr.Name _ _) _) _ _ _); (first | (with_reducible ((name_kind "local"); k_dflt (refine' nameX_L ?xFq451 ?xvq451 ?_ ?xaq451 ?xbq451; (case xaq451 => rfl); (case xbq451 => rfl); (case xFq451 => k_asm); (case xvq451 => rfl); k_whole))) | (with_reducible ((name_kind "globalImplicit"); k_dflt (refine' nameX_K ?yFq452 ?yXq452 ?yTq452 ?yeq452 ?_ ?yaq452 ?ybq452; (case yaq452 => rfl); (case ybq452 => rfl); (case yFq452 => k_asm); (case yXq452 => k_asm); (case yTq452 => k_asm); (case yeq452 => k_is); k_whole))))) | ((with_reducible show wpAny _ _ (callWith _ (Value.ref _) _ _ _) _ _ _); (with_reducible (k_dflt (refine' callWith_K ?zXq453 ?zkq453 ?_; (case zXq453 => k_asm); (case zkq453 => k_is); k_whole)))) | ((with_reducible show wpAny _ _ (binaryOp Operator.Add (Value.str _ _) (Value.str _ _)) _ _ _); (with_reducible (((first | refine add_a (by assumption) (by assumption) (by decide) ?_ | refine add_b (by assumption) (by assumption) (by decide) ?_); intro t' k')))) | ((with_reducible show wpAny _ _ (binaryOp Operator.Mult (Value.str _ _) (Value.int _ _)) _ _ _); (with_reducible (((first | refine blanks_a (by assumption) (by assumption) ?_ | refine blanks_b (by assumption) (by assumption) ?_); intro t' k')))) | ((with_reducible show wpAny _ _ (subscriptTail _ _ (Value.str _ _) (Value.int _ _)) _ _ _); (with_reducible ((k_dflt (first | refine letterJ 0 (Str.ofString "a") (by decide) (by decide) (by decide) (by decide +kernel) ?_ | refine letterJ 1 (Str.ofString "b") (by decide) (by decide) (by decide) (by decide +kernel) ?_ | refine letterJ 2 (Str.ofString "c") (by decide) (by decide) (by decide) (by decide +kernel) ?_ | refine letterJ 3 (Str.ofString "d") (by decide) (by decide) (by decide) (by decide +kernel) ?_ | refine letterJ 4 (Str.ofString "e") (by decide) (by decide) (by decide) (by decide +kernel) ?_))))) | ((with_reducible show wpAny _ _ (call (Value.builtin "list.index") _) _ _ _); (with_reducible (((with_reducible show wpAny _ _ (call (Value.builtin _) [Value.ref _, Value.int _ _]) _ _ _); k_dflt (first | refine index5 0 (by decide) (by decide) (by k_asm) (by k_mem) (by assumption) ?_ | refine index5 1 (by decide) (by decide) (by k_asm) (by k_mem) (by assumption) ?_ | refine index5 2 (by decide) (by decide) (by k_asm) (by k_mem) (by assumption) ?_ | refine index5 3 (by decide) (by decide) (by k_asm) (by k_mem) (by assumption) ?_ | refine index5 4 (by decide) (by decide) (by k_asm) (by k_mem) (by assumption) ?_); intro pl' ep' lo' hi')))) | ((with_reducible show wpAny _ _ (newList _) _ _ _); (with_reducible ((k_dflt (refine' newList_K ?k1q428 ?k2q428 ?_; (case k1q428 => k_asm); (case k2q428 => k_asm); k_whole); intro l' h' F' N' l1; (try k_lt l1); (repeat (have n1' := And.left l1; replace l1 := And.right l1)); (try k_sweep))))) | ((with_reducible show wpAny _ _ (call (Value.builtin "list.append") _) _ _ _); (with_reducible (((with_reducible show wpAny _ _ (call (Value.builtin _) [Value.ref _, _]) _ _ _); k_dflt (refine' append_K ?k1q427 ?k2q427 ?k3q427 ?_ ?zq427; (case k1q427 => k_asm); (case k2q427 => k_asm); (case k3q427 => k_upd); (case zq427 => exact Nat.le_of_ble_eq_true rfl); k_whole); intro h' F' N'; (try k_sweep))))) | ((with_reducible show wpAny _ _ (pyNext (Value.ref _)) _ _ _); (with_reducible ((k_dflt (first | (refine' pyNext_item_K ?Fq426 ?Nq426 ?lq426 ?Uq426 ?_; (case Fq426 => k_asm); (case Nq426 => k_asm); (case Uq426 => k_upd); (case lq426 => decide); k_whole; intro h' t' F' N'; (try dsimp only); (try k_sweep)) | (refine' pyNext_end_K rfl ?Fq426 ?Nq426 ?lq426 ?Iq426 ?_; (case Fq426 => k_asm); (case Nq426 => k_asm); (case lq426 => decide); (case Iq426 => (repeat' (first | exact List.forall_mem_nil _ | assumption | (refine' List.forall_mem_cons.mpr ⟨?_, ?_⟩) | (show @LT.lt Nat _ _ _; dsimp only; omega)))); intro h' F' N'; (try dsimp only); (try k_sweep))))))) | ((with_reducible show wpAny _ _ (pyIter (Value.ref _)) _ _ _); (with_reducible ((k_dflt (refine pyIter_K 5 5 (by assumption) (by rfl) (by decide) (by k_asm) (by k_asm) ?_); intro I' h' F' N' l1; (try dsimp only at N'); (try k_lt l1); (repeat (have n1' := And.left l1; replace l1 := And.right l1)))))) | ((with_reducible show Exists _); (with_reducible ((k_dflt (exact fn_there (by k_asm) (by k_asm) (by k_is) (by exact rfl)))))) | walk1 | ((fail_if_success k_end); dsimp only) | (leave1; walk_say "STEP leave1"; (try dsimp only)) | fail "no step"))
      (try dsimp only)
      iterate 3 (
        refine calm_execs (calm_of ?_)
        (repeat' (first | (k_unfold; (try dsimp only)) | (k_end; wrow_close) | ((with_reducible show wpAny _ _ (eval (Expr.Name _ _) (compEnvC _ _ _ _)) _ _ _); (first | (with_reducible ((name_kind "globalImplicit"); k_dflt (refine LCgL.ld_global (by k_asm) (by k_asm) (by k_asm) (by k_is) ?_))) | (with_reducible ((name_kind "local"); k_dflt (refine LCgL.ld_own (by k_asm) (by k_mem) (by assumption) (by assumption) ?_))) | (with_reducible (k_dflt (refine kcf_cell (by k_asm) (by rfl) (by k_mem) (by k_asm) ?_))))) | ((with_reducible show wpAny _ _ (callWith _ (Value.builtin _) (_ :: _) _ _) _ _ _); (first | (with_reducible (refine callWith_method1 ?_)) | (refine callWith_method1 ?_))) | ((with_reducible show wpAny _ _ (eval (Expr.Name _ _) _) _ _ _); (first | (with_reducible ((name_kind "local"); k_dflt (refine' nameX_L ?xFq458 ?xvq458 ?_ ?xaq458 ?xbq458; (case xaq458 => rfl); (case xbq458 => rfl); (case xFq458 => k_asm); (case xvq458 => rfl); k_whole))) | (with_reducible ((name_kind "globalImplicit"); k_dflt (refine' nameX_K ?yFq459 ?yXq459 ?yTq459 ?yeq459 ?_ ?yaq459 ?ybq459; (case yaq459 => rfl); (case ybq459 => rfl); (case yFq459 => k_asm); (case yXq459 => k_asm); (case yTq459 => k_asm); (case yeq459 => k_is); k_whole))))) | ((with_reducible show wpAny _ _ (callWith _ (Value.ref _) _ _ _) _ _ _); (with_reducible (k_dflt (refine' callWith_K ?zXq460 ?zkq460 ?_; (case zXq460 => k_asm); (case zkq460 => k_is); k_whole)))) | ((with_reducible show wpAny _ _ (binaryOp Operator.Add (Value.str _ _) (Value.str _ _)) _ _ _); (with_reducible (((first | refine add_a (by assumption) (by assumption) (by decide) ?_ | refine add_b (by assumption) (by assumption) (by decide) ?_); intro t' k')))) | ((with_reducible show wpAny _ _ (binaryOp Operator.Mult (Value.str _ _) (Value.int _ _)) _ _ _); (with_reducible (((first | refine blanks_a (by assumption) (by assumption) ?_ | refine blanks_b (by assumption) (by assumption) ?_); intro t' k')))) | ((with_reducible show wpAny _ _ (subscriptTail _ _ (Value.str _ _) (Value.int _ _)) _ _ _); (with_reducible ((k_dflt (first | refine letterJ 0 (Str.ofString "a") (by decide) (by decide) (by decide) (by decide +kernel) ?_ | refine letterJ 1 (Str.ofString "b") (by decide) (by decide) (by decide) (by decide +kernel) ?_ | refine letterJ 2 (Str.ofString "c") (by decide) (by decide) (by decide) (by decide +kernel) ?_ | refine letterJ 3 (Str.ofString "d") (by decide) (by decide) (by decide) (by decide +kernel) ?_ | refine letterJ 4 (Str.ofString "e") (by decide) (by decide) (by decide) (by decide +kernel) ?_))))) | ((with_reducible show wpAny _ _ (call (Value.builtin "list.index") _) _ _ _); (with_reducible (((with_reducible show wpAny _ _ (call (Value.builtin _) [Value.ref _, Value.int _ _]) _ _ _); k_dflt (first | refine index5 0 (by decide) (by decide) (by k_asm) (by k_mem) (by assumption) ?_ | refine index5 1 (by decide) (by decide) (by k_asm) (by k_mem) (by assumption) ?_ | refine index5 2 (by decide) (by decide) (by k_asm) (by k_mem) (by assumption) ?_ | refine index5 3 (by decide) (by decide) (by k_asm) (by k_mem) (by assumption) ?_ | refine index5 4 (by decide) (by decide) (by k_asm) (by k_mem) (by assumption) ?_); intro pl' ep' lo' hi')))) | ((with_reducible show wpAny _ _ (newList _) _ _ _); (with_reducible ((k_dflt (refine' newList_K ?k1q428 ?k2q428 ?_; (case k1q428 => k_asm); (case k2q428 => k_asm); k_whole); intro l' h' F' N' l1; (try k_lt l1); (repeat (have n1' := And.left l1; replace l1 := And.right l1)); (try k_sweep))))) | ((with_reducible show wpAny _ _ (call (Value.builtin "list.append") _) _ _ _); (with_reducible (((with_reducible show wpAny _ _ (call (Value.builtin _) [Value.ref _, _]) _ _ _); k_dflt (refine' append_K ?k1q427 ?k2q427 ?k3q427 ?_ ?zq427; (case k1q427 => k_asm); (case k2q427 => k_asm); (case k3q427 => k_upd); (case zq427 => exact Nat.le_of_ble_eq_true rfl); k_whole); intro h' F' N'; (try k_sweep))))) | ((with_reducible show wpAny _ _ (pyNext (Value.ref _)) _ _ _); (with_reducible ((k_dflt (first | (refine' pyNext_item_K ?Fq426 ?Nq426 ?lq426 ?Uq426 ?_; (case Fq426 => k_asm); (case Nq426 => k_asm); (case Uq426 => k_upd); (case lq426 => decide); k_whole; intro h' t' F' N'; (try dsimp only); (try k_sweep)) | (refine' pyNext_end_K rfl ?Fq426 ?Nq426 ?lq426 ?Iq426 ?_; (case Fq426 => k_asm); (case Nq426 => k_asm); (case lq426 => decide); (case Iq426 => (repeat' (first | exact List.forall_mem_nil _ | assumption | (refine' List.forall_mem_cons.mpr ⟨?_, ?_⟩) | (show @LT.lt Nat _ _ _; dsimp only; omega)))); intro h' F' N'; (try dsimp only); (try k_sweep))))))) | ((with_reducible show wpAny _ _ (pyIter (Value.ref _)) _ _ _); (with_reducible ((k_dflt (refine pyIter_K 5 5 (by assumption) (by rfl) (by decide) (by k_asm) (by k_asm) ?_); intro I' h' F' N' l1; (try dsimp only at N'); (try k_lt l1); (repeat (have n1' := And.left l1; replace l1 := And.right l1)))))) | ((with_reducible show Exists _); (with_reducible ((k_dflt (exact fn_there (by k_asm) (by k_asm) (by k_is) (by exact rfl)))))) | walk1 | ((fail_if_success k_end); dsimp only) | (leave1; walk_say "STEP leave1"; (try dsimp only)) | fail "no step"))
        (try dsimp only))
      refine calm_of ?_
      (repeat' (first | (k_unfold; (try dsimp only)) | (k_end; wrow_close) | ((with_reducible show wpAny _ _ (eval (Expr.Name _ _) (compEnvC _ _ _ _)) _ _ _); (first | (with_reducible ((name_kind "globalImplicit"); k_dflt (refine LCgL.ld_global (by k_asm) (by k_asm) (by k_asm) (by k_is) ?_))) | (with_reducible ((name_kind "local"); k_dflt (refine LCgL.ld_own (by k_asm) (by k_mem) (by assumption) (by assumption) ?_))) | (with_reducible (k_dflt (refine kcf_cell (by k_asm) (by rfl) (by k_mem) (by k_asm) ?_))))) | ((with_reducible show wpAny _ _ (callWith _ (Value.builtin _) (_ :: _) _ _) _ _ _); (first | (with_reducible (refine callWith_method1 ?_)) | (refine callWith_method1 ?_))) | ((with_reducible show wpAny _ _ (eval (Expr.Name _ _) _) _ _ _); (first | (with_reducible ((name_kind "local"); k_dflt (refine' nameX_L ?xFq465 ?xvq465 ?_ ?xaq465 ?xbq465; (case xaq465 => rfl); (case xbq465 => rfl); (case xFq465 => k_asm); (case xvq465 => rfl); k_whole))) | (with_reducible ((name_kind "globalImplicit"); k_dflt (refine' nameX_K ?yFq466 ?yXq466 ?yTq466 ?yeq466 ?_ ?yaq466 ?ybq466; (case yaq466 => rfl); (case ybq466 => rfl); (case yFq466 => k_asm); (case yXq466 => k_asm); (case yTq466 => k_asm); (case yeq466 => k_is); k_whole))))) | ((with_reducible show wpAny _ _ (callWith _ (Value.ref _) _ _ _) _ _ _); (with_reducible (k_dflt (refine' callWith_K ?zXq467 ?zkq467 ?_; (case zXq467 => k_asm); (case zkq467 => k_is); k_whole)))) | ((with_reducible show wpAny _ _ (binaryOp Operator.Add (Value.str _ _) (Value.str _ _)) _ _ _); (with_reducible (((first | refine add_a (by assumption) (by assumption) (by decide) ?_ | refine add_b (by assumption) (by assumption) (by decide) ?_); intro t' k')))) | ((with_reducible show wpAny _ _ (binaryOp Operator.Mult (Value.str _ _) (Value.int _ _)) _ _ _); (with_reducible (((first | refine blanks_a (by assumption) (by assumption) ?_ | refine blanks_b (by assumption) (by assumption) ?_); intro t' k')))) | ((with_reducible show wpAny _ _ (subscriptTail _ _ (Value.str _ _) (Value.int _ _)) _ _ _); (with_reducible ((k_dflt (first | refine letterJ 0 (Str.ofString "a") (by decide) (by decide) (by decide) (by decide +kernel) ?_ | refine letterJ 1 (Str.ofString "b") (by decide) (by decide) (by decide) (by decide +kernel) ?_ | refine letterJ 2 (Str.ofString "c") (by decide) (by decide) (by decide) (by decide +kernel) ?_ | refine letterJ 3 (Str.ofString "d") (by decide) (by decide) (by decide) (by decide +kernel) ?_ | refine letterJ 4 (Str.ofString "e") (by decide) (by decide) (by decide) (by decide +kernel) ?_))))) | ((with_reducible show wpAny _ _ (call (Value.builtin "list.index") _) _ _ _); (with_reducible (((with_reducible show wpAny _ _ (call (Value.builtin _) [Value.ref _, Value.int _ _]) _ _ _); k_dflt (first | refine index5 0 (by decide) (by decide) (by k_asm) (by k_mem) (by assumption) ?_ | refine index5 1 (by decide) (by decide) (by k_asm) (by k_mem) (by assumption) ?_ | refine index5 2 (by decide) (by decide) (by k_asm) (by k_mem) (by assumption) ?_ | refine index5 3 (by decide) (by decide) (by k_asm) (by k_mem) (by assumption) ?_ | refine index5 4 (by decide) (by decide) (by k_asm) (by k_mem) (by assumption) ?_); intro pl' ep' lo' hi')))) | ((with_reducible show wpAny _ _ (newList _) _ _ _); (with_reducible ((k_dflt (refine' newList_K ?k1q428 ?k2q428 ?_; (case k1q428 => k_asm); (case k2q428 => k_asm); k_whole); intro l' h' F' N' l1; (try k_lt l1); (repeat (have n1' := And.left l1; replace l1 := And.right l1)); (try k_sweep))))) | ((with_reducible show wpAny _ _ (call (Value.builtin "list.append") _) _ _ _); (with_reducible (((with_reducible show wpAny _ _ (call (Value.builtin _) [Value.ref _, _]) _ _ _); k_dflt (refine' append_K ?k1q427 ?k2q427 ?k3q427 ?_ ?zq427; (case k1q427 => k_asm); (case k2q427 => k_asm); (case k3q427 => k_upd); (case zq427 => exact Nat.le_of_ble_eq_true rfl); k_whole); intro h' F' N'; (try k_sweep))))) | ((with_reducible show wpAny _ _ (pyNext (Value.ref _)) _ _ _); (with_reducible ((k_dflt (first | (refine' pyNext_item_K ?Fq426 ?Nq426 ?lq426 ?Uq426 ?_; (case Fq426 => k_asm); (case Nq426 => k_asm); (case Uq426 => k_upd); (case lq426 => decide); k_whole; intro h' t' F' N'; (try dsimp only); (try k_sweep)) | (refine' pyNext_end_K rfl ?Fq426 ?Nq426 ?lq426 ?Iq426 ?_; (case Fq426 => k_asm); (case Nq426 => k_asm); (case lq426 => decide); (case Iq426 => (repeat' (first | exact List.forall_mem_nil _ | assumption | (refine' List.forall_mem_cons.mpr ⟨?_, ?_⟩) | (show @LT.lt Nat _ _ _; dsimp only; omega)))); intro h' F' N'; (try dsimp only); (try k_sweep))))))) | ((with_reducible show wpAny _ _ (pyIter (Value.ref _)) _ _ _); (with_reducible ((k_dflt (refine pyIter_K 5 5 (by assumption) (by rfl) (by decide) (by k_asm) (by k_asm) ?_); intro I' h' F' N' l1; (try dsimp only at N'); (try k_lt l1); (repeat (have n1' := And.left l1; replace l1 := And.right l1)))))) | ((with_reducible show Exists _); (with_reducible ((k_dflt (exact fn_there (by k_asm) (by k_asm) (by k_is) (by exact rfl)))))) | walk1 | ((fail_if_success k_end); dsimp only) | (leave1; walk_say "STEP leave1"; (try dsimp only)) | fail "no step"))
      (try dsimp only))
    refine calm_turn ?_
    (repeat' (first | (k_unfold; (try dsimp only)) | (k_end; wrow_close) | ((with_reducible show wpAny _ _ (eval (Expr.Name _ _) (compEnvC _ _ _ _)) _ _ _); (first | (with_reducible ((name_kind "globalImplicit"); k_dflt (refine LCgL.ld_global (by k_asm) (by k_asm) (by k_asm) (by k_is) ?_))) | (with_reducible ((name_kind "local"); k_dflt (refine LCgL.ld_own (by k_asm) (by k_mem) (by assumption) (by assumption) ?_))) | (with_reducible (k_dflt (refine kcf_cell (by k_asm) (by rfl) (by k_mem) (by k_asm) ?_))))) | ((with_reducible show wpAny _ _ (callWith _ (Value.builtin _) (_ :: _) _ _) _ _ _); (first | (with_reducible (refine callWith_method1 ?_)) | (refine callWith_method1 ?_))) | ((with_reducible show wpAny _ _ (eval (Expr.Name _ _) _) _ _ _); (first | (with_reducible ((name_kind "local"); k_dflt (refine' nameX_L ?xFq472 ?xvq472 ?_ ?xaq472 ?xbq472; (case xaq472 => rfl); (case xbq472 => rfl); (case xFq472 => k_asm); (case xvq472 => rfl); k_whole))) | (with_reducible ((name_kind "globalImplicit"); k_dflt (refine' nameX_K ?yFq473 ?yXq473 ?yTq473 ?yeq473 ?_ ?yaq473 ?ybq473; (case yaq473 => rfl); (case ybq473 => rfl); (case yFq473 => k_asm); (case yXq473 => k_asm); (case yTq473 => k_asm); (case yeq473 => k_is); k_whole))))) | ((with_reducible show wpAny _ _ (callWith _ (Value.ref _) _ _ _) _ _ _); (with_reducible (k_dflt (refine' callWith_K ?zXq474 ?zkq474 ?_; (case zXq474 => k_asm); (case zkq474 => k_is); k_whole)))) | ((with_reducible show wpAny _ _ (binaryOp Operator.Add (Value.str _ _) (Value.str _ _)) _ _ _); (with_reducible (((first | refine add_a (by assumption) (by assumption) (by decide) ?_ | refine add_b (by assumption) (by assumption) (by decide) ?_); intro t' k')))) | ((with_reducible show wpAny _ _ (binaryOp Operator.Mult (Value.str _ _) (Value.int _ _)) _ _ _); (with_reducible (((first | refine blanks_a (by assumption) (by assumption) ?_ | refine blanks_b (by assumption) (by assumption) ?_); intro t' k')))) | ((with_reducible show wpAny _ _ (subscriptTail _ _ (Value.str _ _) (Value.int _ _)) _ _ _); (with_reducible ((k_dflt (first | refine letterJ 0 (Str.ofString "a") (by decide) (by decide) (by decide) (by decide +kernel) ?_ | refine letterJ 1 (Str.ofString "b") (by decide) (by decide) (by decide) (by decide +kernel) ?_ | refine letterJ 2 (Str.ofString "c") (by decide) (by decide) (by decide) (by decide +kernel) ?_ | refine letterJ 3 (Str.ofString "d") (by decide) (by decide) (by decide) (by decide +kernel) ?_ | refine letterJ 4 (Str.ofString "e") (by decide) (by decide) (by decide) (by decide +kernel) ?_))))) | ((with_reducible show wpAny _ _ (call (Value.builtin "list.index") _) _ _ _); (with_reducible (((with_reducible show wpAny _ _ (call (Value.builtin _) [Value.ref _, Value.int _ _]) _ _ _); k_dflt (first | refine index5 0 (by decide) (by decide) (by k_asm) (by k_mem) (by assumption) ?_ | refine index5 1 (by decide) (by decide) (by k_asm) (by k_mem) (by assumption) ?_ | refine index5 2 (by decide) (by decide) (by k_asm) (by k_mem) (by assumption) ?_ | refine index5 3 (by decide) (by decide) (by k_asm) (by k_mem) (by assumption) ?_ | refine index5 4 (by decide) (by decide) (by k_asm) (by k_mem) (by assumption) ?_); intro pl' ep' lo' hi')))) | ((with_reducible show wpAny _ _ (newList _) _ _ _); (with_reducible ((k_dflt (refine' newList_K ?k1q428 ?k2q428 ?_; (case k1q428 => k_asm); (case k2q428 => k_asm); k_whole); intro l' h' F' N' l1; (try k_lt l1); (repeat (have n1' := And.left l1; replace l1 := And.right l1)); (try k_sweep))))) | ((with_reducible show wpAny _ _ (call (Value.builtin "list.append") _) _ _ _); (with_reducible (((with_reducible show wpAny _ _ (call (Value.builtin _) [Value.ref _, _]) _ _ _); k_dflt (refine' append_K ?k1q427 ?k2q427 ?k3q427 ?_ ?zq427; (case k1q427 => k_asm); (case k2q427 => k_asm); (case k3q427 => k_upd); (case zq427 => exact Nat.le_of_ble_eq_true rfl); k_whole); intro h' F' N'; (try k_sweep))))) | ((with_reducible show wpAny _ _ (pyNext (Value.ref _)) _ _ _); (with_reducible ((k_dflt (first | (refine' pyNext_item_K ?Fq426 ?Nq426 ?lq426 ?Uq426 ?_; (case Fq426 => k_asm); (case Nq426 => k_asm); (case Uq426 => k_upd); (case lq426 => decide); k_whole; intro h' t' F' N'; (try dsimp only); (try k_sweep)) | (refine' pyNext_end_K rfl ?Fq426 ?Nq426 ?lq426 ?Iq426 ?_; (case Fq426 => k_asm); (case Nq426 => k_asm); (case lq426 => decide); (case Iq426 => (repeat' (first | exact List.forall_mem_nil _ | assumption | (refine' List.forall_mem_cons.mpr ⟨?_, ?_⟩) | (show @LT.lt Nat _ _ _; dsimp only; omega)))); intro h' F' N'; (try dsimp only); (try k_sweep))))))) | ((with_reducible show wpAny _ _ (pyIter (Value.ref _)) _ _ _); (with_reducible ((k_dflt (refine pyIter_K 5 5 (by assumption) (by rfl) (by decide) (by k_asm) (by k_asm) ?_); intro I' h' F' N' l1; (try dsimp only at N'); (try k_lt l1); (repeat (have n1' := And.left l1; replace l1 := And.right l1)))))) | ((with_reducible show Exists _); (with_reducible ((k_dflt (exact fn_there (by k_asm) (by k_asm) (by k_is) (by exact rfl)))))) | walk1 | ((fail_if_success k_end); dsimp only) | (leave1; walk_say "STEP leave1"; (try dsimp only)) | fail "no step"))
    (try dsimp only)
    k_dflt exact hR9 _ _ _ _ ⟨_, _, _, _, _, by assumption, by assumption, by assumption, by assumption, by assumption, _, _, _, _, _, _, _, _, _, _, _, rfl⟩ (fr_lay (fr_lay (by k_asm) rfl) rfl) (by k_asm)
  obtain ⟨q0, q1, q2, q3, q4, z0, z1, z2, z3, z4, t0, t1, t2, t3, t4, t5, t6, t7, t8, t9, c9, rfl⟩ := W9
  (try dsimp only)
  refine calm_execs (calm_of ?_)
  (repeat' (first | (k_unfold; (try dsimp only)) | (k_end; wrow_close) | ((with_reducible show wpAny _ _ (eval (Expr.Name _ _) (compEnvC _ _ _ _)) _ _ _); (first | (with_reducible ((name_kind "globalImplicit"); k_dflt (refine LCgL.ld_global (by k_asm) (by k_asm) (by k_asm) (by k_is) ?_))) | (with_reducible ((name_kind "local"); k_dflt (refine LCgL.ld_own (by k_asm) (by k_mem) (by assumption) (by assumption) ?_))) | (with_reducible (k_dflt (refine kcf_cell (by k_asm) (by rfl) (by k_mem) (by k_asm) ?_))))) | ((with_reducible show wpAny _ _ (callWith _ (Value.builtin _) (_ :: _) _ _) _ _ _); (first | (with_reducible (refine callWith_method1 ?_)) | (refine callWith_method1 ?_))) | ((with_reducible show wpAny _ _ (eval (Expr.Name _ _) _) _ _ _); (first | (with_reducible ((name_kind "local"); k_dflt (refine' nameX_L ?xFq480 ?xvq480 ?_ ?xaq480 ?xbq480; (case xaq480 => rfl); (case xbq480 => rfl); (case xFq480 => k_asm); (case xvq480 => rfl); k_whole))) | (with_reducible ((name_kind "globalImplicit"); k_dflt (refine' nameX_K ?yFq481 ?yXq481 ?yTq481 ?yeq481 ?_ ?yaq481 ?ybq481; (case yaq481 => rfl); (case ybq481 => rfl); (case yFq481 => k_asm); (case yXq481 => k_asm); (case yTq481 => k_asm); (case yeq481 => k_is); k_whole))))) | ((with_reducible show wpAny _ _ (callWith _ (Value.ref _) _ _ _) _ _ _); (with_reducible (k_dflt (refine' callWith_K ?zXq482 ?zkq482 ?_; (case zXq482 => k_asm); (case zkq482 => k_is); k_whole)))) | ((with_reducible show wpAny _ _ (compareOp CmpOp.Eq (Value.ref _) (Value.ref _)) _ _ _); (with_reducible ((k_dflt (refine due_eq (by k_asm) (by k_mem) (by k_mem) (due_text (ab0 (by assumption) (by assumption))) (due_text (ar0 (by assumption) (by assumption))) (due_text (ab1 (by assumption) (by assumption))) (due_text (ar1 (by assumption) (by assumption))) (due_text (ab2 (by assumption) (by assumption))) (due_text (ar2 (by assumption) (by assumption))) (due_text (ab3 (by assumption) (by assumption))) (due_text (ar3 (by assumption) (by assumption))) (due_text (ab4 (by assumption) (by assumption))) (due_text (ar4 (by assumption) (by assumption))) (ok_above _ _ _ _ _ (by decide)) (ok_above _ _ _ _ _ (by decide)) (ok_above _ _ _ _ _ (by decide)) (ok_above _ _ _ _ _ (by decide)) (ok_above _ _ _ _ _ (by decide)) (ok_above _ _ _ _ _ (by decide)) (ok_above _ _ _ _ _ (by decide)) (ok_above _ _ _ _ _ (by decide)) (ok_above _ _ _ _ _ (by decide)) (ok_above _ _ _ _ _ (by decide)) (by ke_room) ?_))))) | walk1 | ((fail_if_success k_end); dsimp only) | (leave1; walk_say "STEP leave1"; (try dsimp only)) | fail "no step"))
  (try dsimp only)
  refine cut_end (by assumption) ?_
  k_dflt exact ⟨_, _, _, _, rfl, by k_asm, news_one (by k_asm) (by k_mem)⟩)
end Mine
end

theorem PySem.Challenge.cw_zn0002_01_holds : PySem.Challenge.rw_zn0002_01.Holds :=
  Mine.law_holds
